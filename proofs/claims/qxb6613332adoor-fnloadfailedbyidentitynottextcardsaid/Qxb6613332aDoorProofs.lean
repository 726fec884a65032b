/-
  THE ROW AND THE TIED CARD of FnLoadFailedByIdentityNotText, after the guide's worked texts Sent6Proofs (a sentinel opened), MapyProofs (the witness in the heap that the door's own run leaves) and MapyCard (the card).
-/
import Derived.Test.Qxb6613332aDoorCards
import Derived.Test.Qxb6613332aDoorTie
import Derived.Test.Qxb6613332aDoorWalks
import Derived.ProofKit
import Derived.LaidMore
import Derived.OpenShut
import Derived.ShutString
import Derived.Stop.Joined
import Derived.Stop.LaidErr
import Derived.SevenTiedAt
namespace Go.Proofs.Qxb6613332aDoor
open Go.ChangeShapes Go.WideShapes Go.ChangeAt Go.RowKit
open Go.ChangeMaps (open_string shut_string)

/-- The sentinel's name, off the given specification. -/
abbrev nm : String := Rows.fnLoadFailedByIdentityNotTextSpec.vars.headD ""
abbrev theLaid : List (String × DataW Unit) := Rows.fnLoadFailedByIdentityNotTextRow.laid

theorem own : ownKnob Tryd.prog.godebug = none := by kernel_rfl
theorem gErr : Tryd.prog.globalNamed nm = some 0 := by kernel_rfl
theorem tErr : (Tryd.prog.globals[0]?).map (·.type) = some 26 := by kernel_rfl
theorem Tryd.cells33 : Tryd.prog.cellsOf 33 = 1 := by kernel_rfl
theorem Tryd.cells9 : Tryd.prog.cellsOf 9 = 1 := by kernel_rfl
/-- The dynamic type's name, off the given datum. -/
def tname : String := match (Rows.laid_example_com_calmcache_calmcache_errClosed : DataW Unit) with | .iface n _ => n | _ => ""
theorem row31 (u : TypeId) (h : Tryd.prog.typeName? 3 u = some tname) : u = 31 :=
  typeName_ptr_named (nm := "errors.errorString") (by kernel_rfl) (by kernel_rfl) (by decide) u (h.trans (by kernel_rfl))

/-- WHAT THE CONDITION GIVES THE WALKS: the variable holds a pointer, a string lies there, and its row of cells bears the frozen range (0, 0). -/
theorem sentinel_of_laid {W : World} (h : laidMetH Tryd.prog theLaid W) :
    ∃ (b : Addr) (s : ByteArray) (cb : Array Value) (tb : TypeId), W.var? Tryd.prog nm = some #[.iface 31 (.pointer (some b))] ∧ W.cell? b = some (.string s) ∧ W.heap[b.block]? = some (.cells cb tb (0, 0)) := by
  rw [MakeChecks.laidMetH_plain _ _ _ (by kernel_rfl)] at h
  obtain ⟨ps, ⟨g0, t0, cs0, f0, p0, q0, hg0, ht0, hv0, hd0, _, e0⟩, _, hrows⟩ := h
  obtain rfl := Option.some.inj (gErr.symm.trans hg0)
  obtain rfl := Option.some.inj (tErr.symm.trans ht0)
  subst e0
  obtain ⟨l0⟩ := cs0
  have ok0 : ∀ u v, l0 = [.iface u v] → Value.okWide Tryd.prog W .any 0 u v := fun u v e => by
    subst e
    exact (hrows 0 0 (by simp [MemPlace.row])).2 u v (by simpa using World.var?_cell hg0 hv0 0)
  obtain ⟨b, s, rfl, hc0, _, _, rfl⟩ := errorString_of_trod Tryd.underlying26 row31 Tryd.underlying31 Tryd.underlying33 rfl rfl Tryd.underlying9 Tryd.cells33 Tryd.cells9 hd0 ok0
  obtain ⟨cb, tb, hb⟩ := (hrows b.block b.off (by simp [MemPlace.row])).1
  exact ⟨b, s, cb, tb, hv0, hc0, hb⟩

/-- The door's own heap meets the condition. -/
theorem door_met (os : Os) (args : Array Value) : laidMetH Tryd.prog theLaid ((World.doorLaid Tryd.prog 400 os).forCall (fun _ _ => 0) ⟨#[], args, []⟩).memory :=
  laidMetH_of_parts3 (fuel := 8) (laidMet_of_run' 8 (by kernel_rfl) (by kernel_rfl)) (by kernel_rfl) (by kernel_rfl)

theorem vars_read {H : Type} (enc : TypeId × Value → H) {W : World} {x : Value} (h : W.var? Tryd.prog nm = some #[x]) (ix : IsIface x) (sp : Nat → Bool) :
    DataW.TrodVars enc Tryd.prog W sp Rows.fnLoadFailedByIdentityNotTextSpec.vars [tok enc x] [.cell 0 0] :=
  vars_read1 enc gErr tErr Tryd.underlying26 h ix sp

set_option maxRecDepth 100000 in
theorem lifted (os : Os) (started : os.Started) (H : Type) (enc : TypeId × Value → H) :
    ReturnsInHanded {} Tryd.checked os 3 .any (fun w args => (Rows.fnLoadFailedByIdentityNotTextSpec.pre enc Tryd.prog Tryd.f3 [] false w args ∧ laidMetH Tryd.prog theLaid w) ∧ sizedMet enc Tryd.prog Tryd.f3 (OpenSpec.ofChange Rows.fnLoadFailedByIdentityNotTextSpec) false w args)
      (Rows.fnLoadFailedByIdentityNotTextSpec.post enc Tryd.prog Tryd.f3 false true false false) := by
  refine returnsInHanded_of_change_and (C := Tryd.checked) (X := fun w _ => laidMetH Tryd.prog theLaid w) (fun _ _ _ hh h => h.of_heap hh) own started (by kernel_rfl) Tryd.func3
    (ChangeSpec.witness_shaped (enc := enc) (C := Tryd.checked) (os := os) (X := fun w _ => laidMetH Tryd.prog theLaid w) false (World.doorLaid Tryd.prog 400 os) #[.string ByteArray.empty] 8 rfl (World.shaped_of_RefB (by kernel_rfl) (by kernel_rfl)) (by kernel_rfl) (by kernel_rfl) (by kernel_rfl) (door_met os _)) ?_
  intro W base args ds gs before hval0 hW _ _ hL _
  have hval : ∀ (j : Nat) t v, Tryd.f3.params[j]? = some t → args[j]? = some v → Value.okWide Tryd.prog W .any base t v := hval0
  have hW' := hW
  obtain ⟨p, q, hA0, hV0, rfl, hfz, hnd⟩ := hW
  have hA : DataW.TrodAll enc Tryd.prog W 0 (fun _ => true) true Tryd.f3.params.toList args.toList ds p := hA0
  have hV : DataW.TrodVars enc Tryd.prog W (fun _ => true) Rows.fnLoadFailedByIdentityNotTextSpec.vars gs q := hV0
  rw [Tryd.params3] at hA hval
  obtain ⟨v0, d0, rfl, rfl, h0⟩ := trodAll_one hA
  obtain ⟨a0, rfl, rfl, rfl, w0⟩ := open_string Tryd.underlying9 (hval 0 9 v0 rfl rfl) h0
  obtain ⟨b, s, cb, tb, hv, hc, hb⟩ := sentinel_of_laid hL
  obtain ⟨rfl, rfl⟩ := hV.unique (vars_read enc hv trivial _)
  clear hA0 hV0 hval0
  have hg : W.cell? ⟨0, 0, none⟩ = some (.iface 31 (.pointer (some b))) := by simpa using World.var?_cell gErr hv 0
  by_cases hs : a0.size ≤ 1048576
  · refine (law_short a0 s b cb tb W hs hg hc hb).mono fun e W' ⟨he, hw⟩ => ?_
    subst he; subst hw
    refine ⟨_, rfl, _, _, _, [], [], [.cell 0 0], hW', ?_, ?_, ?_, World.keptBut_trans (World.keptBut_alloc _ _ _) (World.keptBut_alloc _ _ _), fun h => by cases h⟩
    · exact trodAll_mk1 (shut_bool Tryd.underlying4 true)
    · exact trodAll_mk1 (shut_string Tryd.underlying9 w0)
    · exact vars_read enc (var?_alloc (var?_alloc hv)) trivial _
  · refine (law_long a0 W (by omega)).mono fun e W' ⟨he, hw⟩ => ?_
    subst he; subst hw
    refine ⟨_, rfl, _, _, _, [], [], [.cell 0 0], hW', ?_, ?_, ?_, World.keptBut_refl _ _, fun h => by cases h⟩
    · exact trodAll_mk1 (shut_bool Tryd.underlying4 true)
    · exact trodAll_mk1 (shut_string Tryd.underlying9 w0)
    · exact vars_read enc hv trivial _

theorem row_holds : Rows.FnLoadFailedByIdentityNotTextSaid :=
  OpenClaim.holds_of_wide 3 Tryd.f3 rfl rfl rfl rfl rfl rfl rfl ⟨rfl, rfl, rfl, rfl, rfl⟩ rfl rfl rfl rfl rfl (by kernel_rfl) Tryd.func3 (by kernel_rfl)
    (of_decide_eq_true (by kernel_rfl)) (by unfold Func.isWrapper; first | (rw [if_pos (by decide +kernel)]; kernel_rfl) | (rw [if_neg (by decide +kernel)]; exact ⟨rfl, rfl⟩))
    (fun os started H enc _ => lifted os started H enc)

/-- THE STATEMENT: the tied card. -/
theorem card_proved : Rows.FnLoadFailedByIdentityNotTextCardSaid :=
  Claim7.holds_tied_plain_at .later [] [.called] true Rows.fnLoadFailedByIdentityNotTextCard.stood.harness true
    row_holds (fun _ h => by cases h) (by kernel_rfl) (fun _ h => by cases h) fnLoadFailedByIdentityNotText_row_tie rfl ⟨rfl, rfl⟩ (by kernel_rfl) rfl
    (fun f fn hf hfn => by
      obtain rfl : f = 3 := Option.some.inj ((show Tryd.prog.funcNamed Rows.fnLoadFailedByIdentityNotTextRow.func = some 3 by kernel_rfl).symm.trans hf) |>.symm
      obtain rfl : fn = Tryd.f3 := (Option.some.inj (Tryd.func3.symm.trans hfn)).symm
      exact ⟨by kernel_rfl, fun j t ht => by
        rw [Tryd.params3] at ht
        have hm : t ∈ [9] := by simpa using Array.mem_of_getElem? ht
        have hall : ([9].all fun u => !Tryd.prog.wantsStandIn u) = true := by kernel_rfl
        exact (show Tryd.prog.wantsStandIn t = false by simpa using List.all_eq_true.1 hall t hm)⟩)
    (by kernel_rfl)
end Go.Proofs.Qxb6613332aDoor
