/-
  THE STATEMENT Rows.FnPublicKeyWritesThroughToTheKeySaid: the walk (Qxb6613491aLaw) lifted into the row: the array argument opened by 'DataW.trod_array', read again behind the call by 'Below.trod'.
-/
import Derived.Test.Qxb6613491aLaw
import Derived.Test.Qxb6613491aWitness
import Derived.ProofKit
import Derived.OpenShut
import Derived.ChangeOld
import Derived.Below
namespace Go.Proofs.Qxb6613491a
open Go.ChangeShapes Go.WideShapes Go.ChangeAt Go.RowKit

theorem own : ownKnob Try.prog.godebug = none := by kernel_rfl
theorem laidOut : laidOutB Try.prog = true := by kernel_rfl

theorem okWide_array {P : Program} {w : World} {r : Reach} {base : Nat} {t e : TypeId} {n : Nat} {v : Value} (ht : P.underlying t = some (.array n e)) (h : Value.okWide P w r base t v) : ∃ cs, v = .agg cs ∧ cs.size = P.cellsOf t := by
  simp only [Value.okWide, ht] at h
  obtain ⟨cs, h1, h2, _⟩ := h
  exact ⟨cs, h1, h2⟩

/-- The number in cell j. -/
def numAt (cs : Array Value) (j : Nat) : Int := match cs[j]? with | some (.int _ n) => n | _ => 0

/-- An array of bytes that reads as data holds bytes. -/
theorem bytes_of_trod {H : Type} {enc : TypeId × Value → H} {W : World} {cs : Array Value} {d : DataW H} {ps : List MemPlace} (hsz : cs.size = 1158)
    (h : DataW.Trod enc Try.prog W 0 (fun _ => true) true 24 (.agg cs) d ps) : ∀ j, j < 1158 → cs[j]? = some (.int .u8 (numAt cs j)) := by
  obtain ⟨fuel, hf⟩ := h
  obtain ⟨xs, m, _, _, _, hxs, hel⟩ := DataW.trod_array Try.underlying24 hf
  intro j hj
  have he := hel j hj
  rw [List.getElem?_eq_getElem (by rw [hxs]; exact hj)] at he
  obtain ⟨k, hk, _, _⟩ := DataW.trod_int Try.underlying5 he
  rw [Try.cells5] at hk
  have hjc : j < cs.toList.length := by rw [Array.length_toList, hsz]; exact hj
  have hd : (cs.toList.drop (j * 1)).take 1 = [cs.toList[j]] := by
    rw [Nat.mul_one, List.drop_eq_getElem_cons hjc]
    rfl
  have hk' : (cs.toList.drop (j * 1)).take 1 = [.int .u8 k] := hk
  rw [hd] at hk'
  have e : cs[j]? = some (.int .u8 k) := by
    rw [← Array.getElem?_toList, List.getElem?_eq_getElem hjc]
    simpa using hk'
  rw [e]
  simp [numAt, e]

set_option maxRecDepth 100000 in
theorem lifted (os : Os) (started : os.Started) (H : Type) (enc : TypeId × Value → H) :
    ReturnsInHanded {} Try.checked os 5 .any (Rows.fnPublicKeyWritesThroughToTheKeySpec.pre6 enc Try.prog Try.f5 Rows.fnPublicKeyWritesThroughToTheKeyRow.domain false) (Rows.fnPublicKeyWritesThroughToTheKeySpec.post enc Try.prog Try.f5 false true false false) := by
  refine returnsInHanded_of_change (C := Try.checked) own started (by kernel_rfl) Try.func5
    (witness os enc) ?_
  intro W base args ds gs before hval0 hW hcnd _
  have hval : ∀ (j : Nat) t v, Try.f5.params[j]? = some t → args[j]? = some v → Value.okWide Try.prog W .any base t v := hval0
  have hW' := hW
  obtain ⟨p, q, hA0, hV, rfl, hfz, hnd⟩ := hW
  have hA : DataW.TrodAll enc Try.prog W 0 (fun _ => true) true Try.f5.params.toList args.toList ds p := hA0
  rw [Try.params5] at hA hval
  obtain ⟨v0, vs0, d0, ds0, p0, q0, hargs, rfl, rfl, h0, r0⟩ := trodAll_cons hA
  obtain ⟨v1, vs1, d1, ds1, p1, q1, rfl, rfl, rfl, h1, r1⟩ := trodAll_cons r0
  obtain ⟨v2, vs2, d2, ds2, p2, q2, rfl, rfl, rfl, h2, r2⟩ := trodAll_cons r1
  obtain ⟨rfl, rfl, rfl⟩ := trodAll_nil r2
  obtain rfl : args = #[v0, v1, v2] := by cases args; simp_all
  obtain ⟨rfl, rfl⟩ := trodVars_none hV
  obtain ⟨cs, rfl, hsz⟩ := okWide_array Try.underlying24 (hval 0 24 v0 rfl rfl)
  rw [Try.cells24] at hsz
  have k0 := h0
  have lt0 : ∀ x ∈ p0, x.block < W.heap.size := by obtain ⟨m, hm⟩ := k0; exact DataW.trod_lt m _ _ _ hm
  have hby := bytes_of_trod hsz h0
  obtain ⟨a1, rfl, rfl, rfl, w1⟩ := open_int Try.underlying3 (hval 1 3 v1 rfl rfl) h1
  obtain ⟨a2, rfl, rfl, rfl, w2⟩ := open_int Try.underlying5 (hval 2 5 v2 rfl rfl) h2
  clear hA0 hval0
  have walk : Calls Try.prog 5 #[.agg cs, .int .i64 a1, .int .u8 a2] W fun e w' => e = .returned (.bool true) ∧ Below W.heap.size W w' := by
    by_cases hlo : a1 < 0
    · refine (law_low cs a1 a2 hlo W).mono ?_
      rintro e w' ⟨rfl, rfl⟩
      exact ⟨rfl, (Below.refl _ _).alloc (Nat.le_refl _) _⟩
    by_cases hhi : 1158 ≤ a1
    · refine (law_high cs a1 a2 hhi W).mono ?_
      rintro e w' ⟨rfl, rfl⟩
      exact ⟨rfl, (Below.refl _ _).alloc (Nat.le_refl _) _⟩
    exact law_in cs hsz (numAt cs) hby a1 a2 (by omega) (by omega) W
  refine walk.mono fun e W' ⟨he, bel⟩ => ?_
  subst he
  exact ⟨_, rfl, _, _, _, [], _, [], hW', trodAll_mk1 (shut_bool Try.underlying4 _), (trodAll_cons_mk (Below.trod laidOut (by kernel_rfl) (of_decide_eq_true (by kernel_rfl)) k0 bel lt0) (trodAll_cons_mk (shut_int Try.underlying3 w1) (trodAll_cons_mk (shut_int Try.underlying5 w2) trodAll_mk0))), rfl, bel.frame _, fun h => by cases h⟩

/-- THE STATEMENT. -/
theorem key_proved : Rows.FnPublicKeyWritesThroughToTheKeySaid :=
  OpenClaim.holds_of_wide 5 Try.f5 rfl rfl rfl rfl rfl rfl rfl ⟨rfl, rfl, rfl, rfl, rfl⟩ rfl rfl rfl rfl rfl (by kernel_rfl) Try.func5 (by kernel_rfl)
    (of_decide_eq_true (by kernel_rfl)) (by unfold Func.isWrapper; first | (rw [if_pos (by decide +kernel)]; kernel_rfl) | (rw [if_neg (by decide +kernel)]; exact ⟨rfl, rfl⟩))
    (fun os started H enc _ => lifted os started H enc)

end Go.Proofs.Qxb6613491a
