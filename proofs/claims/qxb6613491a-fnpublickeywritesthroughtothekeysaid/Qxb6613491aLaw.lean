/-
  THE WALK of the law (function 5).
-/
import Derived.Test.Qxb6613491aWalks
import Derived.Deep.QuietTactic
import Derived.BigQuiet
import Derived.Deep.Cut
import Derived.WalkSmall
namespace Go.Proofs.Qxb6613491a
open Go.RowKit

theorem below_drewN {B : Nat} {a w : World} (h : Below B a w) (n : Nat) : Below B a (w.drewN n) := h.trans ⟨rfl, rfl, rfl, Nat.le_refl _, fun _ _ => rfl⟩

theorem lt_of_row {w : World} {k : Nat} {x : Obj} (h : w.heap[k]? = some x) : k < w.heap.size := by
  rcases Nat.lt_or_ge k w.heap.size with h' | h'
  · exact h'
  · simp [Array.getElem?_eq_none h'] at h

/-- Outside the index range: true at once; the one new block is the argument's own box. -/
theorem law_low (p : Array Value) (i v : Int) (hi : i < 0) (w : World) :
    Calls Try.prog 5 #[.agg p, .int .i64 i, .int .u8 v] w fun e w' => e = .returned (.bool true) ∧ w' = w.alloc (.cells p 24) := by
  go_enter Try.func5, Try.ntmps5
  go_wp2
  go_ret
  exact ⟨rfl, rfl⟩
theorem law_high (p : Array Value) (i v : Int) (hi : 1158 ≤ i) (w : World) :
    Calls Try.prog 5 #[.agg p, .int .i64 i, .int .u8 v] w fun e w' => e = .returned (.bool true) ∧ w' = w.alloc (.cells p 24) := by
  have h0 : ¬ i < 0 := by omega
  go_enter Try.func5, Try.ntmps5
  go_wp2
  go_ret
  exact ⟨rfl, rfl⟩

set_option maxHeartbeats 400000 in
theorem law_in (p : Array Value) (hp : p.size = 1158) (f : Nat → Int) (hf : ∀ j, j < 1158 → p[j]? = some (.int .u8 (f j))) (i v : Int) (i0 : 0 ≤ i) (i1 : i < 1158) (w : World) :
    Calls Try.prog 5 #[.agg p, .int .i64 i, .int .u8 v] w fun e w' => e = .returned (.bool true) ∧ Below w.heap.size w w' := by
  obtain ⟨Z4, hz4, s4⟩ : ∃ Z : Array Value, (∀ w, (zeroValue 24).run Try.prog w = .ok (.agg Z) w) ∧ Z.size = 1158 := ⟨z24, (zero_of_info info24).1, by rw [z24, Array.size_replicate]⟩
  obtain ⟨Z5, hz5, s5⟩ : ∃ Z : Array Value, (∀ w, (zeroValue 25).run Try.prog w = .ok (.agg Z) w) ∧ Z.size = 191 := ⟨z25, (zero_of_info info25).1, by rw [z25, Array.size_replicate]⟩
  obtain ⟨Z6, hz6, s6⟩ : ∃ Z : Array Value, (∀ w, (zeroValue 26).run Try.prog w = .ok (.agg Z) w) ∧ Z.size = 32 := ⟨z26, (zero_of_info info26).1, by rw [z26, Array.size_replicate]⟩
  have s24 : (Try.prog.info? 24).map (·.size) = some p.size := by rw [hp]; exact size24
  have s25 : (Try.prog.info? 25).map (·.size) = some Z5.size := by rw [s5]; exact size25
  have s26 : (Try.prog.info? 26).map (·.size) = some Z6.size := by rw [s6]; exact size26
  have HP : Hid (p.size = 1158) := hp
  have H4 : Hid (Z4.size = 1158) := s4
  have H5 : Hid (Z5.size = 191) := s5
  have H6 : Hid (Z6.size = 32) := s6
  have HF : Hid (∀ j, j < 1158 → p[j]? = some (.int .u8 (f j))) := hf
  clear hp s4 s5 s6 hf
  go_enter Try.func5, Try.ntmps5
  go_wp2_with (first
    | (with_reducible refine at_load (t := 24) ?_
       refine wpList_load_row rfl 24 _ rfl _ rfl 24 p (0, 0) _ push3_0 Try.underlying24 rfl s24 ?_)
    | (with_reducible refine at_load (t := 25) ?_
       refine wpList_load_row rfl 25 _ rfl _ rfl 25 Z5 (0, 0) _ push3_1 Try.underlying25 rfl s25 ?_)
    | (with_reducible refine at_load (t := 26) ?_
       refine wpList_load_row rfl 26 _ rfl _ rfl 26 Z6 (0, 0) _ push3_2 Try.underlying26 rfl s26 ?_))
  refine (new_key p Z5 Z6 HP.out H5.out H6.out _).mono ?_
  rintro e w7 ⟨g, C, rfl, hle, hg, hC, hk, hb⟩
  have hsz : (((w.alloc (.cells p 24)).alloc (.cells Z5 25)).alloc (.cells Z6 26)).heap.size = w.heap.size + 3 := by simp [heap_push]
  rw [hsz] at hle hb
  have hB : Below w.heap.size w w7 := ((((Below.refl _ _).alloc (Nat.le_refl _) _).alloc (by simp [heap_push]) _).alloc (by simp [heap_push]; omega) _).trans (hb.mono (by omega))
  have hb0 : w7.heap[w.heap.size]? = some (.cells p 24 (0, 0)) := (hb.block _ (by omega)).trans push3_0
  have HC : Hid (C.size = 3664) := hC
  have HK : Hid (∀ j, j < 1158 → C[2283 + j]? = some (.int .u8 (f j))) := fun j hj => (hk j hj).trans (HF.out j hj)
  have HL : Hid (w.heap.size + 3 ≤ g) := hle
  clear hC hk hle hsz hb s24 s25 s26 hz5 hz6 H5 H6
  have h0 : Hid (w7.heap[w.heap.size]? = some (.cells p 24 (0, 0))) := hb0
  have hG : Hid (w7.heap[g]? = some (.cells C 38 (0, 0))) := hg
  clear hb0 hg
  go_wp2_with (go_at_call 8; refine (pub_any g _).mono ?_; rintro e w' ⟨rfl, rfl⟩)
  go_loopw [11] (fun j wr => ∃ k : Int, 0 ≤ k ∧ k ≤ 1158 ∧ j = .int .i64 k ∧ Hid (wr.heap[w.heap.size]? = some (.cells p 24 (0, 0))) ∧ Hid (wr.heap[g]? = some (.cells C 38 (0, 0))) ∧ Below w.heap.size w wr) (fun j _ => 1158 - (intOf j).toNat)
  case atStart => exact ⟨0, by omega, by omega, rfl, h0, hG, hB⟩
  case round =>
    clear h0 hG hB
    obtain ⟨k, k0, k1, rfl, h0, hG, hB⟩ := hrel
    by_cases hlt : k < 1158
    · have c0 := cell_of_row _ _ k.toNat _ _ _ h0.out
      rw [HF.out k.toNat (by omega)] at c0
      have c1 := cell_of_row _ _ (2283 + k.toNat) _ _ _ hG.out
      rw [HK.out k.toNat (by omega)] at c1
      go_wp2
      go_quiet (fail)
      go_wp2
      go_roundw
      case rel => exact ⟨k + 1, by omega, by omega, rfl, h0, hG, below_drewN hB _⟩
      case measure => simp [intOf]; omega
    · have ci := cell_of_row _ _ (2283 + i.toNat) _ _ _ hG.out
      rw [HK.out i.toNat (by omega)] at ci
      have fi := frozen_of_row _ _ (2283 + i.toNat) _ _ hG.out
      have hgw : w.heap.size ≠ g := by have := HL.out; omega
      have HGW : Hid (w.heap.size ≠ g) := hgw
      have j0 : Hid ((wr.setCell ⟨g, 2283 + i.toNat, none⟩ (.int .u8 v)).heap[w.heap.size]? = some (.cells p 24 (0, 0))) := (heap_setCell_other wr ⟨g, 2283 + i.toNat, none⟩ _ _ hgw).trans h0.out
      have jG : Hid ((wr.setCell ⟨g, 2283 + i.toNat, none⟩ (.int .u8 v)).heap[g]? = some (.cells (C.setIfInBounds (2283 + i.toNat) (.int .u8 v)) 38 (0, 0))) := heap_setCell_same wr g _ C 38 _ hG.out
      have jB : Below w.heap.size w (wr.setCell ⟨g, 2283 + i.toNat, none⟩ (.int .u8 v)) := hB.setCell (by have := HL.out; show w.heap.size ≤ g; omega) _
      have jC : Hid ((C.setIfInBounds (2283 + i.toNat) (.int .u8 v)).size = 3664) := by rw [Hid, Array.size_setIfInBounds]; exact HC.out
      have jK : Hid (∀ j, j < 1158 → (C.setIfInBounds (2283 + i.toNat) (.int .u8 v))[2283 + j]? = some (.int .u8 (if j = i.toNat then v else f j))) := fun j hj => by
        by_cases e : j = i.toNat
        · subst e
          rw [Array.getElem?_setIfInBounds_self_of_lt (by have := HC.out; omega), if_pos rfl]
        · rw [Array.getElem?_setIfInBounds_ne (by omega), if_neg e]
          exact HK.out j hj
      clear hgw
      go_wp2_with fail
      clear ci fi h0 hG hB HK HC hlt k0 k1
      revert j0 jG jB jC jK
      generalize wr.setCell ⟨g, 2283 + i.toNat, none⟩ (.int .u8 v) = W9
      generalize C.setIfInBounds (2283 + i.toNat) (.int .u8 v) = C9
      intro j0 jG jB jC jK
      refine (pub_any g _).mono ?_
      rintro e W ⟨rfl, rfl⟩
      go_wp2_with fail
      refine (of_key g C9 _ _ jG.out jC.out jK.out).mono ?_
      rintro e w10 ⟨X, rfl, hX, hq, h1, hb⟩
      have lg := lt_of_row jG.out
      have l0 := lt_of_row j0.out
      have m0 : Hid (∀ j, (w10.alloc (.cells X 24)).cell? ⟨w.heap.size, j, none⟩ = p[j]?) := fun j =>
        cell_of_row _ _ j _ 24 (0, 0) ((Below.heap_alloc w10 _ _ (Nat.lt_of_lt_of_le l0 hb.size)).trans ((hb.block _ l0).trans j0.out))
      have mG : Hid (∀ j, (w10.alloc (.cells X 24)).cell? ⟨g, j, none⟩ = C9[j]?) := fun j =>
        cell_of_row _ _ j _ 38 (0, 0) ((Below.heap_alloc w10 _ _ (Nat.lt_of_lt_of_le lg hb.size)).trans ((hb.block _ lg).trans jG.out))
      have mX : Hid (∀ j, (w10.alloc (.cells X 24)).cell? ⟨w10.heap.size, j, none⟩ = X[j]?) := fun j => cell_of_row _ _ j _ 24 (0, 0) (heap_alloc_last w10 _)
      have mB : Hid (Below w.heap.size w (w10.alloc (.cells X 24))) := (jB.trans (hb.mono (by omega))).alloc (Nat.le_trans jB.size hb.size) _
      have hn : (w10.alloc (.cells Z4 24)).heap[w10.heap.size]? = some (.cells Z4 24 (0, 0)) := heap_alloc_last w10 _
      have s24 : (Try.prog.info? 24).map (·.size) = some X.size := by rw [hX]; exact size24
      have hl : Z4.size = X.size := H4.out.trans hX.symm
      have HQ : Hid (∀ j, j < 1158 → X[j]? = some (.int .u8 (if j = i.toNat then v else f j))) := hq
      clear hX hq hb lg l0 j0 jG jB jC HP H4 HL HGW
      go_wp2_with (with_reducible refine at_store (t := 24) ?_
                   refine wpList_store_row rfl 24 _ _ rfl _ X rfl rfl 24 Z4 hn s24 hl h1 ?_
                   rw [World.setRow_alloc_new])
      clear hz4 hn s24 hl h1
      revert m0 mG mX mB
      generalize w10.alloc (.cells X 24) = W11
      generalize w10.heap.size = B
      intro m0 mG mX mB
      go_loop [14] (fun j => ∃ k : Int, 0 ≤ k ∧ k ≤ 1158 ∧ j = .int .i64 k) (fun j => 1158 - (intOf j).toNat)
      case atStart => exact ⟨0, by omega, by omega, rfl⟩
      case round =>
        obtain ⟨m, k0, k1, rfl⟩ := hrel
        by_cases hlt : m < 1158
        · have c0 := (m0.out m.toNat).trans (HF.out m.toNat (by omega))
          have c1 := (mG.out (2283 + m.toNat)).trans (jK.out m.toNat (by omega))
          have c2 := (mX.out m.toNat).trans (HQ.out m.toNat (by omega))
          by_cases he : m = i
          · subst he
            rw [if_pos rfl] at c1 c2
            go_wp2
            go_round
            case rel => exact ⟨m + 1, by omega, by omega, rfl⟩
            case measure => simp [intOf]; omega
          · rw [if_neg (by omega)] at c1 c2
            have hne : (m == i) = false := by simpa using he
            go_wp2
            go_round
            case rel => exact ⟨m + 1, by omega, by omega, rfl⟩
            case measure => simp [intOf]; omega
        · go_wp2
          go_ret
          exact ⟨rfl, mB.out⟩

end Go.Proofs.Qxb6613491a
