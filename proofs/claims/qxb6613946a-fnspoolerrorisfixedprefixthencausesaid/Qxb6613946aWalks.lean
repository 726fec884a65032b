/-
  THE CALLEES of both laws, by their contracts. 24: *SpoolError · 26: error · 29: SpoolError · 31: *errors.errorString · 33: errors.errorString · functions: 5, 7: the bounds · 6: ZZSpoolErrorText · 8: ZZSpoolErrorOfSpoolText · 9: errors.New · 10: (*SpoolError).Error · 26: (*errors.errorString).Error.
-/
import Derived.Test.Qxb6613946aRows
import Derived.WalkKit
import Derived.RowKit3
namespace Go.Proofs.Qxb6613946a
open Go.RowKit

/-- The fixed head of the text: 'cannot keep what arrives in a temporary file: '. -/
def pre : ByteArray := { data := #[99, 97, 110, 110, 111, 116, 32, 107, 101, 101, 112, 32, 119, 104, 97, 116, 32, 97, 114, 114, 105, 118, 101, 115, 32, 105, 110, 32, 97, 32, 116, 101, 109, 112, 111, 114, 97, 114, 121, 32, 102, 105, 108, 101, 58, 32] }
theorem pre_size : pre.size = 46 := rfl
theorem pre_none : pre ++ ({ data := #[] } : ByteArray) = pre := by
  apply ByteArray.ext
  simp [ByteArray.data_append]

theorem methodE (v : Value) (w : World) : (Go.method 150 31 v "Error").run Try.prog w = .ok (26, v) w := by kernel_rfl
theorem methodS (v : Value) (w : World) : (Go.method 150 24 v "Error").run Try.prog w = .ok (10, v) w := by kernel_rfl

/-- errors.New(s). -/
theorem new_any (s : ByteArray) (w : World) :
    Calls Try.prog 9 #[.string s] w fun e w' => e = .returned (.iface 31 (.pointer (some ⟨w.heap.size, 0, none⟩))) ∧ w' = w.alloc (.cells #[.string s] 33) := by
  go_enter Try.func9, Try.ntmps9
  go_wp2
  go_ret
  exact ⟨rfl, rfl⟩

/-- (*errors.errorString).Error. -/
theorem err_any (a : Addr) (s : ByteArray) (w : World) (hc : w.cell? a = some (.string s)) :
    Calls Try.prog 26 #[.pointer (some a)] w fun e w' => e = .returned (.string s) ∧ w' = w := by
  obtain ⟨b, o, m⟩ := a
  go_enter Try.func26, Try.ntmps26
  go_wp2
  go_ret
  exact ⟨rfl, rfl⟩

/-- (*SpoolError).Error over a cause of errors.New's make. -/
theorem spool_any (b : Nat) (a : Addr) (s : ByteArray) (w : World) (hb : w.cell? ⟨b, 0, none⟩ = some (.iface 31 (.pointer (some a)))) (hc : w.cell? a = some (.string s)) (hs : s.size ≤ 1048576) :
    Calls Try.prog 10 #[.pointer (some ⟨b, 0, none⟩)] w fun e w' => e = .returned (.string (pre ++ s)) ∧ w' = w := by
  have mE := methodE
  go_enter Try.func10, Try.ntmps10
  go_wp2_with (go_at_call 26; refine (err_any a s _ ?_).mono ?_; exact hc; rintro e w' ⟨rfl, rfl⟩)
  go_ret
  exact ⟨rfl, rfl⟩

/-- (*SpoolError).Error over a SpoolError over a cause of errors.New's make. -/
theorem spool_spool (b c : Nat) (a : Addr) (s : ByteArray) (w : World) (hb : w.cell? ⟨b, 0, none⟩ = some (.iface 24 (.pointer (some ⟨c, 0, none⟩)))) (hd : w.cell? ⟨c, 0, none⟩ = some (.iface 31 (.pointer (some a)))) (hc : w.cell? a = some (.string s)) (hs : s.size ≤ 1048576) :
    Calls Try.prog 10 #[.pointer (some ⟨b, 0, none⟩)] w fun e w' => e = .returned (.string (pre ++ (pre ++ s))) ∧ w' = w := by
  have mS := methodS
  have ps := pre_size
  go_enter Try.func10, Try.ntmps10
  go_wp2_with (go_at_call 10; refine (spool_any c a s _ ?_ ?_ hs).mono ?_; exact hd; exact hc; rintro e w' ⟨rfl, rfl⟩)
  go_ret
  exact ⟨rfl, rfl⟩

/-- ZZSpoolErrorText(s). -/
theorem text_any (s : ByteArray) (w : World) (hs : s.size ≤ 1048576) :
    Calls Try.prog 6 #[.string s] w fun e w' => e = .returned (.string (pre ++ s)) ∧ w' = (w.alloc (.cells #[.string s] 33)).alloc (.cells #[.iface 31 (.pointer (some ⟨w.heap.size, 0, none⟩))] 29) := by
  go_enter Try.func6, Try.ntmps6
  go_wp2_with fail
  refine (new_any s _).mono ?_
  rintro e w' ⟨rfl, rfl⟩
  go_wp2_with fail
  refine (spool_any _ ⟨w.heap.size, 0, none⟩ s _ ?_ ?_ hs).mono ?_
  · rw [World.cell?_alloc2_new]; rfl
  · rw [World.cell?_alloc2_first]; rfl
  rintro e w' ⟨rfl, rfl⟩
  go_wp2
  go_ret
  exact ⟨rfl, rfl⟩

/-- ZZSpoolErrorOfSpoolText(s). -/
theorem nested_any (s : ByteArray) (w : World) (hs : s.size ≤ 1048576) :
    Calls Try.prog 8 #[.string s] w fun e w' => e = .returned (.string (pre ++ (pre ++ s))) ∧
      w' = ((w.alloc (.cells #[.string s] 33)).alloc (.cells #[.iface 31 (.pointer (some ⟨w.heap.size, 0, none⟩))] 29)).alloc (.cells #[.iface 24 (.pointer (some ⟨w.heap.size + 1, 0, none⟩))] 29) := by
  go_enter Try.func8, Try.ntmps8
  go_wp2_with fail
  refine (new_any s _).mono ?_
  rintro e w' ⟨rfl, rfl⟩
  go_wp2_with fail
  refine (spool_spool _ (w.heap.size + 1) ⟨w.heap.size, 0, none⟩ s _ ?_ ?_ ?_ hs).mono ?_
  · go_simp
  · go_simp
  · go_simp
  rintro e w' ⟨rfl, rfl⟩
  go_wp2
  go_ret
  exact ⟨rfl, rfl⟩

/-- The bounds: at most 1<<20 bytes. -/
theorem bytes5_yes (s : ByteArray) (w : World) (h : s.size ≤ 1048576) : Calls Try.prog 5 #[.string s] w fun e w' => e = .returned (.bool true) ∧ w' = w := by
  go_enter Try.func5, Try.ntmps5
  go_wp2
  go_ret
  exact ⟨rfl, rfl⟩
theorem bytes5_no (s : ByteArray) (w : World) (h : 1048576 < s.size) : Calls Try.prog 5 #[.string s] w fun e w' => e = .returned (.bool false) ∧ w' = w := by
  go_enter Try.func5, Try.ntmps5
  go_wp2
  go_ret
  exact ⟨rfl, rfl⟩
theorem bytes7_yes (s : ByteArray) (w : World) (h : s.size ≤ 1048576) : Calls Try.prog 7 #[.string s] w fun e w' => e = .returned (.bool true) ∧ w' = w := by
  go_enter Try.func7, Try.ntmps7
  go_wp2
  go_ret
  exact ⟨rfl, rfl⟩
theorem bytes7_no (s : ByteArray) (w : World) (h : 1048576 < s.size) : Calls Try.prog 7 #[.string s] w fun e w' => e = .returned (.bool false) ∧ w' = w := by
  go_enter Try.func7, Try.ntmps7
  go_wp2
  go_ret
  exact ⟨rfl, rfl⟩

end Go.Proofs.Qxb6613946a
