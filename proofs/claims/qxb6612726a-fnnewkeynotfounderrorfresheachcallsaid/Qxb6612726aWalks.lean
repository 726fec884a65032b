/-
  THE CALLEES of the law, by their contracts. 23: *libraryError · 26: error · 28: CodedError · 30: libraryError · functions: 4: the bound · 5: ZZNewKeyNotFound · 6: ZZHasCause · 7: NewKeyNotFoundError · 8: newError.
-/
import Derived.Test.Qxb6612726aRows
import Derived.WalkKit
import Derived.RowKit3
import Derived.LaidEqlPtr
namespace Go.Proofs.Qxb6612726a
open Go.RowKit

/-- newError(code, message, nil): the coded error in a block of its own, then the library's error, a copy. -/
theorem newError_nil (c m : ByteArray) (w : World) :
    Calls Try.prog 8 #[.string c, .string m, .nilIface] w fun e w' => e = .returned (.iface 23 (.pointer (some ⟨w.heap.size + 1, 0, none⟩))) ∧
      w' = (w.alloc (.cells #[.string c, .string m, .nilIface] 28)).alloc (.cells #[.string c, .string m, .nilIface] 30) := by
  go_enter Try.func8, Try.ntmps8
  go_wp2
  go_ret
  exact ⟨rfl, rfl⟩

/-- The code of a key that was not found: 'KeyNotFoundError'. -/
def code : ByteArray := { data := #[75, 101, 121, 78, 111, 116, 70, 111, 117, 110, 100, 69, 114, 114, 111, 114] }

theorem newKey_any (m : ByteArray) (w : World) :
    Calls Try.prog 7 #[.string m] w fun e w' => e = .returned (.iface 23 (.pointer (some ⟨w.heap.size + 1, 0, none⟩))) ∧
      w' = (w.alloc (.cells #[.string code, .string m, .nilIface] 28)).alloc (.cells #[.string code, .string m, .nilIface] 30) := by
  go_enter Try.func7, Try.ntmps7
  go_wp2_with (go_at_call 8; refine (newError_nil code m _).mono ?_; rintro e w' ⟨rfl, rfl⟩)
  go_ret
  exact ⟨rfl, rfl⟩

theorem assert23 (v : Value) (w : World) : (Instr.typeAssert (.iface 23 v) 26 23 true).run Try.prog w = .ok (.tuple #[v, .bool true]) w := by kernel_rfl

theorem zz_any (m : ByteArray) (w : World) :
    Calls Try.prog 5 #[.string m] w fun e w' => e = .returned (.pointer (some ⟨w.heap.size + 1, 0, none⟩)) ∧
      w' = (w.alloc (.cells #[.string code, .string m, .nilIface] 28)).alloc (.cells #[.string code, .string m, .nilIface] 30) := by
  have a23 := assert23
  go_enter Try.func5, Try.ntmps5
  go_wp2_with (go_at_call 7; refine (newKey_any m _).mono ?_; rintro e w' ⟨rfl, rfl⟩)
  go_ret
  exact ⟨rfl, rfl⟩

theorem hasCause_nil (b : Nat) (w : World) (hc : w.cell? ⟨b, 2, none⟩ = some .nilIface) :
    Calls Try.prog 6 #[.pointer (some ⟨b, 0, none⟩)] w fun e w' => e = .returned (.bool false) ∧ w' = w := by
  go_enter Try.func6, Try.ntmps6
  go_wp2
  go_ret
  exact ⟨rfl, rfl⟩

theorem size30 : (Try.prog.info? 30).map (·.size) = some 3 := by kernel_rfl
theorem heap_push (w : World) (o : Obj) : (w.alloc o).heap = w.heap.push o := rfl
theorem push4_1 {w : World} {a b c d : Obj} : ((((w.alloc a).alloc b).alloc c).alloc d).heap[w.heap.size + 1]? = some b := by
  rw [heap_push, heap_push, heap_push, heap_push, Array.getElem?_push, if_neg (by simp only [Array.size_push]; omega), Array.getElem?_push, if_neg (by simp only [Array.size_push]; omega), Array.getElem?_push, if_pos (by simp only [Array.size_push])]
theorem push4_3 {w : World} {a b c d : Obj} : ((((w.alloc a).alloc b).alloc c).alloc d).heap[w.heap.size + 1 + 1 + 1]? = some d := by
  rw [heap_push, heap_push, heap_push, heap_push, Array.getElem?_push, if_pos (by simp)]

/-- The two errors lie in two blocks: the pointers differ. -/
theorem ptr_ne (w : World) (A C : Obj) (cb cd : Array Value) (tb td : TypeId) :
    (binOp .eql 23 (.pointer (some ⟨w.heap.size + 1, 0, none⟩)) (.pointer (some ⟨w.heap.size + 1 + 1 + 1, 0, none⟩))).run Try.prog ((((w.alloc A).alloc (.cells cb tb)).alloc C).alloc (.cells cd td)) =
      .ok (.bool false) ((((w.alloc A).alloc (.cells cb tb)).alloc C).alloc (.cells cd td)) := by
  obtain ⟨j, hj, hjs⟩ := Option.map_eq_some_iff.1 size30
  exact run_eql_ptr_other _ Try.underlying23 hj (by rw [hjs]; decide) (fun e => absurd (congrArg Addr.block e) (by show ¬ w.heap.size + 1 = w.heap.size + 1 + 1 + 1; omega)) push4_1 push4_3

/-- The bound: the two lengths sum to at most 1<<20. -/
theorem bytes_yes (a b : ByteArray) (w : World) (h : a.size + b.size ≤ 1048576) : Calls Try.prog 4 #[.string a, .string b] w fun e w' => e = .returned (.bool true) ∧ w' = w := by
  have ha : a.size ≤ 1048576 := by omega
  have hb : b.size ≤ 1048576 := by omega
  go_enter Try.func4, Try.ntmps4
  go_wp2
  go_ret
  exact ⟨rfl, rfl⟩
theorem bytes_no (a b : ByteArray) (w : World) (h : 1048576 < a.size + b.size) : Calls Try.prog 4 #[.string a, .string b] w fun e w' => e = .returned (.bool false) ∧ w' = w := by
  go_enter Try.func4, Try.ntmps4
  go_wp2
  all_goals (go_ret; exact ⟨rfl, rfl⟩)

end Go.Proofs.Qxb6612726a
