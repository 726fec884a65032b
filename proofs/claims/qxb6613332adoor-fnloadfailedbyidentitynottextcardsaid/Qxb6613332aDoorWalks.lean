/-
  THE WALKS of the law FnLoadFailedByIdentityNotText (function 3) and of what it calls, callees first. The sentinel's variable is block 0: 'hg' says that it holds a pointer at b; 'hb' that b's row of cells bears the frozen range (0, 0); 'hc' that a string lies there.
-/
import Derived.Test.Qxb6613332aDoorIs
import Derived.Stop.LaidErr
namespace Go.Proofs.Qxb6613332aDoor
open Go.RowKit Go.Extern.Stop Go.Stop Go.Extern

theorem Tryd.methodError (v : Value) (w : World) : (Go.method 191 31 v "Error").run Tryd.prog w = .ok (35, v) w := by kernel_rfl

theorem heap_alloc_old {w : World} {k : Nat} {o x : Obj} (h : w.heap[k]? = some x) : (w.alloc o).heap[k]? = some x := by
  have hlt : k < w.heap.size := by
    rcases Nat.lt_or_ge k w.heap.size with h' | h'
    · exact h'
    · simp [Array.getElem?_eq_none h'] at h
  show (w.heap.push o)[k]? = _
  simp only [Array.getElem?_push, Nat.ne_of_lt hlt, if_false]
  exact h
theorem heap_lt {w : World} {k : Nat} {x : Obj} (h : w.heap[k]? = some x) : k < w.heap.size := by
  rcases Nat.lt_or_ge k w.heap.size with h' | h'
  · exact h'
  · simp [Array.getElem?_eq_none h'] at h

/-- loadFailed(nil). -/
theorem load_nil (w : World) : Calls Tryd.prog 14 #[.nilIface] w fun e w' => e = .returned (.bool false) ∧ w' = w := by
  go_enter Tryd.func14, Tryd.ntmps14
  go_wp2
  go_ret
  exact ⟨rfl, rfl⟩

/-- loadFailed(errClosed). -/
theorem load_same (b : Addr) (w : World) (hg : w.cell? ⟨0, 0, none⟩ = some (.iface 31 (.pointer (some b)))) :
    Calls Tryd.prog 14 #[.iface 31 (.pointer (some b))] w fun e w' => e = .returned (.bool false) ∧ w' = w := by
  go_enter Tryd.func14, Tryd.ntmps14
  go_wp2_with (go_at_call 17; refine (is_same b _).mono ?_; rintro e w' ⟨rfl, rfl⟩)
  go_ret
  exact ⟨rfl, rfl⟩

/-- loadFailed of another error of errors.New's make. -/
theorem load_other (a b : Addr) (ca cb : Array Value) (ta tb : TypeId) (w : World) (hg : w.cell? ⟨0, 0, none⟩ = some (.iface 31 (.pointer (some b))))
    (hne : a ≠ b) (ha : w.heap[a.block]? = some (.cells ca ta (0, 0))) (hb : w.heap[b.block]? = some (.cells cb tb (0, 0))) :
    Calls Tryd.prog 14 #[.iface 31 (.pointer (some a))] w fun e w' => e = .returned (.bool true) ∧ w' = w := by
  go_enter Tryd.func14, Tryd.ntmps14
  go_wp2_with (go_at_call 17; refine (is_other a b ca cb ta tb _ hne ?_ ?_).mono ?_; exact ha; exact hb; rintro e w' ⟨rfl, rfl⟩)
  go_ret
  exact ⟨rfl, rfl⟩

/-- ZZloadFailedText(s): a fresh error is a failed load. -/
theorem text_any (s : ByteArray) (b : Addr) (cb : Array Value) (tb : TypeId) (w : World) (hg : w.cell? ⟨0, 0, none⟩ = some (.iface 31 (.pointer (some b)))) (hb : w.heap[b.block]? = some (.cells cb tb (0, 0))) :
    Calls Tryd.prog 7 #[.string s] w fun e w' => e = .returned (.bool true) ∧ w' = w.alloc (.cells #[.string s] 33) := by
  have hlt := heap_lt hb
  have hne : (⟨w.heap.size, 0, none⟩ : Addr) ≠ b := fun e => by
    rw [← e] at hlt
    exact Nat.lt_irrefl _ hlt
  have hg' := cell?_alloc_old (.cells #[.string s] 33) hg
  have ha : (w.alloc (.cells #[.string s] 33)).heap[(⟨w.heap.size, 0, none⟩ : Addr).block]? = some (.cells #[.string s] 33 (0, 0)) := by
    show (w.heap.push _)[w.heap.size]? = _
    simp
  have hb' : (w.alloc (.cells #[.string s] 33)).heap[b.block]? = some (.cells cb tb (0, 0)) := heap_alloc_old hb
  go_enter Tryd.func7, Tryd.ntmps7
  go_wp2_with fail
  refine (new_any s _).mono ?_
  rintro e w' ⟨rfl, rfl⟩
  go_wp2_with fail
  refine (load_other _ b _ _ _ _ _ hg' hne ha hb').mono ?_
  rintro e w' ⟨rfl, rfl⟩
  go_wp2_with fail
  go_ret
  exact ⟨rfl, rfl⟩

/-- ZZloadFailedClosed(). -/
theorem closed_any (b : Addr) (w : World) (hg : w.cell? ⟨0, 0, none⟩ = some (.iface 31 (.pointer (some b)))) :
    Calls Tryd.prog 8 #[] w fun e w' => e = .returned (.bool false) ∧ w' = w := by
  go_enter Tryd.func8, Tryd.ntmps8
  go_wp2_with (go_at_call 14; refine (load_same b _ ?_).mono ?_; exact hg; rintro e w' ⟨rfl, rfl⟩)
  go_ret
  exact ⟨rfl, rfl⟩

/-- ZZloadFailedNil(). -/
theorem nil_any (w : World) : Calls Tryd.prog 9 #[] w fun e w' => e = .returned (.bool false) ∧ w' = w := by
  go_enter Tryd.func9, Tryd.ntmps9
  go_wp2_with (go_at_call 14; refine (load_nil _).mono ?_; rintro e w' ⟨rfl, rfl⟩)
  go_ret
  exact ⟨rfl, rfl⟩

/-- ZZclosedText(): the sentinel's text. -/
theorem ctext_any (b : Addr) (s : ByteArray) (w : World) (hg : w.cell? ⟨0, 0, none⟩ = some (.iface 31 (.pointer (some b)))) (hc : w.cell? b = some (.string s)) :
    Calls Tryd.prog 6 #[] w fun e w' => e = .returned (.string s) ∧ w' = w := by
  have mE := Tryd.methodError
  go_enter Tryd.func6, Tryd.ntmps6
  go_wp2_with (go_at_call 35; refine (error_any b s _ ?_).mono ?_; exact hc; rintro e w' ⟨rfl, rfl⟩)
  go_ret
  exact ⟨rfl, rfl⟩

/-- The bound: at most 1<<20 bytes. -/
theorem bytes_yes (s : ByteArray) (w : World) (h : s.size ≤ 1048576) : Calls Tryd.prog 5 #[.string s] w fun e w' => e = .returned (.bool true) ∧ w' = w := by
  go_enter Tryd.func5, Tryd.ntmps5
  go_wp2
  go_ret
  exact ⟨rfl, rfl⟩
theorem bytes_no (s : ByteArray) (w : World) (h : 1048576 < s.size) : Calls Tryd.prog 5 #[.string s] w fun e w' => e = .returned (.bool false) ∧ w' = w := by
  go_enter Tryd.func5, Tryd.ntmps5
  go_wp2
  go_ret
  exact ⟨rfl, rfl⟩

/-- The law past its bound: true at once. -/
theorem law_long (s : ByteArray) (w : World) (h : 1048576 < s.size) : Calls Tryd.prog 3 #[.string s] w fun e w' => e = .returned (.bool true) ∧ w' = w := by
  go_enter Tryd.func3, Tryd.ntmps3
  go_wp2_with (go_at_call 5; refine (bytes_no s _ h).mono ?_; rintro e w' ⟨rfl, rfl⟩)
  go_ret
  exact ⟨rfl, rfl⟩

/-- The law inside its bound: two fresh errors are laid, nothing else turns. -/
theorem law_short (s t : ByteArray) (b : Addr) (cb : Array Value) (tb : TypeId) (w : World) (h : s.size ≤ 1048576) (hg : w.cell? ⟨0, 0, none⟩ = some (.iface 31 (.pointer (some b))))
    (hc : w.cell? b = some (.string t)) (hb : w.heap[b.block]? = some (.cells cb tb (0, 0))) :
    Calls Tryd.prog 3 #[.string s] w fun e w' => e = .returned (.bool true) ∧ w' = (w.alloc (.cells #[.string s] 33)).alloc (.cells #[.string t] 33) := by
  have hg1 := cell?_alloc_old (.cells #[.string s] 33) hg
  have hg2 := cell?_alloc_old (.cells #[.string t] 33) hg1
  have hb1 : (w.alloc (.cells #[.string s] 33)).heap[b.block]? = some (.cells cb tb (0, 0)) := heap_alloc_old hb
  go_enter Tryd.func3, Tryd.ntmps3
  go_wp2_with fail
  refine (bytes_yes s _ h).mono ?_
  rintro e w' ⟨rfl, rfl⟩
  go_wp2_with fail
  refine (ctext_any b t _ hg hc).mono ?_
  rintro e w' ⟨rfl, rfl⟩
  go_wp2_with fail
  refine (text_any s b cb tb _ hg hb).mono ?_
  rintro e w' ⟨rfl, rfl⟩
  go_wp2_with fail
  refine (text_any t b cb tb _ hg1 hb1).mono ?_
  rintro e w' ⟨rfl, rfl⟩
  go_wp2_with fail
  refine (closed_any b _ hg2).mono ?_
  rintro e w' ⟨rfl, rfl⟩
  go_wp2_with fail
  refine (nil_any _).mono ?_
  rintro e w' ⟨rfl, rfl⟩
  go_wp2_with fail
  go_ret
  exact ⟨rfl, rfl⟩

end Go.Proofs.Qxb6613332aDoor
