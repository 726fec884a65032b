/-
  PLAIN LEMMAS, no walk: what 'build' lays for a struct whose parts are whole arrays ('Instr.fill'): the place of each part, the rest untouched, the size kept; and the model's facts on the types of this dump: their zero values and sizes, behind plain definitions (1,158 and 3,664 cells are never unrolled).
-/
import Derived.Test.Qxb6613491aRows
import Derived.WalkKit
import Derived.Deep.WholeRow
import Derived.Deep.MidRow
namespace Go.Proofs.Qxb6613491a
open Go.RowKit

/-! ### 'fill' -/
/-- One part laid over the cells, as 'Instr.fill' does it. -/
def lay (off : Nat) (vs : Array Value) (cells : Array Value) : Array Value := vs.zipIdx.foldl (fun cs (c, j) => cs.setIfInBounds (off + j) c) cells

theorem layList_size (off : Nat) : ∀ (l : List (Value × Nat)) (cells : Array Value), (l.foldl (fun cs (p : Value × Nat) => cs.setIfInBounds (off + p.2) p.1) cells).size = cells.size
  | [], _ => rfl
  | p :: r, cells => by
    rw [List.foldl_cons, layList_size off r]
    simp

theorem layList_at (off : Nat) : ∀ (vs : List Value) (k : Nat) (cells : Array Value), off + k + vs.length ≤ cells.size → ∀ i : Nat,
    ((vs.zipIdx k).foldl (fun cs (p : Value × Nat) => cs.setIfInBounds (off + p.2) p.1) cells)[i]? = if off + k ≤ i ∧ i < off + k + vs.length then vs[i - (off + k)]? else cells[i]?
  | [], k, cells, _, i => by
    rw [if_neg (by simp only [List.length_nil]; omega)]
    rfl
  | v :: r, k, cells, h, i => by
    rw [List.zipIdx_cons, List.foldl_cons, layList_at off r (k + 1) _ (by simp at h ⊢; omega) i]
    simp only [List.length_cons] at h ⊢
    by_cases h1 : i = off + k
    · subst h1
      rw [if_neg (by omega), if_pos (by omega), Nat.sub_self, Array.getElem?_setIfInBounds_self_of_lt (by omega)]
      rfl
    · by_cases h2 : off + k ≤ i ∧ i < off + k + (r.length + 1)
      · rw [if_pos (by omega), if_pos h2]
        have e : i - (off + k) = (i - (off + (k + 1))) + 1 := by omega
        rw [e, List.getElem?_cons_succ]
      · rw [if_neg (by omega), if_neg h2]
        rw [Array.getElem?_setIfInBounds_ne (by omega)]

theorem lay_eq (off : Nat) (vs cells : Array Value) : lay off vs cells = (vs.toList.zipIdx 0).foldl (fun cs (p : Value × Nat) => cs.setIfInBounds (off + p.2) p.1) cells := by
  unfold lay
  rw [← Array.foldl_toList]
  simp

theorem lay_size (off : Nat) (vs cells : Array Value) : (lay off vs cells).size = cells.size := by
  rw [lay_eq]
  exact layList_size off _ _

theorem lay_at (off : Nat) (vs cells : Array Value) (h : off + vs.size ≤ cells.size) (i : Nat) : (lay off vs cells)[i]? = if off ≤ i ∧ i < off + vs.size then vs[i - off]? else cells[i]? := by
  rw [lay_eq, layList_at off vs.toList 0 cells (by simpa using h) i]
  simp

theorem fill_one (place : Nat → Option (Nat × Nat)) (i off size : Nat) (v cells : Array Value) (rest : List (Nat × Value)) (hpl : place i = some (off, size)) (hs : v.size = size) (hb : off + v.size ≤ cells.size) :
    Instr.fill place cells ((i, .agg v) :: rest) = Instr.fill place (lay off v cells) rest := by
  have hc : (decide (v.size ≠ size) || decide (off + v.size > cells.size)) = false := by simp [hs]; omega
  have hx : Instr.fill place cells ((i, .agg v) :: rest) = (match place i with | none => none | some (off, size) => if (decide (v.size ≠ size) || decide (off + v.size > cells.size)) = true then none else Instr.fill place (lay off v cells) rest) := rfl
  rw [hx, hpl]
  simp only [hc, Bool.false_eq_true, if_false]

/-! ### The types of the dump -/
def z24 : Array Value := Array.replicate 1158 (.int .u8 0)
def z25 : Array Value := Array.replicate 191 (.int .u8 0)
def z26 : Array Value := Array.replicate 32 (.int .u8 0)
def z38 : Array Value := ⟨List.replicate 1522 (.int .i8 0) ++ (List.replicate 761 (.int .i16 0) ++ List.replicate 1381 (.int .u8 0))⟩
theorem info24 : (Try.prog.info? 24).map (fun i => (i.zero, i.size)) = some (some (.agg z24), 1158) := by kernel_rfl
theorem info25 : (Try.prog.info? 25).map (fun i => (i.zero, i.size)) = some (some (.agg z25), 191) := by kernel_rfl
theorem info26 : (Try.prog.info? 26).map (fun i => (i.zero, i.size)) = some (some (.agg z26), 32) := by kernel_rfl
theorem info38 : (Try.prog.info? 38).map (fun i => (i.zero, i.size)) = some (some (.agg z38), 3664) := by kernel_rfl
theorem size38 : z38.size = 3664 := by kernel_rfl
theorem places38 : (match Try.prog.underlying 38 with | some (.struct fs) => fs.toList.mapM (fun f => (Try.prog.info? f.type).map fun i => (f.offset, i.size)) | _ => none) = some [(0, 761), (761, 761), (1522, 761), (2283, 1158), (3441, 191), (3632, 32)] := by kernel_rfl

/-- The key's cells. -/
def key (p r h : Array Value) : Array Value := lay 3632 h (lay 3441 r (lay 2283 p z38))
theorem key_size (p r h : Array Value) : (key p r h).size = 3664 := by
  unfold key
  rw [lay_size, lay_size, lay_size, size38]
theorem key_pub (p r h : Array Value) (hp : p.size = 1158) (hr : r.size = 191) (hh : h.size = 32) (j : Nat) (hj : j < 1158) : (key p r h)[2283 + j]? = p[j]? := by
  unfold key
  rw [lay_at _ _ _ (by rw [lay_size, lay_size, size38]; omega), if_neg (by omega), lay_at _ _ _ (by rw [lay_size, size38]; omega), if_neg (by omega), lay_at _ _ _ (by rw [size38]; omega), if_pos (by omega)]
  rw [show 2283 + j - 2283 = j by omega]

theorem built_key (p r h : Array Value) (hp : p.size = 1158) (hr : r.size = 191) (hh : h.size = 32) : Try.prog.built 38 [(3, .agg p), (4, .agg r), (5, .agg h)] = some (key p r h) := by
  have h1 := info38
  have h2 := places38
  unfold Program.built
  cases hi : Try.prog.info? 38 with
  | none => rw [hi] at h1; cases h1
  | some it =>
    rw [hi] at h1
    simp only [Option.map_some, Option.some.injEq, Prod.mk.injEq] at h1
    cases hu : Try.prog.underlying 38 with
    | none => rw [hu] at h2; cases h2
    | some d =>
      rw [hu] at h2
      cases d <;> try (cases h2; done)
      simp only [h1.1]
      simp only at h2
      rw [h2]
      show Instr.fill (fun x => [(0, 761), (761, 761), (1522, 761), (2283, 1158), (3441, 191), (3632, 32)].toArray[x]?) z38 [(3, .agg p), (4, .agg r), (5, .agg h)] = some (key p r h)
      rw [fill_one _ 3 2283 1158 p z38 _ rfl hp (by rw [size38]; omega), fill_one _ 4 3441 191 r _ _ rfl hr (by rw [lay_size, size38]; omega), fill_one _ 5 3632 32 h _ _ rfl hh (by rw [lay_size, lay_size, size38]; omega)]
      rfl

end Go.Proofs.Qxb6613491a
