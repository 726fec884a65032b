/-
  THE WALKS of ZZnewPrivateKey (7), PublicKey (8), ZZpublicKeyOf (9): each leaves a few new blocks, whole arrays in them, never unrolled.
-/
import Derived.Test.Qxb6613491aFill
import Derived.Deep.Cut
namespace Go.Proofs.Qxb6613491a
open Go.RowKit

/-- Guards, to be met with 'with_reducible': does the list stand at a load, at a store of type t? -/
theorem at_load {P : Program} {ops : Array Oper} {Q : Exit → Act → World → Prop} {rest : List Oper} {a : Act} {w : World} {d : Option Tmp} {x : Operand} {t ty : TypeId} {pos : String} {af : Array Edge}
    (h : wpList P ops Q ({ dst := d, op := .load t x, type := ty, pos := pos, after := af, guard := none } :: rest) a w) : wpList P ops Q ({ dst := d, op := .load t x, type := ty, pos := pos, after := af, guard := none } :: rest) a w := h
theorem at_store {P : Program} {ops : Array Oper} {Q : Exit → Act → World → Prop} {rest : List Oper} {a : Act} {w : World} {d : Option Tmp} {x y : Operand} {t ty : TypeId} {pos : String} {af : Array Edge}
    (h : wpList P ops Q ({ dst := d, op := .store t x y, type := ty, pos := pos, after := af, guard := none } :: rest) a w) : wpList P ops Q ({ dst := d, op := .store t x y, type := ty, pos := pos, after := af, guard := none } :: rest) a w := h

theorem heap_push (w : World) (o : Obj) : (w.alloc o).heap = w.heap.push o := rfl

/-- 'build', its answer named. -/
theorem wpList_built {P : Program} {ops : Array Oper} {rest : List Oper} {o : Oper} {a : Act} {w : World} {Q : Exit → Act → World → Prop} (hg : o.guard = none) (t : TypeId) (parts : Array (Nat × Operand)) (ho : o.op = .build t parts)
    (vs : List (Nat × Value)) (hvs : (parts.map fun (i, x) => (i, a.eval x)).toList = vs) (C : Array Value) (hC : P.built t vs = some C)
    (h : wpList P ops Q rest (a.put o.dst (.agg C)) w) : wpList P ops Q (o :: rest) a w := by
  subst hvs
  refine wpList_build hg t parts ho (by rw [hC]; rfl) ?_
  rw [hC]
  exact h

theorem size24 : (Try.prog.info? 24).map (·.size) = some 1158 := (zero_of_info info24).2
theorem size25 : (Try.prog.info? 25).map (·.size) = some 191 := (zero_of_info info25).2
theorem size26 : (Try.prog.info? 26).map (·.size) = some 32 := (zero_of_info info26).2

theorem push3_0 {w : World} {a b c : Obj} : (((w.alloc a).alloc b).alloc c).heap[w.heap.size]? = some a := by
  rw [heap_push, heap_push, heap_push, Array.getElem?_push, if_neg (by simp; omega), Array.getElem?_push, if_neg (by simp), Array.getElem?_push, if_pos rfl]
theorem push3_1 {w : World} {a b c : Obj} : (((w.alloc a).alloc b).alloc c).heap[w.heap.size + 1]? = some b := by
  rw [heap_push, heap_push, heap_push, Array.getElem?_push, if_neg (by simp), Array.getElem?_push, if_pos (by simp)]
theorem push3_2 {w : World} {a b c : Obj} : (((w.alloc a).alloc b).alloc c).heap[w.heap.size + 1 + 1]? = some c := by
  rw [heap_push, heap_push, heap_push, Array.getElem?_push, if_pos (by simp)]

/-- ZZnewPrivateKey: three boxes, then the key's block. -/
theorem new_any (p r h : Array Value) (hp : p.size = 1158) (hr : r.size = 191) (hh : h.size = 32) (w : World) :
    Calls Try.prog 7 #[.agg p, .agg r, .agg h] w fun e w' => e = .returned (.pointer (some ⟨w.heap.size + 3, 0, none⟩)) ∧ w' = (((w.alloc (.cells p 24)).alloc (.cells r 25)).alloc (.cells h 26)).alloc (.cells (key p r h) 38) := by
  have s24 : (Try.prog.info? 24).map (·.size) = some p.size := by rw [hp]; exact size24
  have s25 : (Try.prog.info? 25).map (·.size) = some r.size := by rw [hr]; exact size25
  have s26 : (Try.prog.info? 26).map (·.size) = some h.size := by rw [hh]; exact size26
  have hk := built_key p r h hp hr hh
  clear hp hr hh
  go_enter Try.func7, Try.ntmps7
  go_upto_region 1 with fail
  go_step
  refine wpList_load_row rfl 24 _ rfl _ rfl 24 p (0, 0) _ push3_0 Try.underlying24 rfl s24 ?_
  refine wpList_load_row rfl 25 _ rfl _ rfl 25 r (0, 0) _ push3_1 Try.underlying25 rfl s25 ?_
  refine wpList_load_row rfl 26 _ rfl _ rfl 26 h (0, 0) _ push3_2 Try.underlying26 rfl s26 ?_
  refine wpList_built rfl 38 _ rfl [(3, .agg p), (4, .agg r), (5, .agg h)] (by simp [Act.put, Act.eval]) _ hk ?_
  go_wp2
  go_ret
  exact ⟨rfl, rfl⟩

/-- ZZnewPrivateKey, its answer by what it lays: a new block with the key; the public cells among its own; nothing old turns. -/
theorem new_key (p r h : Array Value) (hp : p.size = 1158) (hr : r.size = 191) (hh : h.size = 32) (w : World) :
    Calls Try.prog 7 #[.agg p, .agg r, .agg h] w fun e w' => ∃ (g : Nat) (C : Array Value), e = .returned (.pointer (some ⟨g, 0, none⟩)) ∧ w.heap.size ≤ g ∧ w'.heap[g]? = some (.cells C 38 (0, 0)) ∧ C.size = 3664 ∧
      (∀ j, j < 1158 → C[2283 + j]? = p[j]?) ∧ Below w.heap.size w w' := by
  refine (new_any p r h hp hr hh w).mono ?_
  rintro e w' ⟨rfl, rfl⟩
  refine ⟨_, key p r h, rfl, by omega, ?_, key_size p r h, key_pub p r h hp hr hh, ?_⟩
  · have e : w.heap.size + 3 = (((w.alloc (.cells p 24)).alloc (.cells r 25)).alloc (.cells h 26)).heap.size := by simp [heap_push]
    rw [e]
    exact heap_alloc_last _ _
  · exact ((((Below.refl _ _).alloc (Nat.le_refl _) _).alloc (by simp [heap_push]) _).alloc (by simp [heap_push]; omega) _).alloc (by simp [heap_push]; omega) _

/-- PublicKey: the slice over the key's field. -/
theorem pub_any (g : Nat) (w : World) : Calls Try.prog 8 #[.pointer (some ⟨g, 0, none⟩)] w fun e w' => e = .returned (.slice (some ⟨g, 2283, none⟩) 1158 1158) ∧ w' = w := by
  go_enter Try.func8, Try.ntmps8
  go_wp2
  go_ret
  exact ⟨rfl, rfl⟩

/-- The key's public cells. -/
def pubOf (C : Array Value) : Array Value := C.extract 2283 (2283 + 1158)
theorem pubOf_size {C : Array Value} (hC : C.size = 3664) : (pubOf C).size = 1158 := by
  unfold pubOf
  rw [Array.size_extract, hC]
  rfl
theorem pubOf_at {C : Array Value} (hC : C.size = 3664) (j : Nat) (hj : j < 1158) : (pubOf C)[j]? = C[2283 + j]? := by
  unfold pubOf
  rw [Array.getElem?_extract, if_pos (by omega)]

theorem of_aux (g : Nat) (X Z : Array Value) (w : World) (hz : ∀ w, (zeroValue 24).run Try.prog w = .ok (.agg Z) w) (hb : (w.alloc (.cells Z 24)).rangeAt g 2283 X.toList)
    (s24 : (Try.prog.info? 24).map (·.size) = some X.size) (hl : Z.size = X.size) (h1 : X.all (·.oneCell') = true) :
    Calls Try.prog 9 #[.pointer (some ⟨g, 0, none⟩)] w fun e w' => e = .returned (.agg X) ∧ w' = w.alloc (.cells X 24) := by
  have s24' : (Try.prog.info? 24).map (·.size) = some X.toList.length := by rw [Array.length_toList]; exact s24
  have hn : (w.alloc (.cells Z 24)).heap[w.heap.size]? = some (.cells Z 24 (0, 0)) := heap_alloc_last w _
  have hm : (w.alloc (.cells X 24)).heap[w.heap.size]? = some (.cells X 24 (0, 0)) := heap_alloc_last w _
  go_enter Try.func9, Try.ntmps9
  go_wp2_with (first
    | (with_reducible refine at_load (t := 24) ?_
       refine wpList_load_mid rfl 24 _ rfl g 2283 rfl X.toList _ hb Try.underlying24 rfl s24' ?_
       rw [Array.toArray_toList])
    | (with_reducible refine at_store (t := 24) ?_
       refine wpList_store_row rfl 24 _ _ rfl _ X rfl rfl 24 Z hn s24 hl h1 ?_
       rw [World.setRow_alloc_new]))
  exact bodyPost_ret (v := .agg X) (results_cell_row Try.results9 _ _ _ 24 X (0, 0) _ rfl hm Try.underlying24 rfl s24) rfl ⟨rfl, rfl⟩

/-- ZZpublicKeyOf: a copy of the key's public cells. -/
theorem of_any (g : Nat) (C : Array Value) (w : World) (hg : w.heap[g]? = some (.cells C 38 (0, 0))) (hC : C.size = 3664) (h1 : (pubOf C).all (·.oneCell') = true) :
    Calls Try.prog 9 #[.pointer (some ⟨g, 0, none⟩)] w fun e w' => e = .returned (.agg (pubOf C)) ∧ w' = w.alloc (.cells (pubOf C) 24) :=
  of_aux g (pubOf C) z24 w (zero_of_info info24).1 (World.rangeAt_alloc (World.rangeAt_of_block hg 2283 1158) _) (by rw [pubOf_size hC]; exact size24) (by rw [pubOf_size hC, z24, Array.size_replicate]) h1

/-- ZZpublicKeyOf, its answer by its cells; nothing old turns. -/
theorem of_key (g : Nat) (C : Array Value) (q : Nat → Int) (w : World) (hg : w.heap[g]? = some (.cells C 38 (0, 0))) (hC : C.size = 3664) (hq : ∀ j, j < 1158 → C[2283 + j]? = some (.int .u8 (q j))) :
    Calls Try.prog 9 #[.pointer (some ⟨g, 0, none⟩)] w fun e w' => ∃ X : Array Value, e = .returned (.agg X) ∧ X.size = 1158 ∧ (∀ j, j < 1158 → X[j]? = some (.int .u8 (q j))) ∧ X.all (·.oneCell') = true ∧ Below w.heap.size w w' := by
  have h1 : (pubOf C).all (·.oneCell') = true := by
    rw [Array.all_eq_true_iff_forall_mem]
    intro x hx
    obtain ⟨j, hj, e⟩ := Array.mem_iff_getElem.1 hx
    rw [pubOf_size hC] at hj
    have := (pubOf_at hC j hj).trans (hq j hj)
    rw [Array.getElem?_eq_getElem (by rw [pubOf_size hC]; exact hj), e] at this
    rw [Option.some.inj this]
    rfl
  refine (of_any g C w hg hC h1).mono ?_
  rintro e w' ⟨rfl, rfl⟩
  exact ⟨pubOf C, rfl, pubOf_size hC, fun j hj => (pubOf_at hC j hj).trans (hq j hj), h1, (Below.refl _ _).alloc (Nat.le_refl _) _⟩

end Go.Proofs.Qxb6613491a
