/-
  THE WITNESS of the row: one start that fits: an array of 1,158 zero bytes, by lemmas: the kernel's run over so many cells ('witness6') does not fit into the memory lid.
-/
import Derived.Test.Qxb6613491aFill
import Derived.ProofKit
import Derived.OpenShut
namespace Go.Proofs.Qxb6613491a
open Go.ChangeShapes Go.WideShapes Go.ChangeAt Go.RowKit

theorem Try.cells5 : Try.prog.cellsOf 5 = 1 := by kernel_rfl
theorem Try.cells24 : Try.prog.cellsOf 24 = 1158 := by kernel_rfl
theorem types24 : Try.prog.cellTypes Try.prog.depth 24 = some (List.replicate 1158 5) := by kernel_rfl

theorem z24_list : z24.toList = List.replicate 1158 (.int .u8 0) := by
  unfold z24
  rw [Array.toList_replicate]

theorem mapM_const {α β : Type} (f : α → Option β) (y : β) : ∀ (l : List α), (∀ x ∈ l, f x = some y) → l.mapM f = some (List.replicate l.length y)
  | [], _ => rfl
  | x :: r, h => by
    rw [List.mapM_cons, h x (by simp), mapM_const f y r (fun z hz => h z (by simp [hz]))]
    rfl

theorem flat_none {H : Type} (y : DataW H) : ∀ n : Nat, (List.replicate n (y, ([] : List MemPlace))).flatMap (·.2) = []
  | 0 => rfl
  | n + 1 => by
    rw [List.replicate_succ, List.flatMap_cons, flat_none y n]
    rfl

/-- The array of zeros, read. -/
theorem trod24 {H : Type} (enc : TypeId × Value → H) (W : World) (base : Nat) (sp : Nat → Bool) (held : Bool) :
    DataW.trod enc Try.prog W base sp held 2 24 z24.toList = some (.agg (List.replicate 1158 (.lit (.int .u8 0))), []) := by
  unfold DataW.trod
  rw [Try.underlying24]
  simp only
  rw [if_pos (by rw [z24_list, List.length_replicate, Try.cells24])]
  rw [mapM_const _ (.lit (.int .u8 0), []) (List.range 1158) (fun i hi => by
    rw [Try.cells5, Nat.mul_one, z24_list, List.drop_replicate, List.take_replicate]
    have : min 1 (1158 - i) = 1 := by have := List.mem_range.1 hi; omega
    rw [this]
    unfold DataW.trod
    rw [Try.underlying5]
    rfl)]
  rw [Option.map_some, List.length_range, List.map_replicate, flat_none]

theorem weights24 {H : Type} (e : TypeId) : ∀ n : Nat, DataW.weightsAll Try.prog e (List.replicate n (.lit (.int .u8 0) : DataW H)) = []
  | 0 => rfl
  | n + 1 => by
    rw [List.replicate_succ, DataW.weightsAll, weights24 e n]
    rfl

abbrev wargs : Array Value := #[.agg z24, .int .i64 0, .int .u8 0]
abbrev winp : Input := ⟨#[], wargs, []⟩

theorem okCell (W : World) (base : Nat) : Cell.okWide Try.prog W .any base 5 (.int .u8 0) := Cell.okWide_of_okWideB (by kernel_rfl)
theorem okInt (W : World) (base : Nat) : Value.okWide Try.prog W .any base 3 (.int .i64 0) := Value.okWide_of_okWideB (by kernel_rfl)
theorem okByte (W : World) (base : Nat) : Value.okWide Try.prog W .any base 5 (.int .u8 0) := Value.okWide_of_okWideB (by kernel_rfl)
theorem okRow (W : World) (base : Nat) : Value.okWide Try.prog W .any base 24 (.agg z24) := by
  unfold Value.okWide
  rw [Try.underlying24]
  refine ⟨z24, rfl, by rw [Try.cells24, z24, Array.size_replicate], List.replicate 1158 5, types24, ⟨1, by rw [List.length_replicate, z24, Array.size_replicate]⟩, fun i v hv => ?_⟩
  unfold z24 at hv
  rw [Array.getElem?_replicate] at hv
  split at hv
  · rename_i hi
    obtain rfl := Option.some.inj hv
    refine ⟨5, ?_, okCell W base⟩
    rw [List.length_replicate, Nat.mod_eq_of_lt hi, List.getElem?_replicate, if_pos hi]
  · cases hv

theorem okAll (W : World) (base : Nat) : Input.okWide Try.prog W .any base 5 winp := by
  refine ⟨fun o ho => by simp at ho, fun gv hgv => by simp at hgv, by kernel_rfl, Try.f5, Try.func5, rfl, rfl, rfl, rfl, fun j t v hj hv => ?_⟩
  rw [Try.params5] at hj
  match j, hj, hv with
  | 0, hj, hv =>
    obtain rfl := Option.some.inj hj
    obtain rfl := Option.some.inj hv
    exact okRow W base
  | 1, hj, hv =>
    obtain rfl := Option.some.inj hj
    obtain rfl := Option.some.inj hv
    exact okInt W base
  | 2, hj, hv =>
    obtain rfl := Option.some.inj hj
    obtain rfl := Option.some.inj hv
    exact okByte W base
  | j + 3, hj, hv => simp at hj

theorem whole {H : Type} (enc : TypeId × Value → H) (W : World) :
    DataW.Whole enc Try.prog Try.f5.params.toList [] false W wargs.toList [.agg (List.replicate 1158 (.lit (.int .u8 0))), .lit (.int .i64 0), .lit (.int .u8 0)] [] [] := by
  rw [Try.params5]
  refine ⟨[], [], ?_, rfl, rfl, fun b off h => by simp at h, fun h => by cases h⟩
  exact trodAll_cons_mk (p := []) ⟨2, trod24 enc W 0 _ _⟩ (trodAll_cons_mk (p := []) (shut_int Try.underlying3 (by decide)) (trodAll_cons_mk (p := []) (shut_int Try.underlying5 (by decide)) trodAll_mk0))

theorem weighed {H : Type} : (DataW.weightsEach Try.prog [24, 3, 5] [.agg (List.replicate 1158 (.lit (.int .u8 0))), .lit (.int .i64 0), (.lit (.int .u8 0) : DataW H)]).all (· ≤ reachBytes) = true := by
  rw [DataW.weightsEach, DataW.weights, Try.underlying24]
  simp only
  rw [weights24]
  rfl

theorem witness (os : Os) {H : Type} (enc : TypeId × Value → H) :
    ∃ (w : World) (tape : Tape) (i : Input), w.os = os ∧ (w.forCall tape i).Shaped Try.prog ∧ i.vars = [] ∧ Input.okWide Try.prog (w.forCall tape i) .any w.heap.size 5 i ∧
      Rows.fnPublicKeyWritesThroughToTheKeySpec.pre6 enc Try.prog Try.f5 Rows.fnPublicKeyWritesThroughToTheKeyRow.domain false (w.forCall tape i).memory i.args ∧ ({ modest := false } : Assume).holds Try.prog (lone (Frame.enter Try.prog 5 i.args .normal) [] (w.forCall tape i)) :=
  ⟨World.holding Try.prog os winp, fun _ _ => 0, winp, rfl, World.shaped_of_B (by kernel_rfl) (by kernel_rfl), rfl, okAll _ _,
    ⟨⟨_, _, _, whole enc _, rfl⟩, (by kernel_rfl), _, _, _, whole enc _, weighed⟩, by
    simp only [Assume.holds]
    exact ⟨by simp, by simp, fun _ => Modest.zero, by simp, by simp⟩⟩

end Go.Proofs.Qxb6613491a
