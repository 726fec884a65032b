/-
  errors.New, errors.Is, (*errors.errorString).Error BY THEIR CONTRACTS, after the guide's Derived/Test/SentryIs.lean turned to this dump's numbers.
  26: error · 31: *errors.errorString · 33: errors.errorString · 43: reflectlite's rtype · 45, 47, 49: the three interfaces that errors.is asks for · functions: 15: errors.New · 17: errors.Is · 18: reflectlite.TypeOf · 41: (rtype).Comparable · 35: (*errors.errorString).Error.
-/
import Derived.Test.Qxb6613332aDoorRows
import Derived.WalkKit
import Derived.LaidEql
import Derived.Stop.Asserts
import Derived.RowKitTokens
namespace Go.Proofs.Qxb6613332aDoor
open Go.RowKit Go.Extern.Stop Go.Stop Go.Extern

theorem Tryd.isTypeOf (v : Value) (w : World) : (Extern.ReflectliteType.typeOf #[.iface 31 v]).run Tryd.prog w = .ok (.iface 43 (.agg #[.pointer (some ⟨1, 31, none⟩)])) w := by kernel_rfl
theorem Tryd.isCallType (v : Value) (w : World) : (callFunc 18 #[.iface 31 v]).run Tryd.prog w = .ok (.value (.iface 43 (.agg #[.pointer (some ⟨1, 31, none⟩)]))) w := by
  rw [@run_callFunc_extern Tryd.prog 18 _ Extern.ReflectliteType.typeOf Tryd.func18 (by kernel_rfl) (by kernel_rfl) (by kernel_rfl) (by kernel_rfl), Tryd.isTypeOf]
  rfl
theorem Tryd.isComparable (w : World) : ((Extern.ReflectliteType.method fun t => do Extern.Rtype.noPackHeld "Comparable" t; pure (.bool (← typeInfo t).comparable)) #[.agg #[.pointer (some ⟨1, 31, none⟩)]]).run Tryd.prog w = .ok (.bool true) w := by kernel_rfl
theorem Tryd.isCallComparable (w : World) : (callFunc 41 #[.agg #[.pointer (some ⟨1, 31, none⟩)]]).run Tryd.prog w = .ok (.value (.bool true)) w := by
  rw [@run_callFunc_extern Tryd.prog 41 _ (Extern.ReflectliteType.method fun t => do Extern.Rtype.noPackHeld "Comparable" t; pure (.bool (← typeInfo t).comparable)) Tryd.func41 (by kernel_rfl) (by kernel_rfl) (by kernel_rfl) (by kernel_rfl), Tryd.isComparable]
  rfl
theorem Tryd.isMethodComparable (v : Value) (w : World) : (Go.method 191 43 v "Comparable").run Tryd.prog w = .ok (41, v) w := by kernel_rfl
theorem Tryd.isComp : (Tryd.prog.info? 31).map (·.comparable) = some true := by kernel_rfl
theorem Tryd.isSize : (Tryd.prog.info? 33).map (·.size) = some 1 := by kernel_rfl
theorem Tryd.noIsE (v : Value) (xT : TypeId) (w : World) : (Instr.typeAssert (.iface 31 v) xT 45 true).run Tryd.prog w = .ok (.tuple #[.nilIface, .bool false]) w := run_typeAssert_lacksB Tryd.underlying45 (by kernel_rfl) (by kernel_rfl) v xT w
theorem Tryd.noUnwrapE (v : Value) (xT : TypeId) (w : World) : (Instr.typeAssert (.iface 31 v) xT 47 true).run Tryd.prog w = .ok (.tuple #[.nilIface, .bool false]) w := run_typeAssert_lacksB Tryd.underlying47 (by kernel_rfl) (by kernel_rfl) v xT w
theorem Tryd.noUnwrapsE (v : Value) (xT : TypeId) (w : World) : (Instr.typeAssert (.iface 31 v) xT 49 true).run Tryd.prog w = .ok (.tuple #[.nilIface, .bool false]) w := run_typeAssert_lacksB Tryd.underlying49 (by kernel_rfl) (by kernel_rfl) v xT w

/-- errors.Is(x, x), x a pointer to an errors.errorString. -/
theorem is_same (a : Addr) (w : World) :
    Calls Tryd.prog 17 #[.iface 31 (.pointer (some a)), .iface 31 (.pointer (some a))] w fun e w' => e = .returned (.bool true) ∧ w' = w := by
  obtain ⟨i, hi, hcmp⟩ := Option.map_eq_some_iff.1 Tryd.isComp
  obtain ⟨j, hj, hjs⟩ := Option.map_eq_some_iff.1 Tryd.isSize
  have cT := Tryd.isCallType
  have cC := Tryd.isCallComparable
  have mR := Tryd.isMethodComparable
  have heq := run_eql_iface_ptr_same (P := Tryd.prog) w a Tryd.underlying26 Tryd.underlying31 hi hcmp hj
  go_enter Tryd.func17, Tryd.ntmps17
  go_wp2
  refine wp_loop_rounds 1 ?_
  rw [rounds_succ]
  go_wp2
  go_ret
  exact ⟨rfl, rfl⟩

/-- errors.Is(x, y), two different pointers to errors.errorString: false. -/
theorem is_other (a b : Addr) (ca cb : Array Value) (ta tb : TypeId) (w : World) (hne : a ≠ b) (ha : w.heap[a.block]? = some (.cells ca ta (0, 0))) (hb : w.heap[b.block]? = some (.cells cb tb (0, 0))) :
    Calls Tryd.prog 17 #[.iface 31 (.pointer (some a)), .iface 31 (.pointer (some b))] w fun e w' => e = .returned (.bool false) ∧ w' = w := by
  obtain ⟨i, hi, hcmp⟩ := Option.map_eq_some_iff.1 Tryd.isComp
  obtain ⟨j, hj, hjs⟩ := Option.map_eq_some_iff.1 Tryd.isSize
  have cT := Tryd.isCallType
  have cC := Tryd.isCallComparable
  have mR := Tryd.isMethodComparable
  have nE := Tryd.noIsE
  have uE := Tryd.noUnwrapE
  have vE := Tryd.noUnwrapsE
  have heq := run_eql_iface_ptr_other (P := Tryd.prog) w Tryd.underlying26 Tryd.underlying31 hi hcmp hj (by rw [hjs]; decide) hne ha hb
  go_enter Tryd.func17, Tryd.ntmps17
  go_wp2
  refine wp_loop_rounds 1 ?_
  rw [rounds_succ]
  go_wp2
  go_ret
  exact ⟨rfl, rfl⟩

/-- errors.New(s): a new block with the text, the pointer to it. -/
theorem new_any (s : ByteArray) (w : World) :
    Calls Tryd.prog 15 #[.string s] w fun e w' => e = .returned (.iface 31 (.pointer (some ⟨w.heap.size, 0, none⟩))) ∧ w' = w.alloc (.cells #[.string s] 33) := by
  go_enter Tryd.func15, Tryd.ntmps15
  go_wp2
  go_ret
  exact ⟨rfl, rfl⟩

/-- (*errors.errorString).Error: the text that lies there. -/
theorem error_any (a : Addr) (s : ByteArray) (w : World) (hc : w.cell? a = some (.string s)) :
    Calls Tryd.prog 35 #[.pointer (some a)] w fun e w' => e = .returned (.string s) ∧ w' = w := by
  obtain ⟨b, o, m⟩ := a
  go_enter Tryd.func35, Tryd.ntmps35
  go_wp2
  go_ret
  exact ⟨rfl, rfl⟩

end Go.Proofs.Qxb6613332aDoor
