/- What is proved here: the thin package's code tells 0 of no error and 3 of an error of errors.New's that is not io.EOF (errors.Is and errors.As walked); conditions: io.EOF and errors.errorType as laid. -/
import Derived.Test.YtjoahpmalhmjkaaGreatDoorEncPr
import Derived.LaidEql
import Derived.Stop.Asserts
import Derived.RowKitTokens
namespace Go.Proofs.YtjoahpmalhmjkaaGreatDoor.EncErr
open Go.RowKit Go.Proofs.YtjoahpmalhmjkaaGreatDoorW.PrintWords Go.Proofs.YtjoahpmalhmjkaaGreatDoorW.PrintLast Go.Proofs.YtjoahpmalhmjkaaGreatDoorW.PrintMore
open Go.Extern.Stop Go.Stop Go.Extern
set_option linter.unusedVariables false
set_option linter.unusedSimpArgs false

theorem isTypeOf (v : Value) (w : World) : (Extern.ReflectliteType.typeOf #[.iface 93 v]).run Tryz.prog w = .ok (.iface 145 (.agg #[.pointer (some ⟨12, 93, none⟩)])) w := by kernel_rfl
theorem call135 (w : World) : (callFunc 135 #[.agg #[.pointer (some ⟨12, 93, none⟩)]]).run Tryz.prog w = .ok (.value (.bool true)) w := by kernel_rfl
theorem isMethodComparable (v : Value) (w : World) : (Go.method 348 145 v "Comparable").run Tryz.prog w = .ok (135, v) w := by kernel_rfl
theorem isComp : (Tryz.prog.info? 134).map (·.comparable) = some true := by kernel_rfl
theorem isSize : (Tryz.prog.info? 136).map (·.size) = some 1 := by kernel_rfl
theorem noIsE (v : Value) (xT : TypeId) (w : World) : (Instr.typeAssert (.iface 134 v) xT 147 true).run Tryz.prog w = .ok (.tuple #[.nilIface, .bool false]) w := run_typeAssert_lacksB Tryz.underlying147 (by kernel_rfl) (by kernel_rfl) v xT w
theorem noUnwrapE (v : Value) (xT : TypeId) (w : World) : (Instr.typeAssert (.iface 134 v) xT 150 true).run Tryz.prog w = .ok (.tuple #[.nilIface, .bool false]) w := run_typeAssert_lacksB Tryz.underlying150 (by kernel_rfl) (by kernel_rfl) v xT w
theorem noUnwrapsE (v : Value) (xT : TypeId) (w : World) : (Instr.typeAssert (.iface 134 v) xT 151 true).run Tryz.prog w = .ok (.tuple #[.nilIface, .bool false]) w := run_typeAssert_lacksB Tryz.underlying151 (by kernel_rfl) (by kernel_rfl) v xT w
theorem noAsE (v : Value) (xT : TypeId) (w : World) : (Instr.typeAssert (.iface 134 v) xT 156 true).run Tryz.prog w = .ok (.tuple #[.nilIface, .bool false]) w := run_typeAssert_lacksB Tryz.underlying156 (by kernel_rfl) (by kernel_rfl) v xT w

set_option maxHeartbeats 4000000 in
/-- errors.Is(err, own{}), err a pointer to an errors.errorString: false. -/
theorem is_own (a : Value) (w : World) : Calls Tryz.prog 32 #[.iface 134 a, .iface 93 (.agg #[])] w fun e w' => e = .returned (.bool false) ∧ w' = w := by
  have h8 := @run_callFunc_extern Tryz.prog 50 _ Extern.ReflectliteType.typeOf Tryz.func50 (by kernel_rfl) (by kernel_rfl) (by kernel_rfl) (by kernel_rfl)
  have tT := isTypeOf
  have cT := call135
  have mR := isMethodComparable
  have nE := noIsE
  have uE := noUnwrapE
  have vE := noUnwrapsE
  have heq := run_eql_iface_types (P := Tryz.prog) 134 93 a (.agg #[]) Tryz.underlying55 (by decide) w
  go_enter Tryz.func32, Tryz.ntmps32
  go_wp2
  refine wp_loop_rounds 1 ?_
  rw [rounds_succ]
  go_wp2
  go_ret
  exact ⟨rfl, rfl⟩

/-! ### errors.As: 90: *xml.SyntaxError · 95: **xml.SyntaxError · 55: error · 145: reflectlite's rtype · 12: how many package-level variables the dump has -/
theorem valueOf95 (t : Addr) (w : World) : (ReflectliteValue.unpack (.iface 95 (.pointer (some t)))).run Tryz.prog w
    = .ok (.agg #[.pointer (some ⟨12, 95, none⟩), .pointer (some ⟨w.heap.size, 0, none⟩), .int .u64 150]) (w.alloc (.cells #[.pointer (some t)] 95)) := by kernel_rfl
theorem type95 (a : Addr) (w : World) : (ReflectliteValue.methodAny (ReflectliteValue.valueError "reflectlite.Value.Type" 0) (fun t _ _ _ => ReflectliteType.toType t) #[.agg #[.pointer (some ⟨12, 95, none⟩), .pointer (some a), .int .u64 150]]).run Tryz.prog w
    = .ok (.iface 145 (.agg #[.pointer (some ⟨12, 95, none⟩)])) w := by kernel_rfl
theorem methodKind (h : Value) (w : World) : (Go.method 348 145 (.agg #[h]) "Kind").run Tryz.prog w = .ok (118, h) w := by kernel_rfl
theorem kind95 (w : World) : ((ReflectliteType.abiMethod fun t => (fun a : Nat => Value.int IntKind.u8 (a : Int)) <$> Rtype.kind t) #[.pointer (some ⟨12, 95, none⟩)]).run Tryz.prog w = .ok (.int .u8 22) w := by kernel_rfl
theorem kind90 (w : World) : ((ReflectliteType.abiMethod fun t => (fun a : Nat => Value.int IntKind.u8 (a : Int)) <$> Rtype.kind t) #[.pointer (some ⟨12, 90, none⟩)]).run Tryz.prog w = .ok (.int .u8 22) w := by kernel_rfl
theorem rlm (z : Sem Value) (f : TypeId → Addr → Nat → Nat → Sem Value) (v : Value) :
    ReflectliteValue.method z f #[v] = (do match ← ReflectliteValue.parts v with | none => z | some (t, a, fl) => f t a fl (fl % 32)) := rfl
theorem parts95 (a : Addr) (w : World) : (ReflectliteValue.parts (.agg #[.pointer (some ⟨12, 95, none⟩), .pointer (some a), .int .u64 150])).run Tryz.prog w = .ok (some (95, a, 150)) w := by kernel_rfl
theorem isNil95 (a p : Addr) (W : World) (ha : W.cell? a = some (.pointer (some p))) :
    (ReflectliteValue.method (ReflectliteValue.valueError "reflectlite.Value.IsNil" 0) ReflectliteValue.isNil #[.agg #[.pointer (some ⟨12, 95, none⟩), .pointer (some a), .int .u64 150]]).run Tryz.prog W = .ok (.bool false) W := by
  rw [rlm]
  simp only [Sem.run_bind, parts95, Result.andThen]
  simp [ReflectliteValue.isNil, loadVar, isAgg, underlying, Tryz.underlying95, ha, Result.andThen]
theorem methodElem (h : Value) (w : World) : (Go.method 348 145 (.agg #[h]) "Elem").run Tryz.prog w = .ok (136, .agg #[h]) w := by kernel_rfl
theorem methodImplements (h : Value) (w : World) : (Go.method 348 145 (.agg #[h]) "Implements").run Tryz.prog w = .ok (137, .agg #[h]) w := by kernel_rfl
theorem methodAssignableTo (h : Value) (w : World) : (Go.method 348 145 (.agg #[h]) "AssignableTo").run Tryz.prog w = .ok (134, .agg #[h]) w := by kernel_rfl
theorem elem95 (w : World) : (ReflectliteType.method ReflectliteType.elem #[.agg #[.pointer (some ⟨12, 95, none⟩)]]).run Tryz.prog w = .ok (.iface 145 (.agg #[.pointer (some ⟨12, 90, none⟩)])) w := by kernel_rfl
theorem implements90 (w : World) : (ReflectliteType.relation "Implements" ReflectliteType.implements_ #[.agg #[.pointer (some ⟨12, 90, none⟩)], .iface 145 (.agg #[.pointer (some ⟨12, 55, none⟩)])]).run Tryz.prog w = .ok (.bool true) w := by kernel_rfl
theorem typeOf134 (v : Value) (w : World) : (ReflectliteType.typeOf #[.iface 134 v]).run Tryz.prog w = .ok (.iface 145 (.agg #[.pointer (some ⟨12, 134, none⟩)])) w := by kernel_rfl
theorem assignable (w : World) : (ReflectliteType.relation "AssignableTo" ReflectliteType.assignableTo #[.agg #[.pointer (some ⟨12, 134, none⟩)], .iface 145 (.agg #[.pointer (some ⟨12, 90, none⟩)])]).run Tryz.prog w = .ok (.bool false) w := by kernel_rfl

set_option maxHeartbeats 4000000 in
/-- errors.As(err, &s), err a pointer to an errors.errorString, s a *xml.SyntaxError: false. -/
theorem as_miss (e : Value) (t : Addr) (w : World) (hg : w.cell? ⟨1, 0, none⟩ = some (.iface 145 (.agg #[.pointer (some ⟨12, 55, none⟩)]))) :
    Calls Tryz.prog 33 #[.iface 134 e, .iface 95 (.pointer (some t))] w fun ev w' => ev = .returned (.bool false) ∧ Below w.heap.size w w' := by
  have h6 := @run_callFunc_extern Tryz.prog 52 _ (fun args => ReflectliteValue.unpack (args.getD 0 (.tuple #[]))) Tryz.func52 (by kernel_rfl) (by kernel_rfl) (by kernel_rfl) (by kernel_rfl)
  have h7 := @run_callFunc_extern Tryz.prog 53 _ (ReflectliteValue.methodAny (ReflectliteValue.valueError "reflectlite.Value.Type" 0) (fun t _ _ _ => ReflectliteType.toType t)) Tryz.func53 (by kernel_rfl) (by kernel_rfl) (by kernel_rfl) (by kernel_rfl)
  have h8 := @run_callFunc_extern Tryz.prog 54 _ (ReflectliteValue.method (ReflectliteValue.valueError "reflectlite.Value.IsNil" 0) ReflectliteValue.isNil) Tryz.func54 (by kernel_rfl) (by kernel_rfl) (by kernel_rfl) (by kernel_rfl)
  have h27 := @run_callFunc_extern Tryz.prog 118 _ (ReflectliteType.abiMethod fun t => do pure (.int .u8 (← Rtype.kind t))) Tryz.func118 (by kernel_rfl) (by kernel_rfl) (by kernel_rfl) (by kernel_rfl)
  have h37 := @run_callFunc_extern Tryz.prog 136 _ (ReflectliteType.method ReflectliteType.elem) Tryz.func136 (by kernel_rfl) (by kernel_rfl) (by kernel_rfl) (by kernel_rfl)
  have h38 := @run_callFunc_extern Tryz.prog 137 _ (ReflectliteType.relation "Implements" ReflectliteType.implements_) Tryz.func137 (by kernel_rfl) (by kernel_rfl) (by kernel_rfl) (by kernel_rfl)
  have h10 := @run_callFunc_extern Tryz.prog 50 _ ReflectliteType.typeOf Tryz.func50 (by kernel_rfl) (by kernel_rfl) (by kernel_rfl) (by kernel_rfl)
  have h35 := @run_callFunc_extern Tryz.prog 134 _ (ReflectliteType.relation "AssignableTo" ReflectliteType.assignableTo) Tryz.func134 (by kernel_rfl) (by kernel_rfl) (by kernel_rfl) (by kernel_rfl)
  have tO := typeOf134
  have mA := methodAssignableTo
  have aM := assignable
  have f6 := valueOf95
  have f7 := type95
  have mK := methodKind
  have mE := methodElem
  have mI := methodImplements
  have k27 := kind95
  have k25 := kind90
  have e27 := elem95
  have i25 := implements90
  have nA := noAsE
  have uE := noUnwrapE
  have vE := noUnwrapsE
  have n8 := isNil95 ⟨w.heap.size, 0, none⟩ t ((w.alloc (.cells #[.pointer (some t)] 95)).alloc (.cells #[.pointer (some ⟨12, 95, none⟩), .pointer (some ⟨w.heap.size, 0, none⟩), .int .u64 150] 120)) (by simp)
  have hlt : 1 < w.heap.size := World.block_lt_of_cell? w ⟨1, 0, none⟩ hg
  have hg2 : ((w.alloc (.cells #[.pointer (some t)] 95)).alloc (.cells #[.pointer (some ⟨12, 95, none⟩), .pointer (some ⟨w.heap.size, 0, none⟩), .int .u64 150] 120)).cell? ⟨1, 0, none⟩ = some (.iface 145 (.agg #[.pointer (some ⟨12, 55, none⟩)])) := by
    rw [World.cell?_alloc_lt _ _ ⟨1, 0, none⟩ (by simp; omega), World.cell?_alloc_lt _ _ ⟨1, 0, none⟩ hlt]; exact hg
  go_enter Tryz.func33, Tryz.ntmps33
  go_wp2
  refine wp_loop_rounds 1 ?_
  rw [rounds_succ]
  go_wp2
  go_ret
  exact ⟨rfl, by repeat (first | exact Below.refl _ _ | apply below_alloc)⟩

theorem code_nil (W : World) : Calls Tryz.prog 22 #[.nilIface] W fun e W' => e = .returned (.int .i64 0) ∧ Below W.heap.size W W' := by
  go_enter Tryz.func22, Tryz.ntmps22
  go_wp2
  go_ret
  exact ⟨rfl, below_alloc (Below.refl _ _) _⟩

set_option maxHeartbeats 4000000 in
theorem code_err (x : Nat) (y : Addr) (cx cy : Array Value) (ty : TypeId) (W : World) (hx : W.heap[x]? = some (.cells cx 136 (0, 0))) (hy : W.heap[y.block]? = some (.cells cy ty (0, 0))) (hne : x ≠ y.block) (h0 : W.cell? ⟨0, 0, none⟩ = some (.iface 134 (.pointer (some y))))
    (h1 : W.cell? ⟨1, 0, none⟩ = some (.iface 145 (.agg #[.pointer (some ⟨12, 55, none⟩)]))) :
    Calls Tryz.prog 22 #[.iface 134 (.pointer (some ⟨x, 0, none⟩))] W fun e W' => e = .returned (.int .i64 3) ∧ Below W.heap.size W W' := by
  obtain ⟨i, hi, hcmp⟩ := Option.map_eq_some_iff.1 isComp
  obtain ⟨j, hj, hjs⟩ := Option.map_eq_some_iff.1 isSize
  have hl0 : 0 < W.heap.size := World.block_lt_of_cell? W ⟨0, 0, none⟩ h0
  have hl1 : 1 < W.heap.size := World.block_lt_of_cell? W ⟨1, 0, none⟩ h1
  have hb := below_alloc (Below.refl W.heap.size W) (.cells #[.pointer none] 90)
  have heq := run_eql_iface_ptr_other (P := Tryz.prog) (W.alloc (.cells #[.pointer none] 90)) Tryz.underlying55 Tryz.underlying134 hi hcmp hj (by rw [hjs]; decide) (a := ⟨x, 0, none⟩) (b := y) (by intro e; exact hne (congrArg Addr.block e)) (blk_below hx hb) (blk_below hy hb)
  have g0 : (W.alloc (.cells #[.pointer none] 90)).cell? ⟨0, 0, none⟩ = some (.iface 134 (.pointer (some y))) := (World.cell?_alloc_lt _ _ ⟨0, 0, none⟩ hl0).trans h0
  have g1 : (W.alloc (.cells #[.pointer none] 90)).cell? ⟨1, 0, none⟩ = some (.iface 145 (.agg #[.pointer (some ⟨12, 55, none⟩)])) := (World.cell?_alloc_lt _ _ ⟨1, 0, none⟩ hl1).trans h1
  have HB := Aside0.mk hb
  clear hx hy hb
  go_enter Tryz.func22, Tryz.ntmps22
  go_wp2_with fail
  with_reducible refine (is_own _ _).mono ?_
  rintro e w1 ⟨rfl, rfl⟩
  go_wp2_with fail
  with_reducible refine (as_miss _ _ _ g1).mono ?_
  rintro e w2 ⟨rfl, hb2⟩
  have HB2 := Aside0.mk (below_then HB.out (by simp) hb2)
  clear hb2
  go_wp2_with fail
  go_ret
  exact ⟨rfl, HB2.out⟩

end Go.Proofs.YtjoahpmalhmjkaaGreatDoor.EncErr
