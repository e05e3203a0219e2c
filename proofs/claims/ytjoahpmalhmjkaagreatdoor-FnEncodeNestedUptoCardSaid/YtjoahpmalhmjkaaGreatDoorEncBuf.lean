/- What is proved here: the writer's Write, and the bufio.Writer's Available, Buffered, Flush, WriteByte keep the encoder's state, its Write and WriteString in part; conditions: those that each theorem names. -/
import Derived.Test.YtjoahpmalhmjkaaGreatDoorPFnEncodeNestedx0
import Derived.Test.YtjoahpmalhmjkaaGreatDoorEncSt
import Derived.Deep.RegionWith
import Derived.Deep.RegionLaw
import Derived.Laws.CopyOwn
import Derived.Lib.BufferWrite
namespace Go.Proofs.YtjoahpmalhmjkaaGreatDoor.EncSt
open Go.RowKit Go.Proofs.YtjoahpmalhmjkaaGreatDoorW.PrintWords Go.Proofs.YtjoahpmalhmjkaaGreatDoorW.PrintLast Go.Proofs.YtjoahpmalhmjkaaGreatDoorW.PrintMore
set_option linter.unusedVariables false
set_option linter.unusedSimpArgs false

theorem info5 : (Tryz.prog.info? 5).map (fun i => (i.zero, i.size, i.bytes)) = some (some (.int .u8 0), 1, 1) := by kernel_rfl

section
variable {K : Nat → Prop} {w0 W : World} {q b p g k n : Nat} {va vp vt : Value} {tags : List ByteArray} {np : Nat} {cl : Bool}

set_option maxHeartbeats 1600000 in
theorem iwrite (h : St K w0 q b p g k n va vp vt tags np cl W) {A : Option Addr} {m c : Nat} {ys : List Int} (hr : ReadsInt W .u8 A m ys) (hl : k + m ≤ 70368744177664) :
    Calls Tryz.prog 121 #[.pointer (some ⟨q, 0, none⟩), .slice A m c] W fun e W' => e = .returned (.tuple #[.int .i64 (m : Int), .nilIface]) ∧ ∃ va', St K w0 q b p g (k + m) n va' vp vt tags np cl W' := by
  obtain ⟨xs, hx, ho⟩ := h.qo
  subst hx
  have H := Aside0.mk h
  have HO := Aside0.mk ho
  have HR := Aside0.mk hr
  have hc := h.q0
  have hf := h.qf 0
  have hys := hr.1
  clear h ho hr
  go_enter Tryz.func121, Tryz.ntmps121
  go_wp2_with (at_builtin; refine print_append_row (w0 := W) 0 rfl _ _ 41 5 .u8 1 rfl Tryz.underlying41 (by kernel_rfl) (by decide) va xs ys A m c rfl rfl HO.out HR.out (Below.refl _ _) (Nat.zero_le _) (by omega) ?_; intro v1 w1 hown hbel hgr hat; obtain ⟨A1, c1, rfl⟩ := own_slice hown; have HS := Aside0.mk (St.putQ H.out hgr hown hat); have hc1 := (Only.grown hgr).blk H.out.qb (fun e => row_ne HO.out H.out.qb (by decide) _ e rfl); have hc2 := blk_cell hc1 0; have hf1 := blk_frozen hc1 0; clear hown hbel hgr hat hc1)
  go_ret2
  exact ⟨rfl, _, by have := HS.out; rwa [List.length_append, hys] at this⟩

theorem avail_any (h : St K w0 q b p g k n va vp vt tags np cl W) :
    Calls Tryz.prog 82 #[.pointer (some ⟨p, 0, none⟩)] W fun e W' => e = .returned (.int .i64 (4096 - (n : Int))) ∧ St K w0 q b p g k n va vp vt tags np cl W' := by
  have H := Aside0.mk h
  have h1 := h.p1
  have h2 := h.p2
  have hn := h.nle
  clear h
  go_enter Tryz.func82, Tryz.ntmps82
  go_wp2
  repeat (go_quiet (fail); try go_wp2)
  go_ret
  exact ⟨by simp, H.out.drewN _⟩

theorem buffered_any (h : St K w0 q b p g k n va vp vt tags np cl W) :
    Calls Tryz.prog 42 #[.pointer (some ⟨p, 0, none⟩)] W fun e W' => e = .returned (.int .i64 (n : Int)) ∧ W' = W := by
  have h2 := h.p2
  clear h
  go_enter Tryz.func42, Tryz.ntmps42
  go_wp2
  go_ret
  exact ⟨rfl, rfl⟩

theorem St.reads (h : St K w0 q b p g k n va vp vt tags np cl W) : ∃ ys, ReadsInt W .u8 (some ⟨b, 0, none⟩) n ys := by
  obtain ⟨ys, hy, hb⟩ := h.bb
  have hn := h.nle
  refine ⟨ys.take n, by rw [List.length_take]; omega, by omega, fun _ => ⟨_, rfl, fun j hj => ?_⟩⟩
  rw [add_plain, blk_cell hb j]
  have hj2 : j < ys.length := by omega
  simp [nums, List.getElem?_take, hj, hj2, List.getD_eq_getElem?_getD]

theorem nil_ahead (q : Nat) (w : World) : (nilAhead 348 40 (.pointer (some ⟨q, 0, none⟩)) "Write").run Tryz.prog w = .ok (some false) w := by kernel_rfl

theorem method_write (q : Nat) (w : World) : (method 348 40 (.pointer (some ⟨q, 0, none⟩)) "Write").run Tryz.prog w = .ok (121, .pointer (some ⟨q, 0, none⟩)) w := by kernel_rfl

theorem cut_buf (b n : Nat) (hn : n ≤ 4096) (W : World) : (Instr.slice 41 (.slice (some ⟨b, 0, none⟩) 4096 4096) (some (.int .i64 0)) (some (.int .i64 (n : Int))) none).run Tryz.prog W = .ok (.slice (some ⟨b, 0, none⟩) n 4096) W := by
  obtain ⟨i0, hi, _, hsz, _⟩ := info_parts info5
  have := cut_mid (P := Tryz.prog) 41 5 .i64 .i64 Tryz.underlying41 hi 1 hsz (some ⟨b, 0, none⟩) 4096 4096 0 (n : Int) (by omega) (by omega) (by omega) (by omega) W
  simpa [Addr.add] using this

set_option maxHeartbeats 4000000 in
set_option maxRecDepth 100000 in
theorem flush_any (h : St K w0 q b p g k n va vp vt tags np cl W) (hl : k + n ≤ 70368744177664) :
    Calls Tryz.prog 46 #[.pointer (some ⟨p, 0, none⟩)] W fun e W' => e = .returned .nilIface ∧ ∃ va', St K w0 q b p g (k + n) 0 va' vp vt tags np cl W' := by
  have H := Aside0.mk h
  have h0 := h.p0
  have h1 := h.p1
  have h2 := h.p2
  have h3 := h.p3
  have hn := h.nle
  have hf := h.pf
  clear h
  rcases Nat.eq_zero_or_pos n with rfl | hn0
  · go_enter Tryz.func46, Tryz.ntmps46
    go_wp2
    go_ret
    exact ⟨rfl, va, H.out⟩
  · have hz : ((n : Int) == 0) = false := beq_eq_false_iff_ne.2 (by omega)
    have hcut := cut_buf b n hn
    obtain ⟨ys, hr⟩ := H.out.reads
    have HR := Aside0.mk (show ReadsInt W.drew .u8 (some ⟨b, 0, none⟩) n ys from hr)
    have HD := Aside0.mk H.out.drew
    clear hr
    have hp1 := nil_ahead q
    have hp2 := method_write q
    go_enter Tryz.func46, Tryz.ntmps46
    go_wp2
    go_region_with (go_at_call 121; with_reducible refine (iwrite HD.out HR.out hl).mono ?_; rintro e w2 ⟨rfl, va2, hw2⟩; have HW2 := Aside0.mk hw2; have k2 := hw2.p2; have kf := hw2.pf; clear hw2)
    all_goals go_wp2
    all_goals go_ret
    all_goals exact ⟨rfl, _, HW2.out.putN 0 0 rfl (by omega)⟩

theorem St.bcell (h : St K w0 q b p g k n va vp vt tags np cl W) (j : Nat) (hj : j < 4096) : ∃ y, W.cell? ⟨b, j, none⟩ = some (.int .u8 y) := by
  obtain ⟨ys, hy, hb⟩ := h.bb
  have hj2 : j < ys.length := by omega
  exact ⟨ys[j], by rw [blk_cell hb j]; simp [nums, hj2]⟩

end
end Go.Proofs.YtjoahpmalhmjkaaGreatDoor.EncSt

namespace Go.Proofs.YtjoahpmalhmjkaaGreatDoor.EncSt
open Go.RowKit Go.Proofs.YtjoahpmalhmjkaaGreatDoorW.PrintWords Go.Proofs.YtjoahpmalhmjkaaGreatDoorW.PrintLast Go.Proofs.YtjoahpmalhmjkaaGreatDoorW.PrintMore Go.Lib
set_option linter.unusedVariables false
set_option linter.unusedSimpArgs false

theorem run_copy_str {P : Program} (w : World) (dT sT ty elem : TypeId) (g o dLen dCap : Nat) (s : ByteArray) (cur : Array Value) (t : TypeId)
    (hu : P.underlying dT = some (.slice elem)) (hs : (P.info? elem).map (·.size) = some 1) (hg : w.heap[g]? = some (.cells cur t (0, 0))) (hfit : o + Nat.min s.size dLen ≤ cur.size) :
    (Builtin.copy_ #[dT, sT] ty #[.slice (some ⟨g, o, none⟩) dLen dCap, .string s]).run P w =
      .ok (goInt (Nat.min s.size dLen)) (w.setRow g (cur.toList.take o ++ (byteCells s.data.toList).take (Nat.min s.size dLen) ++ cur.toList.drop (o + Nat.min s.size dLen)).toArray) := by
  have hlen : ((byteCells s.data.toList).take (Nat.min s.size dLen)).length = Nat.min s.size dLen := by
    rw [List.length_take, byteCells_length, ← size_eq]
    exact Nat.min_eq_left (Nat.min_le_left _ _)
  have hst := run_storeCells_at P g o t ((byteCells s.data.toList).take (Nat.min s.size dLen)) 0 cur w hg (by rw [hlen]; simpa using hfit) (fun v hv => byteCells_one _ v (List.mem_of_mem_take hv))
  rw [hlen] at hst
  simp only [Nat.add_zero] at hst
  cases hq : P.info? elem with
  | none => simp [hq] at hs
  | some i =>
    have hb : List.map (fun b : UInt8 => Value.int IntKind.u8 (b.toNat : Int)) s.data.toList = byteCells s.data.toList := rfl
    simp [Builtin.copy_, run_underlying hu, Builtin.lenOf, Builtin.firstCells, sizeOf, typeInfo, hq]
    rw [hb]
    rw [hst]
    simp [Result.andThen]

theorem byteCells_nums (L : List UInt8) : byteCells L = nums .u8 (L.map fun b => (b.toNat : Int)) := by simp [byteCells, nums]

section
variable {K : Nat → Prop} {w0 W : World} {q b p g k n : Nat} {va vp vt : Value} {tags : List ByteArray} {np : Nat} {cl : Bool}

theorem St.row (h : St K w0 q b p g k n va vp vt tags np cl W) (zs ys : List Int) (o : Nat) (hy : ys.length = 4096) (hz : o + zs.length ≤ 4096) :
    St K w0 q b p g k n va vp vt tags np cl (W.setRow b ((nums .u8 ys).take o ++ nums .u8 zs ++ (nums .u8 ys).drop (o + zs.length)).toArray) := by
  obtain ⟨ys0, hy0, hb⟩ := h.bb
  refine h.putB (Only.row W b _) (ys := ys.take o ++ zs ++ ys.drop (o + zs.length)) (by simp only [List.length_append, List.length_take, List.length_drop]; omega) ?_
  rw [setRow_heap W b _ _ 5 (0, 0) hb]
  simp [nums]

/-- What 'b.buf[b.n:]' is. -/
theorem cut_free (b n r : Nat) (hr : n + r = 4096) : ∃ A, (∀ W : World, (Instr.slice 41 (.slice (some ⟨b, 0, none⟩) 4096 4096) (some (.int .i64 (n : Int))) none none).run Tryz.prog W = .ok (.slice A r r) W) ∧ (0 < r → A = some ⟨b, n, none⟩) := by
  obtain ⟨i0, hi, _, hsz, _⟩ := info_parts info5
  have hel : Tryz.prog.elem 41 = 5 := by simp [Program.elem, Tryz.underlying41]
  have hu : Tryz.prog.underlying 41 = some (.slice (Tryz.prog.elem 41)) := by rw [hel]; exact Tryz.underlying41
  refine ⟨if 4096 = n then some ⟨b, 0, none⟩ else (some (⟨b, 0, none⟩ : Addr)).map (·.add n), fun W => ?_, fun h => ?_⟩
  · rw [run_slice_l W 41 _ 4096 4096 hu .i64 (n : Int) (Int.natCast_nonneg _) (by omega), hel]
    have h1 : 4096 - n = r := by omega
    simp [sizeOf, typeInfo, hi, hsz, sliced, Result.andThen, h1]
  · rw [if_neg (by omega)]
    simp [add_plain]

theorem copy_str (h : St K w0 q b p g k n va vp vt tags np cl W) {A : Option Addr} {r : Nat} (hr : n + r = 4096) (hA : 0 < r → A = some ⟨b, n, none⟩) (s : ByteArray) (ty : TypeId) {d : Nat} (hd : Nat.min s.size r = d) :
    ∃ W', (Builtin.copy_ #[41, 9] ty #[.slice A r r, .string s]).run Tryz.prog W = .ok (goInt d) W' ∧ St K w0 q b p g k n va vp vt tags np cl W' := by
  subst hd
  have hs : (Tryz.prog.info? 5).map (·.size) = some 1 := by kernel_rfl
  rcases Nat.eq_zero_or_pos r with h0 | h0
  · subst h0
    refine ⟨W, ?_, h⟩
    cases hq : Tryz.prog.info? 5 with
    | none => simp [hq] at hs
    | some i =>
      cases A <;> simp [Builtin.copy_, run_underlying Tryz.underlying41, Builtin.lenOf, Builtin.firstCells, sizeOf, typeInfo, hq, storeCells]
  · rw [hA h0]
    obtain ⟨ys, hy, hb⟩ := h.bb
    refine ⟨_, run_copy_str W 41 9 ty 5 b n r r s _ 5 Tryz.underlying41 hs hb (by have h9 : Nat.min s.size r ≤ r := Nat.min_le_right s.size r; simp only [List.size_toArray, nums_length, hy]; omega), ?_⟩
    have hl : ((s.data.toList.map fun b : UInt8 => (b.toNat : Int)).take (Nat.min s.size r)).length = Nat.min s.size r := by
      rw [List.length_take, List.length_map, ← size_eq]
      exact Nat.min_eq_left (Nat.min_le_left _ _)
    have := h.row ((s.data.toList.map fun b : UInt8 => (b.toNat : Int)).take (Nat.min s.size r)) ys n hy (by rw [hl]; have h9 : Nat.min s.size r ≤ r := Nat.min_le_right s.size r; omega)
    rw [hl] at this
    rw [byteCells_nums]
    simpa [nums, List.map_take] using this

theorem copy_bytes (h : St K w0 q b p g k n va vp vt tags np cl W) {A : Option Addr} {r : Nat} (hr : n + r = 4096) (hA : 0 < r → A = some ⟨b, n, none⟩) {S : Option Addr} {m c : Nat} {xs : List Int} (hx : ReadsInt W .u8 S m xs) (ty : TypeId) {d : Nat} (hd : d = Nat.min m r) :
    ∃ W', (Builtin.copy_ #[41, 41] ty #[.slice A r r, .slice S m c]).run Tryz.prog W = .ok (goInt d) W' ∧ St K w0 q b p g k n va vp vt tags np cl W' := by
  have hs : (Tryz.prog.info? 5).map (·.size) = some 1 := by kernel_rfl
  have hm1 : d ≤ m := by rw [hd]; exact Nat.min_le_left m r
  have hm2 : d ≤ r := by rw [hd]; exact Nat.min_le_right m r
  by_cases h0 : d = 0
  · rw [h0]
    exact ⟨W, run_copy_none W 41 41 ty 5 A S r r m c Tryz.underlying41 hs (by rw [← hd]; exact h0), h⟩
  · have hm0 : 0 < m := by omega
    rw [hA (by omega)]
    obtain ⟨ys, hy, hb⟩ := h.bb
    obtain ⟨ad, rfl, hc⟩ := hx.2.2 hm0
    have hl : (xs.take d).length = d := by rw [List.length_take, hx.1]; omega
    have hl2 : (nums .u8 (xs.take d)).length = d := by rw [nums_length, hl]
    have hrun := run_copy_row (P := Tryz.prog) W 41 41 ty 5 b n r r ad m c _ 5 (nums .u8 (xs.take d)) Tryz.underlying41 hs hb (hl2.trans hd) (fun j v hj => ?_) (by rw [hl2]; simp only [List.size_toArray, nums_length, hy]; omega) (by intro v hv; simp only [nums, List.mem_map] at hv; obtain ⟨x, _, rfl⟩ := hv; rfl)
    · rw [hl2] at hrun
      refine ⟨_, hrun, ?_⟩
      have := h.row (xs.take d) ys n hy (by rw [hl]; omega)
      rw [hl] at this
      simpa using this
    · have hjl : j < d := by
        have := (List.getElem?_eq_some_iff.1 hj).1
        omega
      rw [hc j (by omega)]
      have hxl := hx.1
      have hj2 : j < xs.length := by omega
      simp only [nums, List.getElem?_map, List.getElem?_take] at hj
      rw [if_pos hjl, List.getElem?_eq_getElem hj2] at hj
      simp at hj
      simp [List.getD_eq_getElem?_getD, hj2, hj]

/-- copy into the buffer, as a step of a region that draws. -/
theorem step_copy {ops : Array Oper} {o : Oper} {a : Act} {K' : Act → World → Prop} {Q : Exit → Act → World → Prop} {E : Prop} (hgd : o.guard = none) (d s : Operand) (sT : TypeId)
    (ho : o.op = .call { callee := .builtin .copy, args := #[d, s], argTypes := #[41, sT] }) (v x : Value) (hd : a.eval d = v) (hs : a.eval s = x) (r : Nat)
    (hrun : ∃ W', (Builtin.copy_ #[41, sT] o.type #[v, x]).run Tryz.prog W = .ok (goInt r) W' ∧ St K w0 q b p g k n va vp vt tags np cl W')
    (h : ∀ W', St K w0 q b p g k n va vp vt tags np cl W' → K' (a.put o.dst (.int .i64 (r : Int))) W') :
    if Region.wanted o (yielded ops a.tmps) = true then Oper.wp Tryz.prog o a W K' Q else E := by
  have hw : Region.wanted o (yielded ops a.tmps) = true := by simp [Region.wanted, hgd]
  rw [if_pos hw]
  obtain ⟨W', h1, h2⟩ := hrun
  unfold Oper.wp
  simp [execOp, ho, resolve, invoke, builtin, hd, hs, h1, Result.andThen]
  exact h W' h2

set_option maxHeartbeats 4000000 in
set_option maxRecDepth 100000 in
theorem byte_any (h : St K w0 q b p g k n va vp vt tags np cl W) (hl : k + n ≤ 70368744177664) (x : Int) :
    Calls Tryz.prog 70 #[.pointer (some ⟨p, 0, none⟩), .int .u8 x] W fun e W' => e = .returned .nilIface ∧ ∃ k' n' va', k' + n' = k + n + 1 ∧ St K w0 q b p g k' n' va' vp vt tags np cl W' := by
  have H := Aside0.mk h
  have h0 := h.p0
  have h1 := h.p1
  have h2 := h.p2
  have hn := h.nle
  have hf := h.pf
  have hbf := h.bf
  clear h
  by_cases hfull : n = 4096
  · go_enter Tryz.func70, Tryz.ntmps70
    go_wp2_with fail
    with_reducible refine (avail_any H.out).mono ?_
    rintro e w1 ⟨rfl, hw1⟩
    have HW1 := Aside0.mk hw1
    have hq : decide ((4096 : Int) - (n : Int) ≤ 0) = true := decide_eq_true (by omega)
    clear hw1
    go_wp2_with fail
    with_reducible refine (flush_any HW1.out hl).mono ?_
    rintro e w2 ⟨rfl, va2, hw2⟩
    have HW2 := Aside0.mk hw2
    have k1 := hw2.p1
    have k2 := hw2.p2
    have kf := hw2.pf
    have kbf := hw2.bf
    have HS := Aside0.mk (hw2.poke 0 x).drew
    obtain ⟨y, kb⟩ := hw2.bcell 0 (by omega)
    have k2' := (hw2.poke 0 x).p2
    have kf' := (hw2.poke 0 x).pf
    clear hw2
    go_wp2
    go_region
    all_goals go_wp2
    all_goals go_ret
    all_goals exact ⟨rfl, _, _, _, by omega, HS.out.putN 1 1 rfl (by omega)⟩
  · obtain ⟨y, hb⟩ := H.out.bcell n (by omega)
    have hlt : n < 4096 := by omega
    have hq : decide ((4096 : Int) - (n : Int) ≤ 0) = false := decide_eq_false (by omega)
    go_enter Tryz.func70, Tryz.ntmps70
    go_wp2_with fail
    with_reducible refine (avail_any H.out).mono ?_
    rintro e w2 ⟨rfl, hw2⟩
    have HW2 := Aside0.mk hw2
    have k1 := hw2.p1
    have k2 := hw2.p2
    have kf := hw2.pf
    have kbf := hw2.bf
    have HS := Aside0.mk (hw2.poke n x).drew
    obtain ⟨y, kb⟩ := hw2.bcell n (by omega)
    have k2' := (hw2.poke n x).p2
    have kf' := (hw2.poke n x).pf
    clear hw2
    go_wp2
    go_region
    all_goals go_wp2
    all_goals go_ret
    all_goals exact ⟨rfl, _, _, _, by omega, HS.out.putN _ (n + 1) (by omega) (by omega)⟩

end
end Go.Proofs.YtjoahpmalhmjkaaGreatDoor.EncSt
