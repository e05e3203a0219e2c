/- What is proved here: the bufio.Writer's Write and WriteString, the printer's methods and writeEnd keep the encoder's state; conditions: those that each theorem names. -/
import Derived.Test.YtjoahpmalhmjkaaGreatDoorEncBuf
import Derived.Stop.Asserts
import Derived.Deep.Light
namespace Go.Proofs.YtjoahpmalhmjkaaGreatDoor.EncSt
open Go.RowKit Go.Proofs.YtjoahpmalhmjkaaGreatDoorW.PrintWords Go.Proofs.YtjoahpmalhmjkaaGreatDoorW.PrintLast Go.Proofs.YtjoahpmalhmjkaaGreatDoorW.PrintMore Go.Lib
set_option linter.unusedVariables false
set_option linter.unusedSimpArgs false

def sizeOfV : Value → Nat
  | .string x => x.size
  | .slice _ n _ => n
  | _ => 0
def nOf (p : Nat) (W : World) : Nat := match W.cell? ⟨p, 2, none⟩ with
  | some v => (intOf v).toNat
  | none => 0
theorem no_ws (v : Value) (xT : TypeId) (w : World) : (Instr.typeAssert (.iface 40 v) xT 165 true).run Tryz.prog w = .ok (.tuple #[.nilIface, .bool false]) w := run_typeAssert_lacksB Tryz.underlying165 (by kernel_rfl) (by kernel_rfl) v xT w

section
variable {K : Nat → Prop} {w0 W : World} {q b p g k n : Nat} {va vp vt : Value} {tags : List ByteArray} {np : Nat} {cl : Bool}

theorem nOf_is (h : St K w0 q b p g k n va vp vt tags np cl W) : nOf p W = n := by
  unfold nOf
  rw [h.p2]
  simp [intOf]

set_option maxHeartbeats 8000000 in
set_option maxRecDepth 100000 in
theorem string_any (h : St K w0 q b p g k n va vp vt tags np cl W) (s : ByteArray) (hl : k + n + s.size ≤ 70368744177664) :
    Calls Tryz.prog 64 #[.pointer (some ⟨p, 0, none⟩), .string s] W fun e W' => ∃ x : Int, e = .returned (.tuple #[.int .i64 x, .nilIface]) ∧ ∃ k' n' va', k' + n' = k + n + s.size ∧ St K w0 q b p g k' n' va' vp vt tags np cl W' := by
  have H := Aside0.mk h
  clear h
  go_enter Tryz.func64, Tryz.ntmps64
  go_wp2_with fail
  go_loopw [1, 6, 7, 8] (fun v1 v6 v7 v8 W1 => ∃ (cur : ByteArray) (tb : Bool) (x : Int) (k' n' : Nat) (va' : Value), v1 = .string cur ∧ v6 = .nilIface ∧ v7 = .bool tb ∧ v8 = .int .i64 x ∧ Aside0 (k' + n' + cur.size = k + n + s.size) ∧ Aside0 (St K w0 q b p g k' n' va' vp vt tags np cl W1)) (fun v1 _ _ _ W1 => sizeOfV v1 + nOf p W1)
  case atStart => exact ⟨s, true, 0, k, n, va, rfl, rfl, rfl, rfl, ⟨rfl⟩, H⟩
  case round =>
    obtain ⟨cur, tb, x, k', n', va', rfl, rfl, rfl, rfl, HB, HW⟩ := hrel
    have hn := HW.out.nle
    have hsum := HB.out
    go_wp2_with fail
    with_reducible refine (avail_any HW.out).mono ?_
    rintro e w1 ⟨rfl, hw1⟩
    have HW1 := Aside0.mk hw1
    clear hw1
    by_cases hbig : 4096 < n' + cur.size
    · have hq : decide ((4096 : Int) - (n' : Int) < (cur.size : Int)) = true := decide_eq_true (by omega)
      have k0 := HW1.out.p0
      have k1 := HW1.out.p1
      have k2 := HW1.out.p2
      have k3 := HW1.out.p3
      have kf := HW1.out.pf
      have hasrt := no_ws
      obtain ⟨r, hr⟩ : ∃ r, n' + r = 4096 := ⟨4096 - n', by omega⟩
      obtain ⟨A1, hcut, hA1⟩ := cut_free b n' r hr
      have hmin : Nat.min cur.size r = r := Nat.min_eq_right (by omega)
      have hrs : r ≤ cur.size := by omega
      have hsz : (cur.extract r cur.size).size = cur.size - r := by rw [ByteArray.size_extract]; omega
      by_cases hz : n' = 0
      · have hz0 : ((n' : Int) == 0) = true := beq_iff_eq.2 (by omega)
        clear hz
        cases tb
        · go_wp2_with (go_at_call 42; with_reducible refine (buffered_any HW1.out).mono ?_; rintro e w4 ⟨rfl, rfl⟩)
          go_region_law (refine step_copy rfl (.tmp 64) (.tmp 65) 9 rfl (.slice A1 r r) (.string cur) (by simp [Act.eval, Act.put]) (by simp [Act.eval, Act.put]) r (copy_str HW1.out.drew hr hA1 cur _ hmin) ?_; intro w2 hw2; have HW2 := Aside0.mk hw2; have j2 := hw2.p2; have jf := hw2.pf; clear hw2)
          all_goals
            go_wp2_with fail
            with_reducible refine (flush_any (HW2.out.putN ((n' : Int) + (r : Int)) 4096 (by omega) (by omega)) (by have := HB.out; omega)).mono ?_
            rintro e w5 ⟨rfl, va5, hw5⟩
            have HW5 := Aside0.mk hw5
            have e1 := nOf_is hw5
            have e2 := nOf_is HW.out
            clear hw5
            go_wp2_with fail
            go_roundw
            case rel =>
              go_light
              exact ⟨cur.extract r cur.size, false, _, k' + 4096, 0, va5, rfl, rfl, rfl, rfl, ⟨by have := HB.out; omega⟩, HW5⟩
            case measure =>
              go_light
              show (cur.extract r cur.size).size + nOf p w5 < cur.size + nOf p wr
              omega
        · go_wp2_with (go_at_call 42; with_reducible refine (buffered_any HW1.out).mono ?_; rintro e w4 ⟨rfl, rfl⟩)
          go_region_law (refine step_copy rfl (.tmp 64) (.tmp 65) 9 rfl (.slice A1 r r) (.string cur) (by simp [Act.eval, Act.put]) (by simp [Act.eval, Act.put]) r (copy_str HW1.out.drew hr hA1 cur _ hmin) ?_; intro w2 hw2; have HW2 := Aside0.mk hw2; have j2 := hw2.p2; have jf := hw2.pf; clear hw2)
          all_goals
            go_wp2_with fail
            with_reducible refine (flush_any (HW2.out.putN ((n' : Int) + (r : Int)) 4096 (by omega) (by omega)) (by have := HB.out; omega)).mono ?_
            rintro e w5 ⟨rfl, va5, hw5⟩
            have HW5 := Aside0.mk hw5
            have e1 := nOf_is hw5
            have e2 := nOf_is HW.out
            clear hw5
            go_wp2_with fail
            go_roundw
            case rel =>
              go_light
              exact ⟨cur.extract r cur.size, false, _, k' + 4096, 0, va5, rfl, rfl, rfl, rfl, ⟨by have := HB.out; omega⟩, HW5⟩
            case measure =>
              go_light
              show (cur.extract r cur.size).size + nOf p w5 < cur.size + nOf p wr
              omega
      · have hz0 : ((n' : Int) == 0) = false := beq_eq_false_iff_ne.2 (by omega)
        go_wp2_with (go_at_call 42; with_reducible refine (buffered_any HW1.out).mono ?_; rintro e w4 ⟨rfl, rfl⟩)
        go_region_law (refine step_copy rfl (.tmp 64) (.tmp 65) 9 rfl (.slice A1 r r) (.string cur) (by simp [Act.eval, Act.put]) (by simp [Act.eval, Act.put]) r (copy_str HW1.out.drew hr hA1 cur _ hmin) ?_; intro w2 hw2; have HW2 := Aside0.mk hw2; have j2 := hw2.p2; have jf := hw2.pf; clear hw2)
        all_goals
          go_wp2_with fail
          with_reducible refine (flush_any (HW2.out.putN ((n' : Int) + (r : Int)) 4096 (by omega) (by omega)) (by have := HB.out; omega)).mono ?_
          rintro e w5 ⟨rfl, va5, hw5⟩
          have HW5 := Aside0.mk hw5
          have e1 := nOf_is hw5
          have e2 := nOf_is HW.out
          clear hw5
          go_wp2_with fail
          go_roundw
          case rel =>
            go_light
            exact ⟨cur.extract r cur.size, tb, _, k' + 4096, 0, va5, rfl, rfl, rfl, rfl, ⟨by have := HB.out; omega⟩, HW5⟩
          case measure =>
            go_light
            show (cur.extract r cur.size).size + nOf p w5 < cur.size + nOf p wr
            omega
    · have hq : decide ((4096 : Int) - (n' : Int) < (cur.size : Int)) = false := decide_eq_false (by omega)
      have k0 := HW1.out.p0
      have k1 := HW1.out.p1
      have k2 := HW1.out.p2
      have kf := HW1.out.pf
      obtain ⟨r, hr⟩ : ∃ r, n' + r = 4096 := ⟨4096 - n', by omega⟩
      obtain ⟨A1, hcut, hA1⟩ := cut_free b n' r hr
      have hmin : Nat.min cur.size r = cur.size := Nat.min_eq_left (by omega)
      go_wp2_with fail
      go_region_law (refine step_copy rfl (.tmp 101) (.tmp 102) 9 rfl (.slice A1 r r) (.string cur) (by simp [Act.eval, Act.put]) (by simp [Act.eval, Act.put]) cur.size (copy_str HW1.out.drew hr hA1 cur _ hmin) ?_; intro w2 hw2; have HW2 := Aside0.mk hw2; have j2 := hw2.p2; have jf := hw2.pf; clear hw2)
      all_goals go_wp2
      all_goals go_ret2
      all_goals exact ⟨_, rfl, _, _, _, by have := HB.out; omega, HW2.out.putN _ (n' + cur.size) (by omega) (by omega)⟩

end
end Go.Proofs.YtjoahpmalhmjkaaGreatDoor.EncSt

namespace Go.Proofs.YtjoahpmalhmjkaaGreatDoor.EncSt
open Go.RowKit Go.Proofs.YtjoahpmalhmjkaaGreatDoorW.PrintWords Go.Proofs.YtjoahpmalhmjkaaGreatDoorW.PrintLast Go.Proofs.YtjoahpmalhmjkaaGreatDoorW.PrintMore Go.Lib
set_option linter.unusedVariables false
set_option linter.unusedSimpArgs false

/-- Bytes of w0 in blocks of K. -/
def Src (K : Nat → Prop) (w0 : World) (S : Option Addr) (m c : Nat) : Prop := m ≤ c ∧ ∃ ys, ReadsInt w0 .u8 S m ys ∧ ∀ ad, S = some ad → 0 < m → K ad.block

theorem Src.nil (K : Nat → Prop) (w0 : World) (S : Option Addr) (c : Nat) : Src K w0 S 0 c := ⟨Nat.zero_le _, [], ⟨rfl, by omega, fun h => absurd h (by omega)⟩, fun _ _ h => absurd h (by omega)⟩

section
variable {K : Nat → Prop} {w0 W : World} {q b p g k n : Nat} {va vp vt : Value} {tags : List ByteArray} {np : Nat} {cl : Bool}

theorem Src.at_ {S : Option Addr} {m c : Nat} (hs : Src K w0 S m c) (h : St K w0 q b p g k n va vp vt tags np cl W) : ∃ ys, ReadsInt W .u8 S m ys := by
  obtain ⟨_, ys, hr, hk⟩ := hs
  refine ⟨ys, hr.1, hr.2.1, fun h0 => ?_⟩
  obtain ⟨ad, e, hc⟩ := hr.2.2 h0
  refine ⟨ad, e, fun j hj => ?_⟩
  have hb : (ad.add j).block = ad.block := by unfold Addr.add; split <;> rfl
  rw [World.cell?_of_block (w := w0) (by rw [hb]; exact h.ks.kept _ (hk ad e h0))]
  exact hc j hj

theorem Src.cut {S : Option Addr} {m c : Nat} (hs : Src K w0 S m c) (r : Nat) (hr : r ≤ m) :
    ∃ S', (∀ W : World, (Instr.slice 41 (.slice S m c) (some (.int .i64 (r : Int))) none none).run Tryz.prog W = .ok (.slice S' (m - r) (c - r)) W) ∧ Src K w0 S' (m - r) (c - r) := by
  obtain ⟨hmc, ys, hre, hk⟩ := hs
  obtain ⟨i0, hi, _, hsz, _⟩ := info_parts info5
  have hel : Tryz.prog.elem 41 = 5 := by simp [Program.elem, Tryz.underlying41]
  have hu : Tryz.prog.underlying 41 = some (.slice (Tryz.prog.elem 41)) := by rw [hel]; exact Tryz.underlying41
  refine ⟨if c = r then S else S.map (·.add r), fun W => ?_, by omega, ys.drop r, hre.drop_ r hr hmc, fun ad e h0 => ?_⟩
  · rw [run_slice_l W 41 S m c hu .i64 (r : Int) (Int.natCast_nonneg _) (by omega), hel]
    simp [sizeOf, typeInfo, hi, hsz, sliced, Result.andThen]
  · rw [if_neg (by omega)] at e
    cases S with
    | none => cases e
    | some a0 =>
      injection e with e
      subst e
      have hb : (a0.add r).block = a0.block := by unfold Addr.add; split <;> rfl
      rw [hb]
      exact hk a0 rfl (by omega)

set_option maxHeartbeats 8000000 in
set_option maxRecDepth 100000 in
theorem bytes_any (h : St K w0 q b p g k n va vp vt tags np cl W) {S : Option Addr} {m c : Nat} (hsrc : Src K w0 S m c) (hl : k + n + m ≤ 70368744177664) :
    Calls Tryz.prog 65 #[.pointer (some ⟨p, 0, none⟩), .slice S m c] W fun e W' => ∃ x : Int, e = .returned (.tuple #[.int .i64 x, .nilIface]) ∧ ∃ k' n' va', k' + n' = k + n + m ∧ St K w0 q b p g k' n' va' vp vt tags np cl W' := by
  have H := Aside0.mk h
  have HSRC := Aside0.mk hsrc
  clear h hsrc
  go_enter Tryz.func65, Tryz.ntmps65
  go_wp2_with fail
  go_loopw [1, 4] (fun v1 v4 W1 => ∃ (S1 : Option Addr) (m1 c1 : Nat) (x : Int) (k' n' : Nat) (va' : Value), v1 = .slice S1 m1 c1 ∧ v4 = .int .i64 x ∧ Aside0 (Src K w0 S1 m1 c1) ∧ Aside0 (k' + n' + m1 = k + n + m) ∧ Aside0 (St K w0 q b p g k' n' va' vp vt tags np cl W1)) (fun v1 _ W1 => sizeOfV v1 + nOf p W1)
  case atStart => exact ⟨S, m, c, 0, k, n, va, rfl, rfl, HSRC, ⟨rfl⟩, H⟩
  case round =>
    obtain ⟨S1, m1, c1, x, k', n', va', rfl, rfl, HS, HB, HW⟩ := hrel
    have hn := HW.out.nle
    have hsum := HB.out
    have hmc := HS.out.1
    obtain ⟨ys, _, _⟩ : ∃ ys : List Int, True ∧ True := ⟨[], trivial, trivial⟩
    go_wp2_with fail
    with_reducible refine (avail_any HW.out).mono ?_
    rintro e w1 ⟨rfl, hw1⟩
    have HW1 := Aside0.mk hw1
    clear hw1
    obtain ⟨r, hr⟩ : ∃ r, n' + r = 4096 := ⟨4096 - n', by omega⟩
    obtain ⟨A1, hcut, hA1⟩ := cut_free b n' r hr
    by_cases hbig : 4096 < n' + m1
    · have hq : decide ((4096 : Int) - (n' : Int) < (m1 : Int)) = true := decide_eq_true (by omega)
      have k0 := HW1.out.p0
      have k1 := HW1.out.p1
      have k2 := HW1.out.p2
      have k3 := HW1.out.p3
      have kf := HW1.out.pf
      by_cases hz : n' = 0
      · have hz0 : ((n' : Int) == 0) = true := beq_iff_eq.2 (by omega)
        have hp1 := nil_ahead q
        have hp2 := method_write q
        obtain ⟨S2, hcut2, hs2⟩ := HS.out.cut m1 (Nat.le_refl _)
        have HS2 := Aside0.mk hs2
        clear hs2
        clear hz
        go_wp2_with (go_at_call 42; with_reducible refine (buffered_any HW1.out).mono ?_; rintro e w4 ⟨rfl, rfl⟩)
        obtain ⟨zs, hzs⟩ := HS.out.at_ HW1.out
        have HZ := Aside0.mk hzs
        clear hzs
        with_reducible refine (iwrite HW1.out HZ.out (by omega)).mono ?_
        rintro e w6 ⟨rfl, va6, hw6⟩
        have HW6 := Aside0.mk hw6
        have g0 := hw6.p0
        have gf := hw6.pf
        have gs := setCell_same w6 p 0 .nilIface hw6.p0
        have e1 := nOf_is hw6
        have e2 := nOf_is HW.out
        clear hw6
        go_wp2_with fail
        go_roundw
        case rel =>
          go_light
          exact ⟨S2, _, _, _, k' + m1, n', va6, rfl, rfl, ⟨by have := HS2.out; rwa [Nat.sub_self] at this⟩, ⟨by have := HB.out; omega⟩, by first | exact HW6 | (rw [gs]; exact HW6)⟩
        case measure =>
          go_light
          first | (show (m1 - m1) + nOf p w6 < m1 + nOf p wr; omega) | (show 0 + nOf p w6 < m1 + nOf p wr; omega) | (rw [gs]; show (m1 - m1) + nOf p w6 < m1 + nOf p wr; omega)
      · have hz0 : ((n' : Int) == 0) = false := beq_eq_false_iff_ne.2 (by omega)
        have HMIN := Aside0.mk (show r = Nat.min m1 r from (Nat.min_eq_right (by omega)).symm)
        have hrs : r ≤ m1 := by omega
        obtain ⟨S2, hcut2, hs2⟩ := HS.out.cut r hrs
        have HS2 := Aside0.mk hs2
        clear hs2
        go_wp2_with (go_at_call 42; with_reducible refine (buffered_any HW1.out).mono ?_; rintro e w4 ⟨rfl, rfl⟩)
        obtain ⟨zs, hzs⟩ := HS.out.at_ HW1.out.drew
        have HZ := Aside0.mk hzs
        clear hzs
        go_region_law (refine step_copy rfl (.tmp 43) (.tmp 44) 41 rfl (.slice A1 r r) (.slice S1 m1 c1) (by simp [Act.eval, Act.put]) (by simp [Act.eval, Act.put]) r (copy_bytes HW1.out.drew hr hA1 HZ.out _ HMIN.out) ?_; intro w2 hw2; have HW2 := Aside0.mk hw2; have j2 := hw2.p2; have jf := hw2.pf; clear hw2)
        all_goals
          go_wp2_with fail
          with_reducible refine (flush_any (HW2.out.putN ((n' : Int) + (r : Int)) 4096 (by omega) (by omega)) (by have := HB.out; omega)).mono ?_
          rintro e w5 ⟨rfl, va5, hw5⟩
          have HW5 := Aside0.mk hw5
          have e1 := nOf_is hw5
          have e2 := nOf_is HW.out
          clear hw5
          go_wp2_with fail
          go_roundw
          case rel =>
            go_light
            exact ⟨S2, m1 - r, c1 - r, _, k' + 4096, 0, va5, rfl, rfl, HS2, ⟨by have := HB.out; omega⟩, HW5⟩
          case measure =>
            go_light
            show (m1 - r) + nOf p w5 < m1 + nOf p wr
            omega
    · have hq : decide ((4096 : Int) - (n' : Int) < (m1 : Int)) = false := decide_eq_false (by omega)
      have k0 := HW1.out.p0
      have k1 := HW1.out.p1
      have k2 := HW1.out.p2
      have kf := HW1.out.pf
      have HMIN := Aside0.mk (show m1 = Nat.min m1 r from (Nat.min_eq_left (by omega)).symm)
      obtain ⟨zs, hzs⟩ := HS.out.at_ HW1.out.drew
      have HZ := Aside0.mk hzs
      clear hzs
      go_wp2_with fail
      go_region_law (refine step_copy rfl (.tmp 80) (.tmp 81) 41 rfl (.slice A1 r r) (.slice S1 m1 c1) (by simp [Act.eval, Act.put]) (by simp [Act.eval, Act.put]) m1 (copy_bytes HW1.out.drew hr hA1 HZ.out _ HMIN.out) ?_; intro w2 hw2; have HW2 := Aside0.mk hw2; have j2 := hw2.p2; have jf := hw2.pf; clear hw2)
      all_goals go_wp2
      all_goals go_ret2
      all_goals exact ⟨_, rfl, _, _, _, by have := HB.out; omega, HW2.out.putN _ (n' + m1) (by omega) (by omega)⟩

end
end Go.Proofs.YtjoahpmalhmjkaaGreatDoor.EncSt

namespace Go.Proofs.YtjoahpmalhmjkaaGreatDoor.EncSt
open Go.RowKit Go.Proofs.YtjoahpmalhmjkaaGreatDoorW.PrintWords Go.Proofs.YtjoahpmalhmjkaaGreatDoorW.PrintLast Go.Proofs.YtjoahpmalhmjkaaGreatDoorW.PrintMore Go.Lib
set_option linter.unusedVariables false
set_option linter.unusedSimpArgs false

/-- The encoder, T bytes written in all. -/
def SB (K : Nat → Prop) (w0 : World) (q b p g T : Nat) (tags : List ByteArray) (np : Nat) (cl : Bool) (W : World) : Prop :=
  ∃ k n va vp vt, k + n = T ∧ St K w0 q b p g k n va vp vt tags np cl W

section
variable {K : Nat → Prop} {w0 W W' : World} {q b p g T : Nat} {tags : List ByteArray} {np : Nat} {cl : Bool}

theorem SB.below (h : SB K w0 q b p g T tags np cl W) (hb : Below W.heap.size W W') : SB K w0 q b p g T tags np cl W' := by
  obtain ⟨k, n, va, vp, vt, e, h⟩ := h
  exact ⟨k, n, va, vp, vt, e, h.below hb⟩
theorem SB.drew (h : SB K w0 q b p g T tags np cl W) : SB K w0 q b p g T tags np cl W.drew := h.below (below_drew (Below.refl _ _))
theorem SB.drewN (h : SB K w0 q b p g T tags np cl W) (m : Nat) : SB K w0 q b p g T tags np cl (W.drewN m) := h.below (pw_below_drewN (Below.refl _ _) m)
theorem SB.alloc (h : SB K w0 q b p g T tags np cl W) (o : Obj) : SB K w0 q b p g T tags np cl (W.alloc o) := h.below (below_alloc (Below.refl _ _) o)
theorem SB.drawn (h : SB K w0 q b p g T tags np cl W) (hd : Drawn0 W W') : SB K w0 q b p g T tags np cl W' := h.below hd.below
theorem SB.ks (h : SB K w0 q b p g T tags np cl W) : Keeps K w0 q b p g W := by
  obtain ⟨k, n, va, vp, vt, e, h⟩ := h
  exact h.ks
theorem SB.g0 (h : SB K w0 q b p g T tags np cl W) : W.cell? ⟨g, 0, none⟩ = some (.pointer (some ⟨p, 0, none⟩)) := by
  obtain ⟨k, n, va, vp, vt, e, h⟩ := h
  exact h.g0
theorem SB.g12 (h : SB K w0 q b p g T tags np cl W) : W.cell? ⟨g, 12, none⟩ = some (.bool cl) := by
  obtain ⟨k, n, va, vp, vt, e, h⟩ := h
  exact h.g12
theorem SB.g13 (h : SB K w0 q b p g T tags np cl W) : W.cell? ⟨g, 13, none⟩ = some .nilIface := by
  obtain ⟨k, n, va, vp, vt, e, h⟩ := h
  exact h.g13
theorem SB.g3 (h : SB K w0 q b p g T tags np cl W) : W.cell? ⟨g, 3, none⟩ = some (.string ⟨#[]⟩) := by
  obtain ⟨k, n, va, vp, vt, e, h⟩ := h
  exact h.g3
theorem SB.g4 (h : SB K w0 q b p g T tags np cl W) : W.cell? ⟨g, 4, none⟩ = some (.string ⟨#[]⟩) := by
  obtain ⟨k, n, va, vp, vt, e, h⟩ := h
  exact h.g4
theorem SB.gf (h : SB K w0 q b p g T tags np cl W) (i : Nat) : W.frozen? ⟨g, i, none⟩ = false := by
  obtain ⟨k, n, va, vp, vt, e, h⟩ := h
  exact h.gf i
theorem SB.reads {S : Option Addr} {m c : Nat} (hs : Src K w0 S m c) (h : SB K w0 q b p g T tags np cl W) : ∃ ys, ReadsInt W .u8 S m ys := by
  obtain ⟨k, n, va, vp, vt, e, h⟩ := h
  exact hs.at_ h
/-- The error's cell, stored as it was. -/
theorem SB.err (h : SB K w0 q b p g T tags np cl W) : W.setCell ⟨g, 13, none⟩ .nilIface = W := setCell_same W g 13 _ h.g13

theorem bw_string (h : SB K w0 q b p g T tags np cl W) (s : ByteArray) (hl : T + s.size ≤ 70368744177664) :
    Calls Tryz.prog 64 #[.pointer (some ⟨p, 0, none⟩), .string s] W fun e W' => ∃ x : Int, e = .returned (.tuple #[.int .i64 x, .nilIface]) ∧ SB K w0 q b p g (T + s.size) tags np cl W' := by
  obtain ⟨k, n, va, vp, vt, rfl, h⟩ := h
  refine (string_any h s hl).mono ?_
  rintro e W' ⟨x, rfl, k', n', va', hk, h'⟩
  exact ⟨x, rfl, k', n', va', vp, vt, hk, h'⟩
theorem bw_bytes (h : SB K w0 q b p g T tags np cl W) {S : Option Addr} {m c : Nat} (hs : Src K w0 S m c) (hl : T + m ≤ 70368744177664) :
    Calls Tryz.prog 65 #[.pointer (some ⟨p, 0, none⟩), .slice S m c] W fun e W' => ∃ x : Int, e = .returned (.tuple #[.int .i64 x, .nilIface]) ∧ SB K w0 q b p g (T + m) tags np cl W' := by
  obtain ⟨k, n, va, vp, vt, rfl, h⟩ := h
  refine (bytes_any h hs hl).mono ?_
  rintro e W' ⟨x, rfl, k', n', va', hk, h'⟩
  exact ⟨x, rfl, k', n', va', vp, vt, hk, h'⟩
theorem bw_byte (h : SB K w0 q b p g T tags np cl W) (x : Int) (hl : T ≤ 70368744177664) :
    Calls Tryz.prog 70 #[.pointer (some ⟨p, 0, none⟩), .int .u8 x] W fun e W' => e = .returned .nilIface ∧ SB K w0 q b p g (T + 1) tags np cl W' := by
  obtain ⟨k, n, va, vp, vt, rfl, h⟩ := h
  refine (byte_any h hl x).mono ?_
  rintro e W' ⟨rfl, k', n', va', hk, h'⟩
  exact ⟨rfl, k', n', va', vp, vt, hk, h'⟩
theorem bw_flush (h : SB K w0 q b p g T tags np cl W) (hl : T ≤ 70368744177664) :
    Calls Tryz.prog 46 #[.pointer (some ⟨p, 0, none⟩)] W fun e W' => e = .returned .nilIface ∧ SB K w0 q b p g T tags np cl W' := by
  obtain ⟨k, n, va, vp, vt, rfl, h⟩ := h
  refine (flush_any h hl).mono ?_
  rintro e W' ⟨rfl, va', h'⟩
  exact ⟨rfl, k + n, 0, va', vp, vt, rfl, h'⟩

set_option maxRecDepth 100000 in
theorem p_bytes (h : SB K w0 q b p g T tags np false W) {S : Option Addr} {m c : Nat} (hs : Src K w0 S m c) (hl : T + m ≤ 70368744177664) :
    Calls Tryz.prog 40 #[.pointer (some ⟨g, 0, none⟩), .slice S m c] W fun e W' => ∃ x : Int, e = .returned (.tuple #[.int .i64 x, .nilIface]) ∧ SB K w0 q b p g (T + m) tags np false W' := by
  have H := Aside0.mk h
  have HS := Aside0.mk hs
  have h0 := h.g0
  have h12 := h.g12
  have h13 := h.g13
  have hf := h.gf
  clear h hs
  go_enter Tryz.func40, Tryz.ntmps40
  go_wp2_with fail
  with_reducible refine (bw_bytes H.out HS.out hl).mono ?_
  rintro e w1 ⟨x, rfl, hw1⟩
  have HW1 := Aside0.mk hw1
  have j13 := hw1.g13
  have jf := hw1.gf
  have js := hw1.err
  clear hw1
  go_wp2_with fail
  repeat (go_quiet (fail); try go_wp2)
  go_ret2
  exact ⟨_, rfl, HW1.out.drewN _⟩

set_option maxRecDepth 100000 in
theorem p_string (h : SB K w0 q b p g T tags np false W) (s : ByteArray) (hl : T + s.size ≤ 70368744177664) :
    Calls Tryz.prog 39 #[.pointer (some ⟨g, 0, none⟩), .string s] W fun e W' => ∃ x : Int, e = .returned (.tuple #[.int .i64 x, .nilIface]) ∧ SB K w0 q b p g (T + s.size) tags np false W' := by
  have H := Aside0.mk h
  have h0 := h.g0
  have h12 := h.g12
  have h13 := h.g13
  have hf := h.gf
  clear h
  go_enter Tryz.func39, Tryz.ntmps39
  go_wp2_with fail
  with_reducible refine (bw_string H.out s hl).mono ?_
  rintro e w1 ⟨x, rfl, hw1⟩
  have HW1 := Aside0.mk hw1
  have j13 := hw1.g13
  have jf := hw1.gf
  have js := hw1.err
  clear hw1
  go_wp2_with fail
  repeat (go_quiet (fail); try go_wp2)
  go_ret2
  exact ⟨_, rfl, HW1.out.drewN _⟩

set_option maxRecDepth 100000 in
theorem p_byte (h : SB K w0 q b p g T tags np false W) (x : Int) (hl : T ≤ 70368744177664) :
    Calls Tryz.prog 44 #[.pointer (some ⟨g, 0, none⟩), .int .u8 x] W fun e W' => e = .returned .nilIface ∧ SB K w0 q b p g (T + 1) tags np false W' := by
  have H := Aside0.mk h
  have h0 := h.g0
  have h12 := h.g12
  have h13 := h.g13
  have hf := h.gf
  clear h
  go_enter Tryz.func44, Tryz.ntmps44
  go_wp2_with fail
  with_reducible refine (bw_byte H.out x hl).mono ?_
  rintro e w1 ⟨rfl, hw1⟩
  have HW1 := Aside0.mk hw1
  have j13 := hw1.g13
  have jf := hw1.gf
  have js := hw1.err
  clear hw1
  go_wp2_with fail
  go_ret
  exact ⟨rfl, HW1.out⟩

theorem p_cached (h : SB K w0 q b p g T tags np false W) (hl : T ≤ 70368744177664) :
    Calls Tryz.prog 41 #[.pointer (some ⟨g, 0, none⟩)] W fun e W' => e = .returned .nilIface ∧ SB K w0 q b p g T tags np false W' := by
  have H := Aside0.mk h
  clear h
  go_enter Tryz.func41, Tryz.ntmps41
  go_wp2_with fail
  with_reducible refine (p_bytes H.out (Src.nil K w0 none 0) (by omega)).mono ?_
  rintro e w1 ⟨x, rfl, hw1⟩
  have HW1 := Aside0.mk hw1
  clear hw1
  go_wp2_with fail
  go_ret
  exact ⟨rfl, HW1.out⟩

theorem p_indent (h : SB K w0 q b p g T tags np false W) (x : Int) :
    Calls Tryz.prog 57 #[.pointer (some ⟨g, 0, none⟩), .int .i64 x] W fun e W' => e = .returned (.tuple #[]) ∧ SB K w0 q b p g T tags np false W' := by
  have H := Aside0.mk h
  have h3 := h.g3
  have h4 := h.g4
  clear h
  go_enter Tryz.func57, Tryz.ntmps57
  go_wp2_with fail
  refine bodyPost_ret (results_none rfl _ _ _) rfl ⟨rfl, H.out⟩

theorem enc_flush (h : SB K w0 q b p g T tags np cl W) (hl : T ≤ 70368744177664) :
    Calls Tryz.prog 24 #[.pointer (some ⟨g, 0, none⟩)] W fun e W' => e = .returned .nilIface ∧ SB K w0 q b p g T tags np cl W' := by
  have H := Aside0.mk h
  have h0 := h.g0
  clear h
  go_enter Tryz.func24, Tryz.ntmps24
  go_wp2_with fail
  with_reducible refine (bw_flush H.out hl).mono ?_
  rintro e w1 ⟨rfl, hw1⟩
  have HW1 := Aside0.mk hw1
  clear hw1
  go_wp2_with fail
  go_ret
  exact ⟨rfl, HW1.out⟩

end
end Go.Proofs.YtjoahpmalhmjkaaGreatDoor.EncSt

namespace Go.Proofs.YtjoahpmalhmjkaaGreatDoor.EncSt
open Go.RowKit Go.Proofs.YtjoahpmalhmjkaaGreatDoorW.PrintWords Go.Proofs.YtjoahpmalhmjkaaGreatDoorW.PrintLast Go.Proofs.YtjoahpmalhmjkaaGreatDoorW.PrintMore Go.Lib
set_option linter.unusedVariables false
set_option linter.unusedSimpArgs false

theorem new_any (s : ByteArray) (W : World) : Calls Tryz.prog 38 #[.string s] W fun e W' => e = .returned (.iface 134 (.pointer (some ⟨W.heap.size, 0, none⟩))) ∧ W' = W.alloc (.cells #[.string s] 136) := by
  go_enter Tryz.func38, Tryz.ntmps38
  go_wp2
  go_ret
  exact ⟨rfl, rfl⟩

section
variable {K : Nat → Prop} {w0 W W' : World} {q b p g T : Nat} {tags : List ByteArray} {np : Nat} {cl : Bool}

theorem own_form {w : World} {base e size n : Nat} {v : Value} {xs : List Value} (h : w.ownsRow base e size v n xs) (h0 : 0 < n) : ∃ x c, v = .slice (some ⟨x, 0, none⟩) n c ∧ n ≤ c ∧ (∀ j u, xs[j]? = some u → w.cell? ⟨x, j, none⟩ = some u) := by
  have hc := fun g hg => h.cells (g := g) hg
  rcases h.2 with ⟨_, h1⟩ | ⟨x, cap, cur, rfl, _, _, h2, _⟩
  · omega
  · refine ⟨x, cap, rfl, h2, fun j u hu => ?_⟩
    have := hc x rfl j u hu
    rwa [add_plain] at this

set_option maxRecDepth 100000 in
theorem mark_any (h : SB K w0 q b p g T tags np cl W) (hn : np ≤ 4294967296) :
    Calls Tryz.prog 56 #[.pointer (some ⟨g, 0, none⟩)] W fun e W' => e = .returned (.tuple #[]) ∧ SB K w0 q b p g T tags (np + 1) cl W' := by
  obtain ⟨k, n, va, vp, vt, rfl, h⟩ := h
  have H := Aside0.mk h
  have h10 := h.g10
  have hf := h.gf
  clear h
  go_enter Tryz.func56, Tryz.ntmps56
  go_wp2_with (at_builtin; refine print_append_cells (w0 := W) 0 rfl _ _ 70 9 (.string ⟨#[]⟩) 1 16 rfl Tryz.underlying70 (by kernel_rfl) rfl (by decide) (by decide) vp np _ [.string ⟨#[]⟩] rfl rfl rfl (by intro u hu; simp at hu; subst hu; rfl) H.out.po (Below.refl _ _) (Nat.zero_le _) (by omega) ?_; intro v1 w1 hown hbel hgr hat; obtain ⟨A1, c1, rfl⟩ := own_slice hown; have HS := Aside0.mk (St.putP H.out hgr (m := np + 1) (by rw [List.replicate_succ']; exact hown) hat); have hb1 := (Only.grown hgr).blk H.out.gb (fun e => row_ne H.out.po H.out.gb (by decide) _ e rfl); have hc1 := blk_cell hb1 10; have hf1 := blk_frozen hb1 10; clear hown hbel hgr hat hb1)
  go_end0
  exact ⟨rfl, _, _, _, _, _, rfl, HS.out⟩

theorem St.shrinkP {k n c : Nat} {A : Option Addr} {va vt : Value} (h : St K w0 q b p g k n va (.slice A (np + 1) c) vt tags (np + 1) cl W) : St K w0 q b p g k n va (.slice A np c) vt tags np cl (W.setCell ⟨g, 10, none⟩ (.slice A np c)) := by
  refine St.putP h (World.grownBy.refl W _) (m := np) ?_ ?_
  · have := own_shrink h.po (m := np) (by omega)
    simpa [List.take_replicate] using this
  · left
    cases A <;> rfl

theorem cut_pre (x m c : Nat) (hc : m + 1 ≤ c) (W : World) : (Instr.slice 70 (.slice (some ⟨x, 0, none⟩) (m + 1) c) none (some (.int .i64 (m : Int))) none).run Tryz.prog W = .ok (.slice (some ⟨x, 0, none⟩) m c) W := by
  have hel : Tryz.prog.elem 70 = 9 := by simp [Program.elem, Tryz.underlying70]
  have hu : Tryz.prog.underlying 70 = some (.slice (Tryz.prog.elem 70)) := by rw [hel]; exact Tryz.underlying70
  obtain ⟨i0, hi, hz⟩ := Option.map_eq_some_iff.1 (show (Tryz.prog.info? 9).map (·.size) = some 1 by kernel_rfl)
  rw [run_slice_h W 70 _ (m + 1) c hu .i64 (m : Int) (Int.natCast_nonneg _) (by omega), hel]
  simp [sizeOf, typeInfo, hi, hz, sliced, Result.andThen, Addr.add]

set_option maxRecDepth 100000 in
theorem pop_any (h : SB K w0 q b p g T tags (np + 1) cl W) (hn : np ≤ 4294967296) :
    Calls Tryz.prog 60 #[.pointer (some ⟨g, 0, none⟩)] W fun e W' => e = .returned (.tuple #[]) ∧ SB K w0 q b p g T tags np cl W' := by
  obtain ⟨k, n, va, vp, vt, rfl, h⟩ := h
  obtain ⟨x, c, rfl, hle, hcell⟩ := own_form h.po (by omega)
  have hx := hcell np (.string ⟨#[]⟩) (by simp)
  have H := Aside0.mk h
  have h10 := h.g10
  have hf := h.gf
  have hcut := cut_pre x np c hle
  clear h hcell
  go_enter Tryz.func60, Tryz.ntmps60
  go_wp2
  refine wp_loop_rounds 1 ?_
  rw [rounds_succ]
  go_wp2
  go_quiet (fail)
  go_wp2
  go_region
  all_goals go_wp2
  all_goals go_end0
  all_goals exact ⟨rfl, _, _, _, _, _, rfl, by first | exact H.out.drew.shrinkP | exact ((H.out.drewN _).shrinkP).drew | exact ((H.out.drewN _).drew).shrinkP | exact (((H.out.drewN _).drew).shrinkP).drew⟩

end
end Go.Proofs.YtjoahpmalhmjkaaGreatDoor.EncSt

namespace Go.Proofs.YtjoahpmalhmjkaaGreatDoor.EncSt
open Go.RowKit Go.Proofs.YtjoahpmalhmjkaaGreatDoorW.PrintWords Go.Proofs.YtjoahpmalhmjkaaGreatDoorW.PrintLast Go.Proofs.YtjoahpmalhmjkaaGreatDoorW.PrintMore Go.Lib
set_option linter.unusedVariables false
set_option linter.unusedSimpArgs false

theorem tagCells_length (tags : List ByteArray) : (tagCells tags).length = tags.length * 2 := by
  unfold tagCells
  induction tags with
  | nil => rfl
  | cons t r ih =>
    rw [List.flatMap_cons, List.length_append, ih]
    simp
    omega

theorem ne_toList {s : ByteArray} (h : 0 < s.size) : s.toList ≠ [] := by
  intro e
  rw [Lib.toList_data] at e
  have : s.data.toList.length = 0 := by rw [e]; rfl
  rw [← Lib.size_eq] at this
  omega

section
variable {K : Nat → Prop} {w0 W W' : World} {q b p g T : Nat} {tags : List ByteArray} {np : Nat} {cl : Bool}

/-- A new block is kept from here on. -/
theorem St.box {k n : Nat} {va vp vt : Value} (h : St K w0 q b p g k n va vp vt tags np cl W) (o : Obj) : St (fun i => K i ∨ i = W.heap.size) (W.alloc o) q b p g k n va vp vt tags np cl (W.alloc o) := by
  obtain ⟨xs, hxs, ho⟩ := h.qo
  obtain ⟨ys, hy, hbb⟩ := h.bb
  have hs := h.ks.size
  refine (h.alloc o).rebase _ (fun i hi => ?_)
  rcases hi with hi | rfl
  · have h1 := h.ks.lt i hi
    have h2 := h.ks.off i hi
    refine ⟨by simp; omega, h2.1, h2.2.1, h2.2.2.1, h2.2.2.2, fun e => (h.qk i e).1 hi, fun e => h.pk i e hi, fun e => h.tk i e hi⟩
  · have h1 := blk_lt h.qb
    have h2 := blk_lt hbb
    have h3 := blk_lt h.pb
    have h4 := blk_lt h.gb
    refine ⟨by simp, by omega, by omega, by omega, by omega, fun e => ?_, fun e => ?_, fun e => ?_⟩
    · have := own_lt ho _ e
      omega
    · have := own_lt h.po _ e
      omega
    · have := own_lt h.tg _ e
      omega
/-- Back to what was kept before. -/
theorem St.back {k n : Nat} {va vp vt : Value} {X : Nat → Prop} {W1 : World} (hk : Keeps K w0 q b p g W1) (h : St (fun i => K i ∨ X i) W1 q b p g k n va vp vt tags np cl W) : St K w0 q b p g k n va vp vt tags np cl W :=
  ⟨⟨h.ks.os.trans hk.os, h.ks.tape.trans hk.tape, h.ks.output.trans hk.output, Nat.le_trans hk.size h.ks.size, hk.lt, fun i hi => (h.ks.kept i (.inl hi)).trans (hk.kept i hi), hk.off⟩,
    h.qb, h.qo, fun i hi => ⟨fun hK => (h.qk i hi).1 (.inl hK), (h.qk i hi).2⟩, h.bb, h.pb, h.nle, h.gb, h.po, fun i hi hK => h.pk i hi (.inl hK), h.tg, fun i hi hK => h.tk i hi (.inl hK)⟩
theorem SB.back {X : Nat → Prop} {W1 : World} (hk : Keeps K w0 q b p g W1) (h : SB (fun i => K i ∨ X i) W1 q b p g T tags np cl W) : SB K w0 q b p g T tags np cl W := by
  obtain ⟨k, n, va, vp, vt, e, h⟩ := h
  exact ⟨k, n, va, vp, vt, e, h.back hk⟩
theorem SB.box (h : SB K w0 q b p g T tags np cl W) (o : Obj) : SB (fun i => K i ∨ i = W.heap.size) (W.alloc o) q b p g T tags np cl (W.alloc o) := by
  obtain ⟨k, n, va, vp, vt, e, h⟩ := h
  exact ⟨k, n, va, vp, vt, e, h.box o⟩
theorem Keeps.cell (h : Keeps K w0 q b p g W) {a : Addr} (ha : K a.block) : W.cell? a = w0.cell? a := World.cell?_of_block (h.kept _ ha)
theorem Keeps.blk (h : Keeps K w0 q b p g W) {i : Nat} {o : Obj} (hi : K i) (ho : w0.heap[i]? = some o) : W.heap[i]? = some o := (h.kept i hi).trans ho

theorem St.shrinkT {k n m c : Nat} {A : Option Addr} {va vp : Value} {t : ByteArray} (hm : m = tags.length) (h : St K w0 q b p g k n va vp (.slice A (m + 1) c) (tags ++ [t]) np cl W) : St K w0 q b p g k n va vp (.slice A m c) tags np cl (W.setCell ⟨g, 11, none⟩ (.slice A m c)) := by
  subst hm
  refine St.putT h (World.grownBy.refl W _) (tags1 := tags) ?_ ?_
  · have h1 := h.tg
    rw [List.length_append, List.length_singleton] at h1
    have := own_shrink h1 (m := tags.length) (by omega)
    have hl : (tagCells tags).length = tags.length * 2 := by
      exact tagCells_length tags
    have e : (tagCells (tags ++ [t])).take (tags.length * 2) = tagCells tags := by
      rw [← hl]
      unfold tagCells
      rw [List.flatMap_append, List.take_left]
    rwa [e] at this
  · left
    cases A <;> rfl

theorem tag_form {k n : Nat} {va vp vt : Value} {t : ByteArray} (h : St K w0 q b p g k n va vp vt (tags ++ [t]) np cl W) :
    ∃ x c, vt = .slice (some ⟨x, 0, none⟩) (tags.length + 1) c ∧ tags.length + 1 ≤ c ∧ W.cell? ⟨x, tags.length * 2, none⟩ = some (.string ⟨#[]⟩) ∧ W.cell? ⟨x, tags.length * 2 + 1, none⟩ = some (.string t) := by
  obtain ⟨x, c, e, hle, hc⟩ := own_form h.tg (by simp)
  rw [List.length_append, List.length_singleton] at e hle
  have hl : (tagCells tags).length = tags.length * 2 := by
    exact tagCells_length tags
  have e2 : tagCells (tags ++ [t]) = tagCells tags ++ [.string ⟨#[]⟩, .string t] := by
    unfold tagCells
    rw [List.flatMap_append]
    rfl
  rw [e2] at hc
  exact ⟨x, c, e, hle, hc _ _ (by rw [List.getElem?_append_right (by omega), hl]; simp), hc _ _ (by rw [List.getElem?_append_right (by omega), hl, Nat.add_sub_cancel_left]; rfl)⟩

theorem cut_tag (x m c : Nat) (hc : m + 1 ≤ c) (W : World) : (Instr.slice 71 (.slice (some ⟨x, 0, none⟩) (m + 1) c) none (some (.int .i64 (m : Int))) none).run Tryz.prog W = .ok (.slice (some ⟨x, 0, none⟩) m c) W := by
  have hel : Tryz.prog.elem 71 = 77 := by simp [Program.elem, Tryz.underlying71]
  have hu : Tryz.prog.underlying 71 = some (.slice (Tryz.prog.elem 71)) := by rw [hel]; exact Tryz.underlying71
  obtain ⟨i0, hi, hz⟩ := Option.map_eq_some_iff.1 (show (Tryz.prog.info? 77).map (·.size) = some 2 by kernel_rfl)
  rw [run_slice_h W 71 _ (m + 1) c hu .i64 (m : Int) (Int.natCast_nonneg _) (by omega), hel]
  simp [sizeOf, typeInfo, hi, hz, sliced, Result.andThen, Addr.add]

set_option maxHeartbeats 2000000 in
set_option maxRecDepth 100000 in
theorem end_ok {ts : List ByteArray} {nm : ByteArray} (h : SB K w0 q b p g T (ts ++ [nm]) (np + 1) false W) (hn : np ≤ 4294967296) (hts : ts.length ≤ 4294967296) (h0 : 0 < nm.size) (hl : T + 3 + nm.size ≤ 70368744177664) :
    Calls Tryz.prog 35 #[.pointer (some ⟨g, 0, none⟩), .agg #[.string ⟨#[]⟩, .string nm]] W fun e W' => e = .returned .nilIface ∧ SB K w0 q b p g (T + 3 + nm.size) ts np false W' := by
  obtain ⟨k, n, va, vp, vt, rfl, h⟩ := h
  obtain ⟨x, c, rfl, hle, hx0, hx1⟩ := tag_form h
  obtain ⟨m, hm⟩ : ∃ m, m = ts.length := ⟨_, rfl⟩
  rw [← hm] at h hle hx0 hx1 hts
  have H := Aside0.mk h
  have HM := Aside0.mk hm
  have hcut := cut_tag x m c hle
  have hne : (nm.toList == ([] : List UInt8)) = false := beq_eq_false_iff_ne.2 (ne_toList h0)
  have hnb : nm.toList.isEmpty = false := List.isEmpty_eq_false_iff.2 (ne_toList h0)
  have hg0 : ((m : Int) + 1 == 0) = false := beq_eq_false_iff_ne.2 (by omega)
  have HX := Aside0.mk (And.intro hx0 hx1)
  have hgl := blk_lt h.gb
  have hxl : x < W.heap.size := World.block_lt_of_cell? W _ hx0
  clear h hm hx0 hx1
  go_enter Tryz.func35, Tryz.ntmps35
  go_wp2
  have hA := H.out.box (.cells #[.string ⟨#[]⟩, .string nm] 77)
  have HK := Aside0.mk (H.out.alloc (.cells #[.string ⟨#[]⟩, .string nm] 77)).ks
  have hB := blk_new W (.cells #[.string ⟨#[]⟩, .string nm] 77)
  have hx0 := (World.cell?_of_block (a := ⟨x, m * 2, none⟩) (Below.heap_alloc W (.cells #[.string ⟨#[]⟩, .string nm] 77) x hxl)).trans HX.out.1
  have hx1 := (World.cell?_of_block (a := ⟨x, m * 2 + 1, none⟩) (Below.heap_alloc W (.cells #[.string ⟨#[]⟩, .string nm] 77) x hxl)).trans HX.out.2
  have HA := Aside0.mk hA
  clear hA
  generalize W.alloc (.cells #[.string ⟨#[]⟩, .string nm] 77) = W1 at HA hB hx0 hx1 HK ⊢
  generalize W.heap.size = B at hB HA ⊢
  have HB := Aside0.mk hB
  have hgB : g ≠ B := fun e => (HA.out.ks.off B (.inr rfl)).2.2.2 e.symm
  have hB0 : W1.cell? ⟨B, 0, none⟩ = some (.string ⟨#[]⟩) := blk_cell hB 0
  have hB1 : W1.cell? ⟨B, 1, none⟩ = some (.string nm) := blk_cell hB 1
  have h11 := HA.out.g11
  have hf := HA.out.gf
  go_quiet (fail)
  go_wp2
  have HA2 := Aside0.mk (HA.out.drewN nq)
  have hx02 : (W1.drewN nq).cell? ⟨x, m * 2, none⟩ = some (.string ⟨#[]⟩) := hx0
  have hx12 : (W1.drewN nq).cell? ⟨x, m * 2 + 1, none⟩ = some (.string nm) := hx1
  clear hB hx0 hx1 hB0 hB1 h11 hf
  generalize W1.drewN nq = W2 at HA2 hx02 hx12 ⊢
  have h11 := HA2.out.g11
  have hf := HA2.out.gf
  have hgl2 := blk_lt HA2.out.gb
  have hxl2 : x < W2.heap.size := World.block_lt_of_cell? W2 _ hx02
  have hA11 : ∀ o, (W2.alloc o).cell? ⟨g, 11, none⟩ = some (.slice (some ⟨x, 0, none⟩) (m + 1) c) := fun o => (World.cell?_of_block (Below.heap_alloc W2 o g hgl2)).trans h11
  have hAx0 : ∀ o, (W2.alloc o).cell? ⟨x, m * 2, none⟩ = some (.string ⟨#[]⟩) := fun o => (World.cell?_of_block (Below.heap_alloc W2 o x hxl2)).trans hx02
  have hAx1 : ∀ o, (W2.alloc o).cell? ⟨x, m * 2 + 1, none⟩ = some (.string nm) := fun o => (World.cell?_of_block (Below.heap_alloc W2 o x hxl2)).trans hx12
  go_region
  have HA3 := Aside0.mk (HA2.out.alloc (.cells #[.string ⟨#[]⟩, .string nm] 77)).drew
  have hC3 : (W2.alloc (.cells #[.string ⟨#[]⟩, .string nm] 77)).drew.heap[W2.heap.size]? = some (.cells #[.string ⟨#[]⟩, .string nm] 77 (0, 0)) := blk_new W2 _
  have hgC : g ≠ W2.heap.size := by omega
  clear hA11 hAx0 hAx1 h11 hf hgl2 hxl2 hx02 hx12
  generalize (W2.alloc (.cells #[.string ⟨#[]⟩, .string nm] 77)).drew = W3 at HA3 hC3 ⊢
  generalize W2.heap.size = C at hC3 hgC ⊢
  have hB3 := HA3.out.ks.blk (.inr rfl) HB.out
  have hB0 : W3.cell? ⟨B, 0, none⟩ = some (.string ⟨#[]⟩) := blk_cell hB3 0
  have hB1 : W3.cell? ⟨B, 1, none⟩ = some (.string nm) := blk_cell hB3 1
  have hC0 : W3.cell? ⟨C, 0, none⟩ = some (.string ⟨#[]⟩) := blk_cell hC3 0
  have hC1 : W3.cell? ⟨C, 1, none⟩ = some (.string nm) := blk_cell hC3 1
  have h11 := HA3.out.g11
  have hf := HA3.out.gf
  clear hB3 hC3
  go_wp2
  go_region
  have HS4 := Aside0.mk (show SB (fun i => K i ∨ i = B) W1 q b p g (k + n) ts (np + 1) false _ from ⟨k, n, va, vp, _, rfl, ((HA3.out.shrinkT HM.out).drew)⟩)
  clear hB0 hB1 hC0 hC1 h11 hf
  generalize (W3.setCell ⟨g, 11, none⟩ (.slice (some ⟨x, 0, none⟩) m c)).drew = W4 at HS4 ⊢
  go_wp2_with fail
  with_reducible refine (p_indent HS4.out _).mono ?_
  rintro e w5 ⟨rfl, hw⟩
  have HS5 := Aside0.mk hw
  clear hw
  go_wp2_with fail
  with_reducible refine (p_byte HS5.out 60 (by omega)).mono ?_
  rintro e w6 ⟨rfl, hw⟩
  have HS6 := Aside0.mk hw
  clear hw
  go_wp2_with fail
  with_reducible refine (p_byte HS6.out 47 (by omega)).mono ?_
  rintro e w7 ⟨rfl, hw⟩
  have HS7 := Aside0.mk hw
  have hB1 : w7.cell? ⟨B, 1, none⟩ = some (.string nm) := blk_cell (hw.ks.blk (.inr rfl) HB.out) 1
  clear hw
  go_wp2_with fail
  with_reducible refine (p_string HS7.out nm (by omega)).mono ?_
  rintro e w8 ⟨_, rfl, hw⟩
  have HS8 := Aside0.mk hw
  clear hw hB1
  go_wp2_with fail
  with_reducible refine (p_byte HS8.out 62 (by omega)).mono ?_
  rintro e w9 ⟨rfl, hw⟩
  have HS9 := Aside0.mk hw
  clear hw
  go_wp2_with fail
  with_reducible refine (pop_any HS9.out hn).mono ?_
  rintro e w10 ⟨rfl, hw⟩
  have HS10 := Aside0.mk (hw.back HK.out)
  clear hw
  go_wp2_with fail
  go_ret
  exact ⟨rfl, by have := HS10.out; rwa [show k + n + 1 + 1 + nm.size + 1 = k + n + 3 + nm.size by omega] at this⟩

end
end Go.Proofs.YtjoahpmalhmjkaaGreatDoor.EncSt

namespace Go.Proofs.YtjoahpmalhmjkaaGreatDoor.EncSt
open Go.RowKit Go.Proofs.YtjoahpmalhmjkaaGreatDoorW.PrintWords Go.Proofs.YtjoahpmalhmjkaaGreatDoorW.PrintLast Go.Proofs.YtjoahpmalhmjkaaGreatDoorW.PrintMore Go.Lib
set_option linter.unusedVariables false
set_option linter.unusedSimpArgs false

/-- An error of errors.New's, made behind w0. -/
def Err (w0 : World) (e : Ending) (W : World) : Prop := ∃ x s, e = .returned (.iface 134 (.pointer (some ⟨x, 0, none⟩))) ∧ W.heap[x]? = some (.cells #[.string s] 136 (0, 0)) ∧ w0.heap.size ≤ x

section
variable {K : Nat → Prop} {w0 W W' : World} {q b p g T : Nat} {tags : List ByteArray} {np : Nat} {cl : Bool}

theorem SB.made (h : SB K w0 q b p g T tags np cl W) (s : ByteArray) : Err w0 (.returned (.iface 134 (.pointer (some ⟨W.heap.size, 0, none⟩)))) (W.alloc (.cells #[.string s] 136)) ∧ SB K w0 q b p g T tags np cl (W.alloc (.cells #[.string s] 136)) :=
  ⟨⟨_, s, rfl, blk_new W _, h.ks.size⟩, h.alloc _⟩

set_option maxHeartbeats 2000000 in
set_option maxRecDepth 100000 in
theorem end_wrong {ts : List ByteArray} {t nm : ByteArray} (h : SB K w0 q b p g T (ts ++ [t]) np cl W) (hts : ts.length ≤ 4294967296) (h0 : 0 < nm.size) (ht0 : 0 < t.size) (htn : t.toList ≠ nm.toList) :
    Calls Tryz.prog 35 #[.pointer (some ⟨g, 0, none⟩), .agg #[.string ⟨#[]⟩, .string nm]] W fun e W' => Err w0 e W' ∧ SB K w0 q b p g T (ts ++ [t]) np cl W' := by
  obtain ⟨k, n, va, vp, vt, rfl, h⟩ := h
  obtain ⟨x, c, rfl, hle, hx0, hx1⟩ := tag_form h
  obtain ⟨m, hm⟩ : ∃ m, m = ts.length := ⟨_, rfl⟩
  rw [← hm] at h hle hx0 hx1 hts
  have H := Aside0.mk h
  have HM := Aside0.mk hm
  have hcut := cut_tag x m c hle
  have hne : (nm.toList == ([] : List UInt8)) = false := beq_eq_false_iff_ne.2 (ne_toList h0)
  have hne1 : (t.toList == ([] : List UInt8)) = false := beq_eq_false_iff_ne.2 (ne_toList ht0)
  have hnb1 : t.toList.isEmpty = false := List.isEmpty_eq_false_iff.2 (ne_toList ht0)
  have hnt : (t.toList == nm.toList) = false := beq_eq_false_iff_ne.2 htn
  have hnt2 : (t.toList != nm.toList) = true := bne_iff_ne.2 htn
  have hnb : nm.toList.isEmpty = false := List.isEmpty_eq_false_iff.2 (ne_toList h0)
  have hg0 : ((m : Int) + 1 == 0) = false := beq_eq_false_iff_ne.2 (by omega)
  have HX := Aside0.mk (And.intro hx0 hx1)
  have hgl := blk_lt h.gb
  have hxl : x < W.heap.size := World.block_lt_of_cell? W _ hx0
  clear h hm hx0 hx1
  go_enter Tryz.func35, Tryz.ntmps35
  go_wp2
  have hA := H.out.box (.cells #[.string ⟨#[]⟩, .string nm] 77)
  have HK := Aside0.mk (H.out.alloc (.cells #[.string ⟨#[]⟩, .string nm] 77)).ks
  have hB := blk_new W (.cells #[.string ⟨#[]⟩, .string nm] 77)
  have hx0 := (World.cell?_of_block (a := ⟨x, m * 2, none⟩) (Below.heap_alloc W (.cells #[.string ⟨#[]⟩, .string nm] 77) x hxl)).trans HX.out.1
  have hx1 := (World.cell?_of_block (a := ⟨x, m * 2 + 1, none⟩) (Below.heap_alloc W (.cells #[.string ⟨#[]⟩, .string nm] 77) x hxl)).trans HX.out.2
  have HA := Aside0.mk hA
  clear hA
  generalize W.alloc (.cells #[.string ⟨#[]⟩, .string nm] 77) = W1 at HA hB hx0 hx1 HK ⊢
  generalize W.heap.size = B at hB HA ⊢
  have HB := Aside0.mk hB
  have hgB : g ≠ B := fun e => (HA.out.ks.off B (.inr rfl)).2.2.2 e.symm
  have hB0 : W1.cell? ⟨B, 0, none⟩ = some (.string ⟨#[]⟩) := blk_cell hB 0
  have hB1 : W1.cell? ⟨B, 1, none⟩ = some (.string nm) := blk_cell hB 1
  have h11 := HA.out.g11
  have hf := HA.out.gf
  go_quiet (fail)
  go_wp2
  have HA2 := Aside0.mk (HA.out.drewN nq)
  have hx02 : (W1.drewN nq).cell? ⟨x, m * 2, none⟩ = some (.string ⟨#[]⟩) := hx0
  have hx12 : (W1.drewN nq).cell? ⟨x, m * 2 + 1, none⟩ = some (.string t) := hx1
  clear hB hx0 hx1 hB0 hB1 h11 hf
  generalize W1.drewN nq = W2 at HA2 hx02 hx12 ⊢
  have h11 := HA2.out.g11
  have hf := HA2.out.gf
  have hgl2 := blk_lt HA2.out.gb
  have hxl2 : x < W2.heap.size := World.block_lt_of_cell? W2 _ hx02
  have hA11 : ∀ o, (W2.alloc o).cell? ⟨g, 11, none⟩ = some (.slice (some ⟨x, 0, none⟩) (m + 1) c) := fun o => (World.cell?_of_block (Below.heap_alloc W2 o g hgl2)).trans h11
  have hAx0 : ∀ o, (W2.alloc o).cell? ⟨x, m * 2, none⟩ = some (.string ⟨#[]⟩) := fun o => (World.cell?_of_block (Below.heap_alloc W2 o x hxl2)).trans hx02
  have hAx1 : ∀ o, (W2.alloc o).cell? ⟨x, m * 2 + 1, none⟩ = some (.string t) := fun o => (World.cell?_of_block (Below.heap_alloc W2 o x hxl2)).trans hx12
  go_region
  have HA3 := Aside0.mk (HA2.out.alloc (.cells #[.string ⟨#[]⟩, .string t] 77)).drew
  have hC3 : (W2.alloc (.cells #[.string ⟨#[]⟩, .string t] 77)).drew.heap[W2.heap.size]? = some (.cells #[.string ⟨#[]⟩, .string t] 77 (0, 0)) := blk_new W2 _
  have hgC : g ≠ W2.heap.size := by omega
  clear hA11 hAx0 hAx1 h11 hf hgl2 hxl2 hx02 hx12
  generalize (W2.alloc (.cells #[.string ⟨#[]⟩, .string t] 77)).drew = W3 at HA3 hC3 ⊢
  generalize W2.heap.size = C at hC3 hgC ⊢
  have hB3 := HA3.out.ks.blk (.inr rfl) HB.out
  have hB0 : W3.cell? ⟨B, 0, none⟩ = some (.string ⟨#[]⟩) := blk_cell hB3 0
  have hB1 : W3.cell? ⟨B, 1, none⟩ = some (.string nm) := blk_cell hB3 1
  have hC0 : W3.cell? ⟨C, 0, none⟩ = some (.string ⟨#[]⟩) := blk_cell hC3 0
  have hC1 : W3.cell? ⟨C, 1, none⟩ = some (.string t) := blk_cell hC3 1
  have h11 := HA3.out.g11
  have hf := HA3.out.gf
  clear hB3 hC3
  go_wp2_with fail
  have HS4 := Aside0.mk (show SB K w0 q b p g (k + n) (ts ++ [t]) np cl W3 from ⟨k, n, va, vp, _, rfl, HA3.out.back HK.out⟩)
  with_reducible refine (new_any _ _).mono ?_
  rintro e w5 ⟨rfl, rfl⟩
  have HE := Aside0.mk (HS4.out.made ⟨#[120, 109, 108, 58, 32, 101, 110, 100, 32, 116, 97, 103]⟩)
  go_wp2_with fail
  go_ret
  exact HE.out

set_option maxRecDepth 100000 in
theorem end_none {nm : ByteArray} (h : SB K w0 q b p g T [] np cl W) (h0 : 0 < nm.size) :
    Calls Tryz.prog 35 #[.pointer (some ⟨g, 0, none⟩), .agg #[.string ⟨#[]⟩, .string nm]] W fun e W' => Err w0 e W' ∧ SB K w0 q b p g T [] np cl W' := by
  obtain ⟨k, n, va, vp, vt, rfl, h⟩ := h
  obtain ⟨A, c, rfl⟩ := own_slice h.tg
  have H := Aside0.mk h
  have hne : (nm.toList == ([] : List UInt8)) = false := beq_eq_false_iff_ne.2 (ne_toList h0)
  have hnb : nm.toList.isEmpty = false := List.isEmpty_eq_false_iff.2 (ne_toList h0)
  clear h
  go_enter Tryz.func35, Tryz.ntmps35
  go_wp2
  have HA := Aside0.mk (H.out.alloc (.cells #[.string ⟨#[]⟩, .string nm] 77))
  generalize W.alloc (.cells #[.string ⟨#[]⟩, .string nm] 77) = W1 at HA ⊢
  have h11 := HA.out.g11
  have hf := HA.out.gf
  simp only [List.length_nil] at h11
  go_quiet (fail)
  have HA2 := Aside0.mk (show SB K w0 q b p g (k + n) [] np cl (W1.drewN nq) from ⟨k, n, va, vp, _, rfl, HA.out.drewN nq⟩)
  clear h11 hf
  generalize W1.drewN nq = W2 at HA2 ⊢
  go_wp2_with fail
  with_reducible refine (new_any _ _).mono ?_
  rintro e w5 ⟨rfl, rfl⟩
  have HE := Aside0.mk (HA2.out.made ⟨#[120, 109, 108, 58, 32, 101, 110, 100, 32, 116, 97, 103]⟩)
  go_wp2_with fail
  go_ret
  exact HE.out

end
end Go.Proofs.YtjoahpmalhmjkaaGreatDoor.EncSt
