-- PRINTED BY print.sh 35421559b90ae4d0a3588c463048766b98c2df88dd9212a6774a882060cdf62d: not written by this session
import Derived.Test.YtjoahpmalhmjkaaGreatDoorPFnEncodeNestedx0
namespace Go.Proofs.YtjoahpmalhmjkaaGreatDoor.PFnEncodeNested
open Go.RowKit Go.Proofs.YtjoahpmalhmjkaaGreatDoorW.PrintWords Go.Proofs.YtjoahpmalhmjkaaGreatDoorW.PrintLast Go.Proofs.YtjoahpmalhmjkaaGreatDoorW.PrintMore
attribute [local go_sem] max2_int min2_int max_two min_two max_three min_three max_four min_four   -- for this text's walks alone
set_option linter.unusedVariables false
set_option linter.unusedSimpArgs false

/-! ### spec_Decode: function 27 -/
mutual
def spec_Decode.j2 : Nat → ByteArray → Int → Int → Option (Int × Int)
  | 0, _, _, _ => none
  | k + 1, x0, x2, x3 => if (x0.size : Int) < x3 then (some (0, 0)) else (spec_Decode.l0 k x0 x2 x3 1)
def spec_Decode.l0 : Nat → ByteArray → Int → Int → Int → Option (Int × Int)
  | 0, _, _, _, _ => none
  | k + 1, x0, x2, x3, x5 => if x5 < x3 then (if 0 ≤ x5 then (if x5 < (x0.size : Int) then (if (Go.bits .and .u8 (bt x0 x5) 192) = 128 then (spec_Decode.l0 k x0 (Go.bits .or .i64 (wrap64 (x2 * 64)) (wrap64 (Go.bits .and .u8 (bt x0 x5) 63))) x3 (wrap64 (x5 + 1))) else (some (0, 0))) else (none)) else (none)) else (if x3 = 3 then (if x2 < 2048 then (some (0, 0)) else (if x2 ≥ 55296 then (if x2 < 57344 then (some (0, 0)) else (if x3 = 4 then (if x2 < 65536 then (some (0, 0)) else (if x2 > 1114111 then (some (0, 0)) else (some (x2, x3)))) else (some (x2, x3)))) else (if x3 = 4 then (if x2 < 65536 then (some (0, 0)) else (if x2 > 1114111 then (some (0, 0)) else (some (x2, x3)))) else (some (x2, x3))))) else (if x3 = 4 then (if x2 < 65536 then (some (0, 0)) else (if x2 > 1114111 then (some (0, 0)) else (some (x2, x3)))) else (some (x2, x3))))
def spec_Decode.j0 : Nat → ByteArray → Int → Bool → Option (Int × Int)
  | 0, _, _, _ => none
  | k + 1, x0, x4, x15 => if x15 = true then (spec_Decode.j2 k x0 (Go.bits .and .i64 x4 31) 2) else (if x4 ≥ 224 then (spec_Decode.j1 k x0 x4 (decide (x4 < 240))) else (spec_Decode.j1 k x0 x4 false))
def spec_Decode.j1 : Nat → ByteArray → Int → Bool → Option (Int × Int)
  | 0, _, _, _ => none
  | k + 1, x0, x4, x24 => if x24 = true then (spec_Decode.j2 k x0 (Go.bits .and .i64 x4 15) 3) else (if x4 ≥ 240 then (if x4 < 245 then (spec_Decode.j2 k x0 (Go.bits .and .i64 x4 7) 4) else (some (0, 0))) else (some (0, 0)))
end
def spec_Decode.f (k : Nat) (a0 : ByteArray) : Option (Int × Int) := if a0.toList = ([] : List UInt8) then (some (0, 0)) else (if 0 < (a0.size : Int) then (if (wrap64 (bt a0 0)) < 128 then (some (wrap64 (bt a0 0), 1)) else (if (wrap64 (bt a0 0)) ≥ 194 then (spec_Decode.j0 k a0 (wrap64 (bt a0 0)) (decide ((wrap64 (bt a0 0)) < 224))) else (spec_Decode.j0 k a0 (wrap64 (bt a0 0)) false))) else (none))
theorem spec_Decode.mono_l : ∀ k, (∀ y0 y1 y2, LeO (spec_Decode.j2 k y0 y1 y2) (spec_Decode.j2 (k + 1) y0 y1 y2)) ∧ (∀ y0 y1 y2 y3, LeO (spec_Decode.l0 k y0 y1 y2 y3) (spec_Decode.l0 (k + 1) y0 y1 y2 y3)) ∧ (∀ y0 y1 y2, LeO (spec_Decode.j0 k y0 y1 y2) (spec_Decode.j0 (k + 1) y0 y1 y2)) ∧ (∀ y0 y1 y2, LeO (spec_Decode.j1 k y0 y1 y2) (spec_Decode.j1 (k + 1) y0 y1 y2))
  | 0 => ⟨fun _ _ _ r h => by simp [spec_Decode.j2] at h, fun _ _ _ _ r h => by simp [spec_Decode.l0] at h, fun _ _ _ r h => by simp [spec_Decode.j0] at h, fun _ _ _ r h => by simp [spec_Decode.j1] at h⟩
  | k + 1 => by
    obtain ⟨ih0, ih1, ih2, ih3⟩ := spec_Decode.mono_l k
    refine ⟨?_, ?_, ?_, ?_⟩
    · intro y0 y1 y2
      unfold spec_Decode.j2
      repeat' first
      | (with_reducible exact ih0 _ _ _)
      | (with_reducible exact ih1 _ _ _ _)
      | (with_reducible exact ih2 _ _ _)
      | (with_reducible exact ih3 _ _ _)
      | (with_reducible exact LeO.refl _)
      | (with_reducible exact LeO.none _)
      | (with_reducible refine LeO.ite ?_ ?_)
      | (with_reducible refine LeO.bind ?_ (fun _ => ?_))
      | exact ih0 _ _ _
      | exact ih1 _ _ _ _
      | exact ih2 _ _ _
      | exact ih3 _ _ _
      | exact LeO.none _
      | refine LeO.ite ?_ ?_
      | refine LeO.bind ?_ (fun _ => ?_)
    · intro y0 y1 y2 y3
      unfold spec_Decode.l0
      repeat' first
      | (with_reducible exact ih0 _ _ _)
      | (with_reducible exact ih1 _ _ _ _)
      | (with_reducible exact ih2 _ _ _)
      | (with_reducible exact ih3 _ _ _)
      | (with_reducible exact LeO.refl _)
      | (with_reducible exact LeO.none _)
      | (with_reducible refine LeO.ite ?_ ?_)
      | (with_reducible refine LeO.bind ?_ (fun _ => ?_))
      | exact ih0 _ _ _
      | exact ih1 _ _ _ _
      | exact ih2 _ _ _
      | exact ih3 _ _ _
      | exact LeO.none _
      | refine LeO.ite ?_ ?_
      | refine LeO.bind ?_ (fun _ => ?_)
    · intro y0 y1 y2
      unfold spec_Decode.j0
      repeat' first
      | (with_reducible exact ih0 _ _ _)
      | (with_reducible exact ih1 _ _ _ _)
      | (with_reducible exact ih2 _ _ _)
      | (with_reducible exact ih3 _ _ _)
      | (with_reducible exact LeO.refl _)
      | (with_reducible exact LeO.none _)
      | (with_reducible refine LeO.ite ?_ ?_)
      | (with_reducible refine LeO.bind ?_ (fun _ => ?_))
      | exact ih0 _ _ _
      | exact ih1 _ _ _ _
      | exact ih2 _ _ _
      | exact ih3 _ _ _
      | exact LeO.none _
      | refine LeO.ite ?_ ?_
      | refine LeO.bind ?_ (fun _ => ?_)
    · intro y0 y1 y2
      unfold spec_Decode.j1
      repeat' first
      | (with_reducible exact ih0 _ _ _)
      | (with_reducible exact ih1 _ _ _ _)
      | (with_reducible exact ih2 _ _ _)
      | (with_reducible exact ih3 _ _ _)
      | (with_reducible exact LeO.refl _)
      | (with_reducible exact LeO.none _)
      | (with_reducible refine LeO.ite ?_ ?_)
      | (with_reducible refine LeO.bind ?_ (fun _ => ?_))
      | exact ih0 _ _ _
      | exact ih1 _ _ _ _
      | exact ih2 _ _ _
      | exact ih3 _ _ _
      | exact LeO.none _
      | refine LeO.ite ?_ ?_
      | refine LeO.bind ?_ (fun _ => ?_)
theorem spec_Decode.mono : ∀ a0 k, LeO (spec_Decode.f k a0) (spec_Decode.f (k + 1) a0) := by
  intro a0 k
  obtain ⟨ih0, ih1, ih2, ih3⟩ := spec_Decode.mono_l k
  unfold spec_Decode.f
  repeat' first
      | (with_reducible exact ih0 _ _ _)
      | (with_reducible exact ih1 _ _ _ _)
      | (with_reducible exact ih2 _ _ _)
      | (with_reducible exact ih3 _ _ _)
      | (with_reducible exact LeO.refl _)
      | (with_reducible exact LeO.none _)
      | (with_reducible refine LeO.ite ?_ ?_)
      | (with_reducible refine LeO.bind ?_ (fun _ => ?_))
      | exact ih0 _ _ _
      | exact ih1 _ _ _ _
      | exact ih2 _ _ _
      | exact ih3 _ _ _
      | exact LeO.none _
      | refine LeO.ite ?_ ?_
      | refine LeO.bind ?_ (fun _ => ?_)
set_option maxHeartbeats 8000000 in
set_option maxRecDepth 100000 in
theorem spec_Decode.calls (k : Nat) (a0 : ByteArray) (r1 : Int) (r2 : Int) (w : World) (h : spec_Decode.f k a0 = some (r1, r2)) :
    Calls Tryz.prog 27 #[.string a0] w fun e w' => e = .returned (.tuple #[.int .i64 r1, .int .i64 r2]) ∧ Drawn0 w w' := by
  have H : (if a0.toList = ([] : List UInt8) then (some (0, 0)) else (if 0 < (a0.size : Int) then (if (wrap64 (bt a0 0)) < 128 then (some (wrap64 (bt a0 0), 1)) else (if (wrap64 (bt a0 0)) ≥ 194 then (spec_Decode.j0 k a0 (wrap64 (bt a0 0)) (decide ((wrap64 (bt a0 0)) < 224))) else (spec_Decode.j0 k a0 (wrap64 (bt a0 0)) false))) else (none))) = some (r1, r2) := h
  clear h
  by_cases c2 : a0.toList = ([] : List UInt8)
  · rw [if_pos c2] at H
    have c2b0 : (a0.toList == ([] : List UInt8)) = true := beq_iff_eq.mpr c2
    have c2b1 : (a0.toList != ([] : List UInt8)) = false := bne_eq_false_iff_eq.mpr c2
    clear c2
    simp only [Option.some.injEq, Prod.mk.injEq] at H
    obtain ⟨rfl, rfl⟩ := H
    go_enter Tryz.func27, Tryz.ntmps27
    go_wp2
    go_ret2
    exact ⟨by first | rfl | (simp; done) | (simp [*]; done), by repeat (first | exact Drawn0.refl _ | apply Drawn0.step)⟩
  · rw [if_neg c2] at H
    have c2b0 : (a0.toList == ([] : List UInt8)) = false := beq_eq_false_iff_ne.mpr c2
    have c2b1 : (a0.toList != ([] : List UInt8)) = true := bne_iff_ne.mpr c2
    by_cases c3 : 0 < (a0.size : Int)
    · rw [if_pos c3] at H
      have c3b0 : decide (0 < (a0.size : Int)) = true := decide_eq_true c3
      have c3b1 : decide (0 < a0.size) = true := decide_eq_true (by omega)
      clear c3
      have HC5 := Aside0.mk H
      clear H
      have p4 : 0 ≤ (0 : Int) := (by omega)
      have q4 : 0 < a0.size := (by have : (0 : Int) < (a0.size : Int) := of_decide_eq_true (by first | (with_reducible assumption) | assumption); omega)
      have hx4 : ∀ h : 0 < a0.size, ((a0[0]'h).toNat : Int) = bt a0 0 := bt_at a0 0
      clear p4
      have qi4 : (0 < (a0.size : Int)) = True := eq_true (of_decide_eq_true (by first | (with_reducible assumption) | assumption))
      replace q4 := eq_true q4
      go_enter Tryz.func27, Tryz.ntmps27
      go_upto_block 0 with (fail)
      go_cut [2, 3] (fun v2 v3 wc => ∃ (kq : Nat) (x2_4 : Int) (x3_4 : Int), v2 = .int .i64 x2_4 ∧ v3 = .int .i64 x3_4 ∧ Aside0 (spec_Decode.j2 kq a0 x2_4 x3_4 = some (r1, r2)) ∧ Aside0 (kq ≤ k) ∧ Drawn0 w wc)
      case first =>
        have H := HC5.out
        clear HC5
        by_cases c6 : (wrap64 (bt a0 0)) < 128
        · rw [if_pos c6] at H
          have c6b0 : decide ((wrap64 (bt a0 0)) < 128) = true := decide_eq_true c6
          clear c6
          (first | rw [c6b0] | (simp only [i64_w, i32_w]; rw [c6b0]) | skip)
          simp only [Option.some.injEq, Prod.mk.injEq] at H
          obtain ⟨rfl, rfl⟩ := H
          go_wp2
          go_ret2
          exact ⟨by first | rfl | (simp; done) | (simp [*]; done), by repeat (first | exact Drawn0.refl _ | apply Drawn0.step)⟩
        · rw [if_neg c6] at H
          have c6b0 : decide ((wrap64 (bt a0 0)) < 128) = false := decide_eq_false c6
          clear c6
          (first | rw [c6b0] | (simp only [i64_w, i32_w]; rw [c6b0]) | skip)
          have HC7 := Aside0.mk H
          clear H
          go_upto_region 7 with (fail)
          go_cut [15] (fun v15 wc => ∃ (kq : Nat) (x15_6 : Bool), v15 = .bool x15_6 ∧ Aside0 (spec_Decode.j0 kq a0 (wrap64 (bt a0 0)) x15_6 = some (r1, r2)) ∧ Aside0 (kq ≤ k) ∧ Drawn0 w wc)
          case first =>
            have H := HC7.out
            clear HC7
            by_cases c8 : (wrap64 (bt a0 0)) ≥ 194
            · rw [if_pos c8] at H
              have c8b0 : decide (194 ≤ (wrap64 (bt a0 0))) = true := decide_eq_true c8
              clear c8
              (first | rw [c8b0] | (simp only [i64_w, i32_w]; rw [c8b0]) | skip)
              have H' := Aside0.mk H
              clear H
              go_wp2
              go_meet
              case rel => exact ⟨_, (decide ((wrap64 (bt a0 0)) < 224)), (by first | rfl | (simp; done) | (simp [*]; done)), H', ⟨by first | omega | exact Nat.le_refl _⟩, by repeat (first | exact Drawn0.refl _ | apply Drawn0.step)⟩
            · rw [if_neg c8] at H
              have c8b0 : decide (194 ≤ (wrap64 (bt a0 0))) = false := decide_eq_false c8
              clear c8
              (first | rw [c8b0] | (simp only [i64_w, i32_w]; rw [c8b0]) | skip)
              have H' := Aside0.mk H
              clear H
              go_wp2
              go_meet
              case rel => exact ⟨_, (false), (by first | rfl | (simp; done) | (simp [*]; done)), H', ⟨by first | omega | exact Nat.le_refl _⟩, by repeat (first | exact Drawn0.refl _ | apply Drawn0.step)⟩
          case rest =>
            clear HC7
            try clear c2
            try clear c2b0
            try clear c2b1
            try clear p2
            try clear c3
            try clear c3b0
            try clear c3b1
            try clear p4
            try clear q4
            try clear hx4
            try clear qi4
            try clear c6
            try clear c6b0
            try clear p6
            try clear c8
            try clear c8b0
            try clear p4
            try clear q4
            obtain ⟨kq, x15_6, rfl, HA, HJ6, ⟨mc6, rfl⟩⟩ := hcut
            cases kq with
            | zero => exact absurd HA.out (by simp [spec_Decode.j0])
            | succ kj6 =>
              have H := HA.out
              clear HA
              simp only [spec_Decode.j0] at H
              by_cases c9 : x15_6 = true
              · subst c9
                have H1 : (spec_Decode.j2 kj6 a0 (Go.bits .and .i64 (wrap64 (bt a0 0)) 31) 2) = some (r1, r2) := by rw [if_pos rfl] at H; exact H
                clear H
                have H := H1
                clear H1
                have H' := Aside0.mk H
                clear H
                go_wp2
                go_meet
                case rel => exact ⟨_, (Go.bits .and .i64 (wrap64 (bt a0 0)) 31), (2), (by first | rfl | (simp; done) | (simp [*]; done)), (by first | rfl | (simp; done) | (simp [*]; done)), H', ⟨by have := HJ6.out; first | omega | exact Nat.le_refl _⟩, by repeat (first | exact Drawn0.refl _ | apply Drawn0.step)⟩
              · replace c9 := Bool.eq_false_iff.mpr c9
                subst c9
                have H1 : (if (wrap64 (bt a0 0)) ≥ 224 then (spec_Decode.j1 kj6 a0 (wrap64 (bt a0 0)) (decide ((wrap64 (bt a0 0)) < 240))) else (spec_Decode.j1 kj6 a0 (wrap64 (bt a0 0)) false)) = some (r1, r2) := by rw [if_neg (show ¬ (false = true) by decide)] at H; exact H
                clear H
                have H := H1
                clear H1
                have HC10 := Aside0.mk H
                clear H
                go_upto_region 9 with (fail)
                go_cut [24] (fun v24 wc => ∃ (kq : Nat) (x24_9 : Bool), v24 = .bool x24_9 ∧ Aside0 (spec_Decode.j1 kq a0 (wrap64 (bt a0 0)) x24_9 = some (r1, r2)) ∧ Aside0 (kq ≤ kj6) ∧ Drawn0 w wc)
                case first =>
                  have H := HC10.out
                  clear HC10
                  by_cases c11 : (wrap64 (bt a0 0)) ≥ 224
                  · rw [if_pos c11] at H
                    have c11b0 : decide (224 ≤ (wrap64 (bt a0 0))) = true := decide_eq_true c11
                    clear c11
                    (first | rw [c11b0] | (simp only [i64_w, i32_w]; rw [c11b0]) | skip)
                    have H' := Aside0.mk H
                    clear H
                    go_wp2
                    go_meet
                    case rel => exact ⟨_, (decide ((wrap64 (bt a0 0)) < 240)), (by first | rfl | (simp; done) | (simp [*]; done)), H', ⟨by have := HJ6.out; first | omega | exact Nat.le_refl _⟩, by repeat (first | exact Drawn0.refl _ | apply Drawn0.step)⟩
                  · rw [if_neg c11] at H
                    have c11b0 : decide (224 ≤ (wrap64 (bt a0 0))) = false := decide_eq_false c11
                    clear c11
                    (first | rw [c11b0] | (simp only [i64_w, i32_w]; rw [c11b0]) | skip)
                    have H' := Aside0.mk H
                    clear H
                    go_wp2
                    go_meet
                    case rel => exact ⟨_, (false), (by first | rfl | (simp; done) | (simp [*]; done)), H', ⟨by have := HJ6.out; first | omega | exact Nat.le_refl _⟩, by repeat (first | exact Drawn0.refl _ | apply Drawn0.step)⟩
                case rest =>
                  clear HC10
                  try clear c1
                  try clear c2
                  try clear c2b0
                  try clear c2b1
                  try clear p2
                  try clear c3
                  try clear c3b0
                  try clear c3b1
                  try clear p4
                  try clear q4
                  try clear hx4
                  try clear qi4
                  try clear c6
                  try clear c6b0
                  try clear p6
                  try clear c8
                  try clear c8b0
                  try clear c9
                  try clear c11
                  try clear c11b0
                  try clear p2
                  try clear p4
                  try clear p6
                  try clear q4
                  obtain ⟨kq, x24_9, rfl, HA, HJ9, ⟨mc9, rfl⟩⟩ := hcut
                  cases kq with
                  | zero => exact absurd HA.out (by simp [spec_Decode.j1])
                  | succ kj9 =>
                    have H := HA.out
                    clear HA
                    simp only [spec_Decode.j1] at H
                    by_cases c12 : x24_9 = true
                    · subst c12
                      have H1 : (spec_Decode.j2 kj9 a0 (Go.bits .and .i64 (wrap64 (bt a0 0)) 15) 3) = some (r1, r2) := by rw [if_pos rfl] at H; exact H
                      clear H
                      have H := H1
                      clear H1
                      have H' := Aside0.mk H
                      clear H
                      go_wp2
                      go_meet
                      case rel => exact ⟨_, (Go.bits .and .i64 (wrap64 (bt a0 0)) 15), (3), (by first | rfl | (simp; done) | (simp [*]; done)), (by first | rfl | (simp; done) | (simp [*]; done)), H', ⟨by have := HJ6.out; have := HJ9.out; first | omega | exact Nat.le_refl _⟩, by repeat (first | exact Drawn0.refl _ | apply Drawn0.step)⟩
                    · replace c12 := Bool.eq_false_iff.mpr c12
                      subst c12
                      have H1 : (if (wrap64 (bt a0 0)) ≥ 240 then (if (wrap64 (bt a0 0)) < 245 then (spec_Decode.j2 kj9 a0 (Go.bits .and .i64 (wrap64 (bt a0 0)) 7) 4) else (some (0, 0))) else (some (0, 0))) = some (r1, r2) := by rw [if_neg (show ¬ (false = true) by decide)] at H; exact H
                      clear H
                      have H := H1
                      clear H1
                      by_cases c13 : (wrap64 (bt a0 0)) ≥ 240
                      · rw [if_pos c13] at H
                        have c13b0 : decide (240 ≤ (wrap64 (bt a0 0))) = true := decide_eq_true c13
                        clear c13
                        by_cases c14 : (wrap64 (bt a0 0)) < 245
                        · rw [if_pos c14] at H
                          have c14b0 : decide ((wrap64 (bt a0 0)) < 245) = true := decide_eq_true c14
                          clear c14
                          have H' := Aside0.mk H
                          clear H
                          go_wp2
                          go_meet
                          case rel => exact ⟨_, (Go.bits .and .i64 (wrap64 (bt a0 0)) 7), (4), (by first | rfl | (simp; done) | (simp [*]; done)), (by first | rfl | (simp; done) | (simp [*]; done)), H', ⟨by have := HJ6.out; have := HJ9.out; first | omega | exact Nat.le_refl _⟩, by repeat (first | exact Drawn0.refl _ | apply Drawn0.step)⟩
                        · rw [if_neg c14] at H
                          have c14b0 : decide ((wrap64 (bt a0 0)) < 245) = false := decide_eq_false c14
                          clear c14
                          simp only [Option.some.injEq, Prod.mk.injEq] at H
                          obtain ⟨rfl, rfl⟩ := H
                          go_wp2
                          go_ret2
                          exact ⟨by first | rfl | (simp; done) | (simp [*]; done), by repeat (first | exact Drawn0.refl _ | apply Drawn0.step)⟩
                      · rw [if_neg c13] at H
                        have c13b0 : decide (240 ≤ (wrap64 (bt a0 0))) = false := decide_eq_false c13
                        clear c13
                        simp only [Option.some.injEq, Prod.mk.injEq] at H
                        obtain ⟨rfl, rfl⟩ := H
                        go_wp2
                        go_ret2
                        exact ⟨by first | rfl | (simp; done) | (simp [*]; done), by repeat (first | exact Drawn0.refl _ | apply Drawn0.step)⟩
      case rest =>
        clear HC5
        try clear c1
        try clear c2
        try clear c2b0
        try clear c2b1
        try clear p2
        try clear c3
        try clear c3b0
        try clear c3b1
        try clear p4
        try clear q4
        try clear hx4
        try clear qi4
        try clear c6
        try clear c6b0
        try clear p6
        try clear c8
        try clear c8b0
        try clear c9
        try clear c11
        try clear c11b0
        try clear c12
        try clear c13
        try clear c13b0
        try clear c14
        try clear c14b0
        try clear p2
        try clear p4
        try clear p6
        try clear q4
        obtain ⟨kq, x2_4, x3_4, rfl, rfl, HA, HJ4, ⟨mc4, rfl⟩⟩ := hcut
        cases kq with
        | zero => exact absurd HA.out (by simp [spec_Decode.j2])
        | succ kj4 =>
          have H := HA.out
          clear HA
          simp only [spec_Decode.j2] at H
          by_cases c15 : (a0.size : Int) < x3_4
          · rw [if_pos c15] at H
            have c15b0 : decide ((a0.size : Int) < x3_4) = true := decide_eq_true c15
            clear c15
            simp only [Option.some.injEq, Prod.mk.injEq] at H
            obtain ⟨rfl, rfl⟩ := H
            go_wp2
            go_ret2
            exact ⟨by first | rfl | (simp; done) | (simp [*]; done), by repeat (first | exact Drawn0.refl _ | apply Drawn0.step)⟩
          · rw [if_neg c15] at H
            have c15b0 : decide ((a0.size : Int) < x3_4) = false := decide_eq_false c15
            clear c15
            have H' := Aside0.mk H
            clear H
            go_wp2
            go_loopg [2, 3, 5] kj4 (fun kq v2 v3 v5 w' => ∃ (x2_2 : Int) (x3_2 : Int) (x5_2 : Int), v2 = .int .i64 x2_2 ∧ v3 = .int .i64 x3_2 ∧ v5 = .int .i64 x5_2 ∧ Aside0 (spec_Decode.l0 kq a0 x2_2 x3_2 x5_2 = some (r1, r2)) ∧ Aside0 (kq ≤ kj4) ∧ Drawn0 w w')
            case atStart => exact ⟨(x2_4), (x3_4), (1), (by first | rfl | (simp; done) | (simp [*]; done)), (by first | rfl | (simp; done) | (simp [*]; done)), (by first | rfl | (simp; done) | (simp [*]; done)), H', ⟨Nat.le_refl _⟩, by repeat (first | exact Drawn0.refl _ | apply Drawn0.step)⟩
            case round =>
              clear H'
              try clear c1
              try clear c2
              try clear c2b0
              try clear c2b1
              try clear p2
              try clear c3
              try clear c3b0
              try clear c3b1
              try clear c4
              try clear p4
              try clear q4
              try clear hx4
              try clear qi4
              try clear c6
              try clear c6b0
              try clear p6
              try clear c8
              try clear c8b0
              try clear c9
              try clear c11
              try clear c11b0
              try clear c12
              try clear c13
              try clear c13b0
              try clear c14
              try clear c14b0
              try clear c15
              try clear c15b0
              try clear p2
              try clear p4
              try clear p6
              try clear q4
              obtain ⟨x2_2, x3_2, x5_2, rfl, rfl, rfl, HA, HK2, ⟨m2, rfl⟩⟩ := hrel
              cases gk with
              | zero => exact absurd HA.out (by simp [spec_Decode.l0])
              | succ k2 =>
                have H := HA.out
                clear HA
                simp only [spec_Decode.l0] at H
                by_cases c16 : x5_2 < x3_2
                · rw [if_pos c16] at H
                  have c16b0 : decide (x5_2 < x3_2) = true := decide_eq_true c16
                  clear c16
                  by_cases c17 : 0 ≤ x5_2
                  · rw [if_pos c17] at H
                    have c17b0 : decide (0 ≤ x5_2) = true := decide_eq_true c17
                    clear c17
                    by_cases c18 : x5_2 < (a0.size : Int)
                    · rw [if_pos c18] at H
                      have c18b0 : decide (x5_2 < (a0.size : Int)) = true := decide_eq_true c18
                      clear c18
                      by_cases c20 : (Go.bits .and .u8 (bt a0 x5_2) 192) = 128
                      · rw [if_pos c20] at H
                        have c20b0 : ((Go.bits .and .u8 (bt a0 x5_2) 192) == 128) = true := beq_iff_eq.mpr c20
                        have c20b1 : ((Go.bits .and .u8 (bt a0 x5_2) 192) != 128) = false := bne_eq_false_iff_eq.mpr c20
                        clear c20
                        have H' := Aside0.mk H
                        clear H
                        have p19 : 0 ≤ (x5_2 : Int) := of_decide_eq_true (by first | (with_reducible assumption) | assumption)
                        have q19 : x5_2 < (a0.size : Int) := of_decide_eq_true (by first | (with_reducible assumption) | assumption)
                        have hx19 := bt_at a0 x5_2
                        replace p19 := eq_true p19
                        replace q19 := eq_true q19
                        have p21 : 0 ≤ (x5_2 : Int) := of_decide_eq_true (by first | (with_reducible assumption) | assumption)
                        have q21 : x5_2 < (a0.size : Int) := of_decide_eq_true (by first | (with_reducible assumption) | assumption)
                        have hx21 := bt_at a0 x5_2
                        replace p21 := eq_true p21
                        replace q21 := eq_true q21
                        go_wp2
                        go_roundg k2
                        case measure => have := HJ4.out; have := HK2.out; omega
                        case rel => exact ⟨(Go.bits .or .i64 (wrap64 (x2_2 * 64)) (wrap64 (Go.bits .and .u8 (bt a0 x5_2) 63))), (x3_2), (wrap64 (x5_2 + 1)), (by first | rfl | (simp; done) | (simp [*]; done)), (by first | rfl | (simp; done) | (simp [*]; done)), (by first | rfl | (simp; done) | (simp [*]; done)), H', ⟨by have := HJ4.out; have := HK2.out; omega⟩, by repeat (first | exact Drawn0.refl _ | apply Drawn0.step)⟩
                      · rw [if_neg c20] at H
                        have c20b0 : ((Go.bits .and .u8 (bt a0 x5_2) 192) == 128) = false := beq_eq_false_iff_ne.mpr c20
                        have c20b1 : ((Go.bits .and .u8 (bt a0 x5_2) 192) != 128) = true := bne_iff_ne.mpr c20
                        simp only [Option.some.injEq, Prod.mk.injEq] at H
                        obtain ⟨rfl, rfl⟩ := H
                        have p19 : 0 ≤ (x5_2 : Int) := of_decide_eq_true (by first | (with_reducible assumption) | assumption)
                        have q19 : x5_2 < (a0.size : Int) := of_decide_eq_true (by first | (with_reducible assumption) | assumption)
                        have hx19 := bt_at a0 x5_2
                        replace p19 := eq_true p19
                        replace q19 := eq_true q19
                        go_wp2
                        go_ret2
                        exact ⟨by first | rfl | (simp; done) | (simp [*]; done), by repeat (first | exact Drawn0.refl _ | apply Drawn0.step)⟩
                    · rw [if_neg c18] at H
                      exact absurd H (by simp)
                  · rw [if_neg c17] at H
                    exact absurd H (by simp)
                · rw [if_neg c16] at H
                  have c16b0 : decide (x5_2 < x3_2) = false := decide_eq_false c16
                  clear c16
                  by_cases c22 : x3_2 = 3
                  · rw [if_pos c22] at H
                    have c22b0 : (x3_2 == 3) = true := beq_iff_eq.mpr c22
                    have c22b1 : (x3_2 != 3) = false := bne_eq_false_iff_eq.mpr c22
                    clear c22
                    by_cases c23 : x2_2 < 2048
                    · rw [if_pos c23] at H
                      have c23b0 : decide (x2_2 < 2048) = true := decide_eq_true c23
                      clear c23
                      simp only [Option.some.injEq, Prod.mk.injEq] at H
                      obtain ⟨rfl, rfl⟩ := H
                      go_wp2
                      go_ret2
                      exact ⟨by first | rfl | (simp; done) | (simp [*]; done), by repeat (first | exact Drawn0.refl _ | apply Drawn0.step)⟩
                    · rw [if_neg c23] at H
                      have c23b0 : decide (x2_2 < 2048) = false := decide_eq_false c23
                      clear c23
                      by_cases c24 : x2_2 ≥ 55296
                      · rw [if_pos c24] at H
                        have c24b0 : decide (55296 ≤ x2_2) = true := decide_eq_true c24
                        clear c24
                        by_cases c25 : x2_2 < 57344
                        · rw [if_pos c25] at H
                          have c25b0 : decide (x2_2 < 57344) = true := decide_eq_true c25
                          clear c25
                          simp only [Option.some.injEq, Prod.mk.injEq] at H
                          obtain ⟨rfl, rfl⟩ := H
                          go_wp2
                          go_ret2
                          exact ⟨by first | rfl | (simp; done) | (simp [*]; done), by repeat (first | exact Drawn0.refl _ | apply Drawn0.step)⟩
                        · rw [if_neg c25] at H
                          have c25b0 : decide (x2_2 < 57344) = false := decide_eq_false c25
                          clear c25
                          by_cases c26 : x3_2 = 4
                          · rw [if_pos c26] at H
                            have c26b0 : (x3_2 == 4) = true := beq_iff_eq.mpr c26
                            have c26b1 : (x3_2 != 4) = false := bne_eq_false_iff_eq.mpr c26
                            clear c26
                            by_cases c27 : x2_2 < 65536
                            · rw [if_pos c27] at H
                              have c27b0 : decide (x2_2 < 65536) = true := decide_eq_true c27
                              clear c27
                              simp only [Option.some.injEq, Prod.mk.injEq] at H
                              obtain ⟨rfl, rfl⟩ := H
                              go_wp2
                              go_ret2
                              exact ⟨by first | rfl | (simp; done) | (simp [*]; done), by repeat (first | exact Drawn0.refl _ | apply Drawn0.step)⟩
                            · rw [if_neg c27] at H
                              have c27b0 : decide (x2_2 < 65536) = false := decide_eq_false c27
                              clear c27
                              by_cases c28 : x2_2 > 1114111
                              · rw [if_pos c28] at H
                                have c28b0 : decide (1114111 < x2_2) = true := decide_eq_true c28
                                clear c28
                                simp only [Option.some.injEq, Prod.mk.injEq] at H
                                obtain ⟨rfl, rfl⟩ := H
                                go_wp2
                                go_ret2
                                exact ⟨by first | rfl | (simp; done) | (simp [*]; done), by repeat (first | exact Drawn0.refl _ | apply Drawn0.step)⟩
                              · rw [if_neg c28] at H
                                have c28b0 : decide (1114111 < x2_2) = false := decide_eq_false c28
                                clear c28
                                simp only [Option.some.injEq, Prod.mk.injEq] at H
                                obtain ⟨rfl, rfl⟩ := H
                                go_wp2
                                go_ret2
                                exact ⟨by first | rfl | (simp; done) | (simp [*]; done), by repeat (first | exact Drawn0.refl _ | apply Drawn0.step)⟩
                          · rw [if_neg c26] at H
                            have c26b0 : (x3_2 == 4) = false := beq_eq_false_iff_ne.mpr c26
                            have c26b1 : (x3_2 != 4) = true := bne_iff_ne.mpr c26
                            simp only [Option.some.injEq, Prod.mk.injEq] at H
                            obtain ⟨rfl, rfl⟩ := H
                            go_wp2
                            go_ret2
                            exact ⟨by first | rfl | (simp; done) | (simp [*]; done), by repeat (first | exact Drawn0.refl _ | apply Drawn0.step)⟩
                      · rw [if_neg c24] at H
                        have c24b0 : decide (55296 ≤ x2_2) = false := decide_eq_false c24
                        clear c24
                        by_cases c29 : x3_2 = 4
                        · rw [if_pos c29] at H
                          have c29b0 : (x3_2 == 4) = true := beq_iff_eq.mpr c29
                          have c29b1 : (x3_2 != 4) = false := bne_eq_false_iff_eq.mpr c29
                          clear c29
                          by_cases c30 : x2_2 < 65536
                          · rw [if_pos c30] at H
                            have c30b0 : decide (x2_2 < 65536) = true := decide_eq_true c30
                            clear c30
                            simp only [Option.some.injEq, Prod.mk.injEq] at H
                            obtain ⟨rfl, rfl⟩ := H
                            go_wp2
                            go_ret2
                            exact ⟨by first | rfl | (simp; done) | (simp [*]; done), by repeat (first | exact Drawn0.refl _ | apply Drawn0.step)⟩
                          · rw [if_neg c30] at H
                            have c30b0 : decide (x2_2 < 65536) = false := decide_eq_false c30
                            clear c30
                            by_cases c31 : x2_2 > 1114111
                            · rw [if_pos c31] at H
                              have c31b0 : decide (1114111 < x2_2) = true := decide_eq_true c31
                              clear c31
                              simp only [Option.some.injEq, Prod.mk.injEq] at H
                              obtain ⟨rfl, rfl⟩ := H
                              go_wp2
                              go_ret2
                              exact ⟨by first | rfl | (simp; done) | (simp [*]; done), by repeat (first | exact Drawn0.refl _ | apply Drawn0.step)⟩
                            · rw [if_neg c31] at H
                              have c31b0 : decide (1114111 < x2_2) = false := decide_eq_false c31
                              clear c31
                              simp only [Option.some.injEq, Prod.mk.injEq] at H
                              obtain ⟨rfl, rfl⟩ := H
                              go_wp2
                              go_ret2
                              exact ⟨by first | rfl | (simp; done) | (simp [*]; done), by repeat (first | exact Drawn0.refl _ | apply Drawn0.step)⟩
                        · rw [if_neg c29] at H
                          have c29b0 : (x3_2 == 4) = false := beq_eq_false_iff_ne.mpr c29
                          have c29b1 : (x3_2 != 4) = true := bne_iff_ne.mpr c29
                          simp only [Option.some.injEq, Prod.mk.injEq] at H
                          obtain ⟨rfl, rfl⟩ := H
                          go_wp2
                          go_ret2
                          exact ⟨by first | rfl | (simp; done) | (simp [*]; done), by repeat (first | exact Drawn0.refl _ | apply Drawn0.step)⟩
                  · rw [if_neg c22] at H
                    have c22b0 : (x3_2 == 3) = false := beq_eq_false_iff_ne.mpr c22
                    have c22b1 : (x3_2 != 3) = true := bne_iff_ne.mpr c22
                    by_cases c32 : x3_2 = 4
                    · rw [if_pos c32] at H
                      have c32b0 : (x3_2 == 4) = true := beq_iff_eq.mpr c32
                      have c32b1 : (x3_2 != 4) = false := bne_eq_false_iff_eq.mpr c32
                      clear c32
                      by_cases c33 : x2_2 < 65536
                      · rw [if_pos c33] at H
                        have c33b0 : decide (x2_2 < 65536) = true := decide_eq_true c33
                        clear c33
                        simp only [Option.some.injEq, Prod.mk.injEq] at H
                        obtain ⟨rfl, rfl⟩ := H
                        go_wp2
                        go_ret2
                        exact ⟨by first | rfl | (simp; done) | (simp [*]; done), by repeat (first | exact Drawn0.refl _ | apply Drawn0.step)⟩
                      · rw [if_neg c33] at H
                        have c33b0 : decide (x2_2 < 65536) = false := decide_eq_false c33
                        clear c33
                        by_cases c34 : x2_2 > 1114111
                        · rw [if_pos c34] at H
                          have c34b0 : decide (1114111 < x2_2) = true := decide_eq_true c34
                          clear c34
                          simp only [Option.some.injEq, Prod.mk.injEq] at H
                          obtain ⟨rfl, rfl⟩ := H
                          go_wp2
                          go_ret2
                          exact ⟨by first | rfl | (simp; done) | (simp [*]; done), by repeat (first | exact Drawn0.refl _ | apply Drawn0.step)⟩
                        · rw [if_neg c34] at H
                          have c34b0 : decide (1114111 < x2_2) = false := decide_eq_false c34
                          clear c34
                          simp only [Option.some.injEq, Prod.mk.injEq] at H
                          obtain ⟨rfl, rfl⟩ := H
                          go_wp2
                          go_ret2
                          exact ⟨by first | rfl | (simp; done) | (simp [*]; done), by repeat (first | exact Drawn0.refl _ | apply Drawn0.step)⟩
                    · rw [if_neg c32] at H
                      have c32b0 : (x3_2 == 4) = false := beq_eq_false_iff_ne.mpr c32
                      have c32b1 : (x3_2 != 4) = true := bne_iff_ne.mpr c32
                      simp only [Option.some.injEq, Prod.mk.injEq] at H
                      obtain ⟨rfl, rfl⟩ := H
                      go_wp2
                      go_ret2
                      exact ⟨by first | rfl | (simp; done) | (simp [*]; done), by repeat (first | exact Drawn0.refl _ | apply Drawn0.step)⟩
    · rw [if_neg c3] at H
      exact absurd H (by simp)

end Go.Proofs.YtjoahpmalhmjkaaGreatDoor.PFnEncodeNested
