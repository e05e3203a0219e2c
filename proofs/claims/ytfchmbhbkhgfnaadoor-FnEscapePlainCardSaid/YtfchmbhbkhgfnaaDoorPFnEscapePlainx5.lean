-- PRINTED BY print.sh 35421559b90ae4d0a3588c463048766b98c2df88dd9212a6774a882060cdf62d: not written by this session
import Derived.Test.YtfchmbhbkhgfnaaDoorPFnEscapePlainx0
namespace Go.Proofs.YtfchmbhbkhgfnaaDoor.PFnEscapePlain
open Go.RowKit Go.Proofs.YtfchmbhbkhgfnaaDoorW.PrintWords Go.Proofs.YtfchmbhbkhgfnaaDoorW.PrintLast Go.Proofs.YtfchmbhbkhgfnaaDoorW.PrintMore
attribute [local go_sem] max2_int min2_int max_two min_two max_three min_three max_four min_four   -- for this text's walks alone
set_option linter.unusedVariables false
set_option linter.unusedSimpArgs false

/-! ### spec_number: function 46 -/
mutual
def spec_number.j0 : Nat → ByteArray → Int → Bool → Option (Int × Bool)
  | 0, _, _, _ => none
  | k + 1, x0, x4, x14 => if x14 = true then (if 1 ≤ (x0.size : Int) then (spec_number.j1 k (x0.extract 1 x0.size) 16) else (none)) else (spec_number.j1 k x0 x4)
def spec_number.j1 : Nat → ByteArray → Int → Option (Int × Bool)
  | 0, _, _ => none
  | k + 1, x0, x4 => if x0.toList = ([] : List UInt8) then (some (0, false)) else (spec_number.l0 k x0 x4 0 (x0.size : Int) 0)
def spec_number.l0 : Nat → ByteArray → Int → Int → Int → Int → Option (Int × Bool)
  | 0, _, _, _, _, _ => none
  | k + 1, x0, x4, x5, x20, x21 => if x21 < x20 then (if 0 ≤ x21 then (if x21 < (x0.size : Int) then (if (wrap64 (bt x0 x21)) ≥ 48 then (spec_number.j3 k x0 x4 x5 (wrap64 (bt x0 x21)) x20 x21 (decide ((wrap64 (bt x0 x21)) ≤ 57))) else (spec_number.j3 k x0 x4 x5 (wrap64 (bt x0 x21)) x20 x21 false)) else (none)) else (none)) else (some (x5, true))
def spec_number.j5 : Nat → ByteArray → Int → Int → Int → Int → Int → Option (Int × Bool)
  | 0, _, _, _, _, _, _ => none
  | k + 1, x0, x4, x5, x7, x20, x21 => if x5 ≥ 0 then (if (wrap64 ((wrap64 (x5 * x4)) + x7)) > 1114111 then (spec_number.l0 k x0 x4 (-1) x20 (wrap64 (x21 + 1))) else (spec_number.l0 k x0 x4 (wrap64 ((wrap64 (x5 * x4)) + x7)) x20 (wrap64 (x21 + 1)))) else (if x5 > 1114111 then (spec_number.l0 k x0 x4 (-1) x20 (wrap64 (x21 + 1))) else (spec_number.l0 k x0 x4 x5 x20 (wrap64 (x21 + 1))))
def spec_number.j3 : Nat → ByteArray → Int → Int → Int → Int → Int → Bool → Option (Int × Bool)
  | 0, _, _, _, _, _, _, _ => none
  | k + 1, x0, x4, x5, x7, x20, x21, x28 => if x28 = true then (spec_number.j5 k x0 x4 x5 (wrap64 (x7 - 48)) x20 x21) else (if x4 = 16 then (if x7 ≥ 97 then (spec_number.j4 k x0 x4 x5 x7 x20 x21 (decide (x7 ≤ 102))) else (spec_number.j4 k x0 x4 x5 x7 x20 x21 false)) else (spec_number.j4 k x0 x4 x5 x7 x20 x21 false))
def spec_number.j4 : Nat → ByteArray → Int → Int → Int → Int → Int → Bool → Option (Int × Bool)
  | 0, _, _, _, _, _, _, _ => none
  | k + 1, x0, x4, x5, x7, x20, x21, x37 => if x37 = true then (spec_number.j5 k x0 x4 x5 (wrap64 (x7 - 87)) x20 x21) else (if x4 = 16 then (if x7 ≥ 65 then (if x7 ≤ 70 then (spec_number.j5 k x0 x4 x5 (wrap64 (x7 - 55)) x20 x21) else (some (0, false))) else (some (0, false))) else (some (0, false)))
end
def spec_number.f (k : Nat) (a0 : ByteArray) : Option (Int × Bool) := if a0.toList = ([] : List UInt8) then (spec_number.j0 k a0 10 false) else (if 0 < (a0.size : Int) then (spec_number.j0 k a0 10 ((bt a0 0) == 120)) else (none))
theorem spec_number.mono_l : ∀ k, (∀ y0 y1 y2, LeO (spec_number.j0 k y0 y1 y2) (spec_number.j0 (k + 1) y0 y1 y2)) ∧ (∀ y0 y1, LeO (spec_number.j1 k y0 y1) (spec_number.j1 (k + 1) y0 y1)) ∧ (∀ y0 y1 y2 y3 y4, LeO (spec_number.l0 k y0 y1 y2 y3 y4) (spec_number.l0 (k + 1) y0 y1 y2 y3 y4)) ∧ (∀ y0 y1 y2 y3 y4 y5, LeO (spec_number.j5 k y0 y1 y2 y3 y4 y5) (spec_number.j5 (k + 1) y0 y1 y2 y3 y4 y5)) ∧ (∀ y0 y1 y2 y3 y4 y5 y6, LeO (spec_number.j3 k y0 y1 y2 y3 y4 y5 y6) (spec_number.j3 (k + 1) y0 y1 y2 y3 y4 y5 y6)) ∧ (∀ y0 y1 y2 y3 y4 y5 y6, LeO (spec_number.j4 k y0 y1 y2 y3 y4 y5 y6) (spec_number.j4 (k + 1) y0 y1 y2 y3 y4 y5 y6))
  | 0 => ⟨fun _ _ _ r h => by simp [spec_number.j0] at h, fun _ _ r h => by simp [spec_number.j1] at h, fun _ _ _ _ _ r h => by simp [spec_number.l0] at h, fun _ _ _ _ _ _ r h => by simp [spec_number.j5] at h, fun _ _ _ _ _ _ _ r h => by simp [spec_number.j3] at h, fun _ _ _ _ _ _ _ r h => by simp [spec_number.j4] at h⟩
  | k + 1 => by
    obtain ⟨ih0, ih1, ih2, ih3, ih4, ih5⟩ := spec_number.mono_l k
    refine ⟨?_, ?_, ?_, ?_, ?_, ?_⟩
    · intro y0 y1 y2
      unfold spec_number.j0
      repeat' first
      | (with_reducible exact ih0 _ _ _)
      | (with_reducible exact ih1 _ _)
      | (with_reducible exact ih2 _ _ _ _ _)
      | (with_reducible exact ih3 _ _ _ _ _ _)
      | (with_reducible exact ih4 _ _ _ _ _ _ _)
      | (with_reducible exact ih5 _ _ _ _ _ _ _)
      | (with_reducible exact LeO.refl _)
      | (with_reducible exact LeO.none _)
      | (with_reducible refine LeO.ite ?_ ?_)
      | (with_reducible refine LeO.bind ?_ (fun _ => ?_))
      | exact ih0 _ _ _
      | exact ih1 _ _
      | exact ih2 _ _ _ _ _
      | exact ih3 _ _ _ _ _ _
      | exact ih4 _ _ _ _ _ _ _
      | exact ih5 _ _ _ _ _ _ _
      | exact LeO.none _
      | refine LeO.ite ?_ ?_
      | refine LeO.bind ?_ (fun _ => ?_)
    · intro y0 y1
      unfold spec_number.j1
      repeat' first
      | (with_reducible exact ih0 _ _ _)
      | (with_reducible exact ih1 _ _)
      | (with_reducible exact ih2 _ _ _ _ _)
      | (with_reducible exact ih3 _ _ _ _ _ _)
      | (with_reducible exact ih4 _ _ _ _ _ _ _)
      | (with_reducible exact ih5 _ _ _ _ _ _ _)
      | (with_reducible exact LeO.refl _)
      | (with_reducible exact LeO.none _)
      | (with_reducible refine LeO.ite ?_ ?_)
      | (with_reducible refine LeO.bind ?_ (fun _ => ?_))
      | exact ih0 _ _ _
      | exact ih1 _ _
      | exact ih2 _ _ _ _ _
      | exact ih3 _ _ _ _ _ _
      | exact ih4 _ _ _ _ _ _ _
      | exact ih5 _ _ _ _ _ _ _
      | exact LeO.none _
      | refine LeO.ite ?_ ?_
      | refine LeO.bind ?_ (fun _ => ?_)
    · intro y0 y1 y2 y3 y4
      unfold spec_number.l0
      repeat' first
      | (with_reducible exact ih0 _ _ _)
      | (with_reducible exact ih1 _ _)
      | (with_reducible exact ih2 _ _ _ _ _)
      | (with_reducible exact ih3 _ _ _ _ _ _)
      | (with_reducible exact ih4 _ _ _ _ _ _ _)
      | (with_reducible exact ih5 _ _ _ _ _ _ _)
      | (with_reducible exact LeO.refl _)
      | (with_reducible exact LeO.none _)
      | (with_reducible refine LeO.ite ?_ ?_)
      | (with_reducible refine LeO.bind ?_ (fun _ => ?_))
      | exact ih0 _ _ _
      | exact ih1 _ _
      | exact ih2 _ _ _ _ _
      | exact ih3 _ _ _ _ _ _
      | exact ih4 _ _ _ _ _ _ _
      | exact ih5 _ _ _ _ _ _ _
      | exact LeO.none _
      | refine LeO.ite ?_ ?_
      | refine LeO.bind ?_ (fun _ => ?_)
    · intro y0 y1 y2 y3 y4 y5
      unfold spec_number.j5
      repeat' first
      | (with_reducible exact ih0 _ _ _)
      | (with_reducible exact ih1 _ _)
      | (with_reducible exact ih2 _ _ _ _ _)
      | (with_reducible exact ih3 _ _ _ _ _ _)
      | (with_reducible exact ih4 _ _ _ _ _ _ _)
      | (with_reducible exact ih5 _ _ _ _ _ _ _)
      | (with_reducible exact LeO.refl _)
      | (with_reducible exact LeO.none _)
      | (with_reducible refine LeO.ite ?_ ?_)
      | (with_reducible refine LeO.bind ?_ (fun _ => ?_))
      | exact ih0 _ _ _
      | exact ih1 _ _
      | exact ih2 _ _ _ _ _
      | exact ih3 _ _ _ _ _ _
      | exact ih4 _ _ _ _ _ _ _
      | exact ih5 _ _ _ _ _ _ _
      | exact LeO.none _
      | refine LeO.ite ?_ ?_
      | refine LeO.bind ?_ (fun _ => ?_)
    · intro y0 y1 y2 y3 y4 y5 y6
      unfold spec_number.j3
      repeat' first
      | (with_reducible exact ih0 _ _ _)
      | (with_reducible exact ih1 _ _)
      | (with_reducible exact ih2 _ _ _ _ _)
      | (with_reducible exact ih3 _ _ _ _ _ _)
      | (with_reducible exact ih4 _ _ _ _ _ _ _)
      | (with_reducible exact ih5 _ _ _ _ _ _ _)
      | (with_reducible exact LeO.refl _)
      | (with_reducible exact LeO.none _)
      | (with_reducible refine LeO.ite ?_ ?_)
      | (with_reducible refine LeO.bind ?_ (fun _ => ?_))
      | exact ih0 _ _ _
      | exact ih1 _ _
      | exact ih2 _ _ _ _ _
      | exact ih3 _ _ _ _ _ _
      | exact ih4 _ _ _ _ _ _ _
      | exact ih5 _ _ _ _ _ _ _
      | exact LeO.none _
      | refine LeO.ite ?_ ?_
      | refine LeO.bind ?_ (fun _ => ?_)
    · intro y0 y1 y2 y3 y4 y5 y6
      unfold spec_number.j4
      repeat' first
      | (with_reducible exact ih0 _ _ _)
      | (with_reducible exact ih1 _ _)
      | (with_reducible exact ih2 _ _ _ _ _)
      | (with_reducible exact ih3 _ _ _ _ _ _)
      | (with_reducible exact ih4 _ _ _ _ _ _ _)
      | (with_reducible exact ih5 _ _ _ _ _ _ _)
      | (with_reducible exact LeO.refl _)
      | (with_reducible exact LeO.none _)
      | (with_reducible refine LeO.ite ?_ ?_)
      | (with_reducible refine LeO.bind ?_ (fun _ => ?_))
      | exact ih0 _ _ _
      | exact ih1 _ _
      | exact ih2 _ _ _ _ _
      | exact ih3 _ _ _ _ _ _
      | exact ih4 _ _ _ _ _ _ _
      | exact ih5 _ _ _ _ _ _ _
      | exact LeO.none _
      | refine LeO.ite ?_ ?_
      | refine LeO.bind ?_ (fun _ => ?_)
theorem spec_number.mono : ∀ a0 k, LeO (spec_number.f k a0) (spec_number.f (k + 1) a0) := by
  intro a0 k
  obtain ⟨ih0, ih1, ih2, ih3, ih4, ih5⟩ := spec_number.mono_l k
  unfold spec_number.f
  repeat' first
      | (with_reducible exact ih0 _ _ _)
      | (with_reducible exact ih1 _ _)
      | (with_reducible exact ih2 _ _ _ _ _)
      | (with_reducible exact ih3 _ _ _ _ _ _)
      | (with_reducible exact ih4 _ _ _ _ _ _ _)
      | (with_reducible exact ih5 _ _ _ _ _ _ _)
      | (with_reducible exact LeO.refl _)
      | (with_reducible exact LeO.none _)
      | (with_reducible refine LeO.ite ?_ ?_)
      | (with_reducible refine LeO.bind ?_ (fun _ => ?_))
      | exact ih0 _ _ _
      | exact ih1 _ _
      | exact ih2 _ _ _ _ _
      | exact ih3 _ _ _ _ _ _
      | exact ih4 _ _ _ _ _ _ _
      | exact ih5 _ _ _ _ _ _ _
      | exact LeO.none _
      | refine LeO.ite ?_ ?_
      | refine LeO.bind ?_ (fun _ => ?_)
set_option maxHeartbeats 8000000 in
set_option maxRecDepth 100000 in
theorem spec_number.calls (k : Nat) (a0 : ByteArray) (r1 : Int) (r2 : Bool) (w : World) (h : spec_number.f k a0 = some (r1, r2)) :
    Calls Tryd.prog 46 #[.string a0] w fun e w' => e = .returned (.tuple #[.int .i64 r1, .bool r2]) ∧ Drawn0 w w' := by
  have H : (if a0.toList = ([] : List UInt8) then (spec_number.j0 k a0 10 false) else (if 0 < (a0.size : Int) then (spec_number.j0 k a0 10 ((bt a0 0) == 120)) else (none))) = some (r1, r2) := h
  clear h
  have HC2 := Aside0.mk H
  clear H
  go_enter Tryd.func46, Tryd.ntmps46
  go_upto_region 2 with (fail)
  repeat (go_quiet (fail); go_upto_region 2 with (fail))
  go_cut [14] (fun v14 wc => ∃ (kq : Nat) (x14_1 : Bool), v14 = .bool x14_1 ∧ Aside0 (spec_number.j0 kq a0 10 x14_1 = some (r1, r2)) ∧ Aside0 (kq ≤ k) ∧ Drawn0 w wc)
  case first =>
    have H := HC2.out
    clear HC2
    by_cases c3 : a0.toList = ([] : List UInt8)
    · rw [if_pos c3] at H
      have c3b0 : (a0.toList == ([] : List UInt8)) = true := beq_iff_eq.mpr c3
      have c3b1 : (a0.toList != ([] : List UInt8)) = false := bne_eq_false_iff_eq.mpr c3
      clear c3
      (first | rw [c3b0] | (simp only [i64_w, i32_w]; rw [c3b0]) | skip)
      have H' := Aside0.mk H
      clear H
      go_wp2
      repeat (go_quiet (fail); try go_wp2)
      go_meet
      case rel => exact ⟨_, (false), (by first | rfl | (simp; done) | (simp [*]; done)), H', ⟨by first | omega | exact Nat.le_refl _⟩, by repeat (first | exact Drawn0.refl _ | apply Drawn0.step)⟩
    · rw [if_neg c3] at H
      have c3b0 : (a0.toList == ([] : List UInt8)) = false := beq_eq_false_iff_ne.mpr c3
      have c3b1 : (a0.toList != ([] : List UInt8)) = true := bne_iff_ne.mpr c3
      (first | rw [c3b0] | (simp only [i64_w, i32_w]; rw [c3b0]) | skip)
      by_cases c4 : 0 < (a0.size : Int)
      · rw [if_pos c4] at H
        have c4b0 : decide (0 < (a0.size : Int)) = true := decide_eq_true c4
        have c4b1 : decide (0 < a0.size) = true := decide_eq_true (by omega)
        clear c4
        have H' := Aside0.mk H
        clear H
        have p5 : 0 ≤ (0 : Int) := (by omega)
        have q5 : 0 < a0.size := (by have : (0 : Int) < (a0.size : Int) := of_decide_eq_true (by first | (with_reducible assumption) | assumption); omega)
        have hx5 : ∀ h : 0 < a0.size, ((a0[0]'h).toNat : Int) = bt a0 0 := bt_at a0 0
        clear p5
        have qi5 : (0 < (a0.size : Int)) = True := eq_true (of_decide_eq_true (by first | (with_reducible assumption) | assumption))
        replace q5 := eq_true q5
        go_wp2
        repeat (go_quiet (fail); try go_wp2)
        go_meet
        case rel => exact ⟨_, (((bt a0 0) == 120)), (by first | rfl | (simp; done) | (simp [*]; done)), H', ⟨by first | omega | exact Nat.le_refl _⟩, by repeat (first | exact Drawn0.refl _ | apply Drawn0.step)⟩
      · rw [if_neg c4] at H
        exact absurd H (by simp)
  case rest =>
    clear HC2
    try clear p2
    try clear c3
    try clear c3b0
    try clear c3b1
    try clear c4
    try clear c4b0
    try clear c4b1
    try clear p5
    try clear q5
    try clear hx5
    try clear qi5
    try clear p5
    try clear q5
    obtain ⟨kq, x14_1, rfl, HA, HJ1, ⟨mc1, rfl⟩⟩ := hcut
    cases kq with
    | zero => exact absurd HA.out (by simp [spec_number.j0])
    | succ kj1 =>
      have H := HA.out
      clear HA
      simp only [spec_number.j0] at H
      have HC6 := Aside0.mk H
      clear H
      go_upto_if 14 with (fail)
      repeat (go_quiet (fail); go_upto_if 14 with (fail))
      go_cut [0, 4] (fun v0 v4 wc => ∃ (kq : Nat) (x0_5 : ByteArray) (x4_5 : Int), v0 = .string x0_5 ∧ v4 = .int .i64 x4_5 ∧ Aside0 (spec_number.j1 kq x0_5 x4_5 = some (r1, r2)) ∧ Aside0 (kq ≤ kj1) ∧ Drawn0 w wc)
      case first =>
        have H := HC6.out
        clear HC6
        by_cases c7 : x14_1 = true
        · subst c7
          have H1 : (if 1 ≤ (a0.size : Int) then (spec_number.j1 kj1 (a0.extract 1 a0.size) 16) else (none)) = some (r1, r2) := by rw [if_pos rfl] at H; exact H
          clear H
          have H := H1
          clear H1
          by_cases c8 : 1 ≤ (a0.size : Int)
          · rw [if_pos c8] at H
            have c8b0 := eq_true c8
            have c8b1 : decide (1 ≤ (a0.size : Int)) = true := decide_eq_true c8
            clear c8
            have H' := Aside0.mk H
            clear H
            go_wp2
            repeat (go_quiet (fail); try go_wp2)
            go_meet
            case rel => exact ⟨_, (a0.extract 1 a0.size), (16), (by first | rfl | (simp; done) | (simp [*]; done)), (by first | rfl | (simp; done) | (simp [*]; done)), H', ⟨by have := HJ1.out; first | omega | exact Nat.le_refl _⟩, by repeat (first | exact Drawn0.refl _ | apply Drawn0.step)⟩
          · rw [if_neg c8] at H
            exact absurd H (by simp)
        · replace c7 := Bool.eq_false_iff.mpr c7
          subst c7
          have H1 : (spec_number.j1 kj1 a0 10) = some (r1, r2) := by rw [if_neg (show ¬ (false = true) by decide)] at H; exact H
          clear H
          have H := H1
          clear H1
          have H' := Aside0.mk H
          clear H
          go_wp2
          repeat (go_quiet (fail); try go_wp2)
          go_meet
          case rel => exact ⟨_, (a0), (10), (by first | rfl | (simp; done) | (simp [*]; done)), (by first | rfl | (simp; done) | (simp [*]; done)), H', ⟨by have := HJ1.out; first | omega | exact Nat.le_refl _⟩, by repeat (first | exact Drawn0.refl _ | apply Drawn0.step)⟩
      case rest =>
        clear HC6
        try clear c1
        try clear p2
        try clear c3
        try clear c3b0
        try clear c3b1
        try clear c4
        try clear c4b0
        try clear c4b1
        try clear p5
        try clear q5
        try clear hx5
        try clear qi5
        try clear c7
        try clear c8
        try clear c8b0
        try clear c8b1
        try clear p2
        try clear p5
        try clear q5
        obtain ⟨kq, x0_5, x4_5, rfl, rfl, HA, HJ5, ⟨mc5, rfl⟩⟩ := hcut
        cases kq with
        | zero => exact absurd HA.out (by simp [spec_number.j1])
        | succ kj5 =>
          have H := HA.out
          clear HA
          simp only [spec_number.j1] at H
          by_cases c9 : x0_5.toList = ([] : List UInt8)
          · rw [if_pos c9] at H
            have c9b0 : (x0_5.toList == ([] : List UInt8)) = true := beq_iff_eq.mpr c9
            have c9b1 : (x0_5.toList != ([] : List UInt8)) = false := bne_eq_false_iff_eq.mpr c9
            clear c9
            simp only [Option.some.injEq, Prod.mk.injEq] at H
            obtain ⟨rfl, rfl⟩ := H
            go_wp2
            repeat (go_quiet (fail); try go_wp2)
            go_ret2
            exact ⟨by first | rfl | (simp; done) | (simp [*]; done), by repeat (first | exact Drawn0.refl _ | apply Drawn0.step)⟩
          · rw [if_neg c9] at H
            have c9b0 : (x0_5.toList == ([] : List UInt8)) = false := beq_eq_false_iff_ne.mpr c9
            have c9b1 : (x0_5.toList != ([] : List UInt8)) = true := bne_iff_ne.mpr c9
            have H' := Aside0.mk H
            clear H
            go_wp2
            repeat (go_quiet (fail); try go_wp2)
            go_loopg [5, 21] kj5 (fun kq v5 v21 w' => ∃ (x5_3 : Int) (x21_3 : Int), v5 = .int .i64 x5_3 ∧ v21 = .int .i64 x21_3 ∧ Aside0 (spec_number.l0 kq x0_5 x4_5 x5_3 (x0_5.size : Int) x21_3 = some (r1, r2)) ∧ Aside0 (kq ≤ kj5) ∧ Drawn0 w w')
            case atStart => exact ⟨(0), (0), (by first | rfl | (simp; done) | (simp [*]; done)), (by first | rfl | (simp; done) | (simp [*]; done)), H', ⟨Nat.le_refl _⟩, by repeat (first | exact Drawn0.refl _ | apply Drawn0.step)⟩
            case round =>
              clear H'
              try clear c1
              try clear p2
              try clear c3
              try clear c3b0
              try clear c3b1
              try clear c4
              try clear c4b0
              try clear c4b1
              try clear c5
              try clear p5
              try clear q5
              try clear hx5
              try clear qi5
              try clear c7
              try clear c8
              try clear c8b0
              try clear c8b1
              try clear c9
              try clear c9b0
              try clear c9b1
              try clear p2
              try clear p5
              try clear q5
              obtain ⟨x5_3, x21_3, rfl, rfl, HA, HK3, ⟨m3, rfl⟩⟩ := hrel
              cases gk with
              | zero => exact absurd HA.out (by simp [spec_number.l0])
              | succ k3 =>
                have H := HA.out
                clear HA
                simp only [spec_number.l0] at H
                by_cases c10 : x21_3 < (x0_5.size : Int)
                · rw [if_pos c10] at H
                  have c10b0 : decide (x21_3 < (x0_5.size : Int)) = true := decide_eq_true c10
                  clear c10
                  by_cases c11 : 0 ≤ x21_3
                  · rw [if_pos c11] at H
                    have c11b0 : decide (0 ≤ x21_3) = true := decide_eq_true c11
                    clear c11
                    by_cases c12 : x21_3 < (x0_5.size : Int)
                    · rw [if_pos c12] at H
                      have c12b0 : decide (x21_3 < (x0_5.size : Int)) = true := decide_eq_true c12
                      clear c12
                      have HC14 := Aside0.mk H
                      clear H
                      have p13 : 0 ≤ (x21_3 : Int) := of_decide_eq_true (by first | (with_reducible assumption) | assumption)
                      have q13 : x21_3 < (x0_5.size : Int) := of_decide_eq_true (by first | (with_reducible assumption) | assumption)
                      have hx13 := bt_at x0_5 x21_3
                      replace p13 := eq_true p13
                      replace q13 := eq_true q13
                      go_upto_block 2 with (fail)
                      repeat (go_quiet (fail); go_upto_block 2 with (fail))
                      go_cut [7] (fun v7 wc => ∃ (kq : Nat) (x7_13 : Int), v7 = .int .i64 x7_13 ∧ Aside0 (spec_number.j5 kq x0_5 x4_5 x5_3 x7_13 (x0_5.size : Int) x21_3 = some (r1, r2)) ∧ Aside0 (kq ≤ k3) ∧ Drawn0 w wc)
                      case first =>
                        have H := HC14.out
                        clear HC14
                        have HC15 := Aside0.mk H
                        clear H
                        go_upto_region 12 with (fail)
                        repeat (go_quiet (fail); go_upto_region 12 with (fail))
                        go_cut [28] (fun v28 wc => ∃ (kq : Nat) (x28_14 : Bool), v28 = .bool x28_14 ∧ Aside0 (spec_number.j3 kq x0_5 x4_5 x5_3 (wrap64 (bt x0_5 x21_3)) (x0_5.size : Int) x21_3 x28_14 = some (r1, r2)) ∧ Aside0 (kq ≤ k3) ∧ Drawn0 w wc)
                        case first =>
                          have H := HC15.out
                          clear HC15
                          by_cases c16 : (wrap64 (bt x0_5 x21_3)) ≥ 48
                          · rw [if_pos c16] at H
                            have c16b0 : decide (48 ≤ (wrap64 (bt x0_5 x21_3))) = true := decide_eq_true c16
                            clear c16
                            (first | rw [c16b0] | (simp only [i64_w, i32_w]; rw [c16b0]) | skip)
                            have H' := Aside0.mk H
                            clear H
                            go_wp2
                            repeat (go_quiet (fail); try go_wp2)
                            go_meet
                            case rel => exact ⟨_, (decide ((wrap64 (bt x0_5 x21_3)) ≤ 57)), (by first | rfl | (simp; done) | (simp [*]; done)), H', ⟨by have := HJ1.out; have := HJ5.out; have := HK3.out; first | omega | exact Nat.le_refl _⟩, by repeat (first | exact Drawn0.refl _ | apply Drawn0.step)⟩
                          · rw [if_neg c16] at H
                            have c16b0 : decide (48 ≤ (wrap64 (bt x0_5 x21_3))) = false := decide_eq_false c16
                            clear c16
                            (first | rw [c16b0] | (simp only [i64_w, i32_w]; rw [c16b0]) | skip)
                            have H' := Aside0.mk H
                            clear H
                            go_wp2
                            repeat (go_quiet (fail); try go_wp2)
                            go_meet
                            case rel => exact ⟨_, (false), (by first | rfl | (simp; done) | (simp [*]; done)), H', ⟨by have := HJ1.out; have := HJ5.out; have := HK3.out; first | omega | exact Nat.le_refl _⟩, by repeat (first | exact Drawn0.refl _ | apply Drawn0.step)⟩
                        case rest =>
                          clear HC15
                          try clear c1
                          try clear p1
                          try clear q1
                          try clear hx1
                          try clear p2
                          try clear c3
                          try clear c3b0
                          try clear c3b1
                          try clear c4
                          try clear c4b0
                          try clear c4b1
                          try clear c5
                          try clear p5
                          try clear q5
                          try clear hx5
                          try clear qi5
                          try clear p6
                          try clear c7
                          try clear c8
                          try clear c8b0
                          try clear c8b1
                          try clear c9
                          try clear c9b0
                          try clear c9b1
                          try clear c10
                          try clear c10b0
                          try clear c11
                          try clear c11b0
                          try clear c12
                          try clear c12b0
                          try clear p13
                          try clear q13
                          try clear hx13
                          try clear c16
                          try clear c16b0
                          try clear p13
                          try clear p2
                          try clear p5
                          try clear q13
                          try clear q5
                          obtain ⟨kq, x28_14, rfl, HA, HJ14, ⟨mc14, rfl⟩⟩ := hcut
                          cases kq with
                          | zero => exact absurd HA.out (by simp [spec_number.j3])
                          | succ kj14 =>
                            have H := HA.out
                            clear HA
                            simp only [spec_number.j3] at H
                            by_cases c17 : x28_14 = true
                            · subst c17
                              have H1 : (spec_number.j5 kj14 x0_5 x4_5 x5_3 (wrap64 ((wrap64 (bt x0_5 x21_3)) - 48)) (x0_5.size : Int) x21_3) = some (r1, r2) := by rw [if_pos rfl] at H; exact H
                              clear H
                              have H := H1
                              clear H1
                              have H' := Aside0.mk H
                              clear H
                              go_wp2
                              repeat (go_quiet (fail); try go_wp2)
                              go_meet
                              case rel => exact ⟨_, (wrap64 ((wrap64 (bt x0_5 x21_3)) - 48)), (by first | rfl | (simp; done) | (simp [*]; done)), H', ⟨by have := HJ1.out; have := HJ5.out; have := HK3.out; have := HJ14.out; first | omega | exact Nat.le_refl _⟩, by repeat (first | exact Drawn0.refl _ | apply Drawn0.step)⟩
                            · replace c17 := Bool.eq_false_iff.mpr c17
                              subst c17
                              have H1 : (if x4_5 = 16 then (if (wrap64 (bt x0_5 x21_3)) ≥ 97 then (spec_number.j4 kj14 x0_5 x4_5 x5_3 (wrap64 (bt x0_5 x21_3)) (x0_5.size : Int) x21_3 (decide ((wrap64 (bt x0_5 x21_3)) ≤ 102))) else (spec_number.j4 kj14 x0_5 x4_5 x5_3 (wrap64 (bt x0_5 x21_3)) (x0_5.size : Int) x21_3 false)) else (spec_number.j4 kj14 x0_5 x4_5 x5_3 (wrap64 (bt x0_5 x21_3)) (x0_5.size : Int) x21_3 false)) = some (r1, r2) := by rw [if_neg (show ¬ (false = true) by decide)] at H; exact H
                              clear H
                              have H := H1
                              clear H1
                              have HC18 := Aside0.mk H
                              clear H
                              go_upto_region 14 with (fail)
                              repeat (go_quiet (fail); go_upto_region 14 with (fail))
                              go_cut [37] (fun v37 wc => ∃ (kq : Nat) (x37_17 : Bool), v37 = .bool x37_17 ∧ Aside0 (spec_number.j4 kq x0_5 x4_5 x5_3 (wrap64 (bt x0_5 x21_3)) (x0_5.size : Int) x21_3 x37_17 = some (r1, r2)) ∧ Aside0 (kq ≤ kj14) ∧ Drawn0 w wc)
                              case first =>
                                have H := HC18.out
                                clear HC18
                                by_cases c19 : x4_5 = 16
                                · rw [if_pos c19] at H
                                  have c19b0 : (x4_5 == 16) = true := beq_iff_eq.mpr c19
                                  have c19b1 : (x4_5 != 16) = false := bne_eq_false_iff_eq.mpr c19
                                  clear c19
                                  (first | rw [c19b0] | (simp only [i64_w, i32_w]; rw [c19b0]) | skip)
                                  by_cases c20 : (wrap64 (bt x0_5 x21_3)) ≥ 97
                                  · rw [if_pos c20] at H
                                    have c20b0 : decide (97 ≤ (wrap64 (bt x0_5 x21_3))) = true := decide_eq_true c20
                                    clear c20
                                    have H' := Aside0.mk H
                                    clear H
                                    go_wp2
                                    repeat (go_quiet (fail); try go_wp2)
                                    go_meet
                                    case rel => exact ⟨_, (decide ((wrap64 (bt x0_5 x21_3)) ≤ 102)), (by first | rfl | (simp; done) | (simp [*]; done)), H', ⟨by have := HJ1.out; have := HJ5.out; have := HK3.out; have := HJ14.out; first | omega | exact Nat.le_refl _⟩, by repeat (first | exact Drawn0.refl _ | apply Drawn0.step)⟩
                                  · rw [if_neg c20] at H
                                    have c20b0 : decide (97 ≤ (wrap64 (bt x0_5 x21_3))) = false := decide_eq_false c20
                                    clear c20
                                    have H' := Aside0.mk H
                                    clear H
                                    go_wp2
                                    repeat (go_quiet (fail); try go_wp2)
                                    go_meet
                                    case rel => exact ⟨_, (false), (by first | rfl | (simp; done) | (simp [*]; done)), H', ⟨by have := HJ1.out; have := HJ5.out; have := HK3.out; have := HJ14.out; first | omega | exact Nat.le_refl _⟩, by repeat (first | exact Drawn0.refl _ | apply Drawn0.step)⟩
                                · rw [if_neg c19] at H
                                  have c19b0 : (x4_5 == 16) = false := beq_eq_false_iff_ne.mpr c19
                                  have c19b1 : (x4_5 != 16) = true := bne_iff_ne.mpr c19
                                  (first | rw [c19b0] | (simp only [i64_w, i32_w]; rw [c19b0]) | skip)
                                  have H' := Aside0.mk H
                                  clear H
                                  go_wp2
                                  repeat (go_quiet (fail); try go_wp2)
                                  go_meet
                                  case rel => exact ⟨_, (false), (by first | rfl | (simp; done) | (simp [*]; done)), H', ⟨by have := HJ1.out; have := HJ5.out; have := HK3.out; have := HJ14.out; first | omega | exact Nat.le_refl _⟩, by repeat (first | exact Drawn0.refl _ | apply Drawn0.step)⟩
                              case rest =>
                                clear HC18
                                try clear c1
                                try clear p1
                                try clear q1
                                try clear hx1
                                try clear c2
                                try clear p2
                                try clear c3
                                try clear c3b0
                                try clear c3b1
                                try clear c4
                                try clear c4b0
                                try clear c4b1
                                try clear c5
                                try clear p5
                                try clear q5
                                try clear hx5
                                try clear qi5
                                try clear p6
                                try clear c7
                                try clear c8
                                try clear c8b0
                                try clear c8b1
                                try clear c9
                                try clear c9b0
                                try clear c9b1
                                try clear c10
                                try clear c10b0
                                try clear c11
                                try clear c11b0
                                try clear c12
                                try clear c12b0
                                try clear p13
                                try clear q13
                                try clear hx13
                                try clear c14
                                try clear c16
                                try clear c16b0
                                try clear c17
                                try clear c19
                                try clear c19b0
                                try clear c19b1
                                try clear c20
                                try clear c20b0
                                try clear p1
                                try clear p13
                                try clear p2
                                try clear p5
                                try clear p6
                                try clear q1
                                try clear q13
                                try clear q5
                                obtain ⟨kq, x37_17, rfl, HA, HJ17, ⟨mc17, rfl⟩⟩ := hcut
                                cases kq with
                                | zero => exact absurd HA.out (by simp [spec_number.j4])
                                | succ kj17 =>
                                  have H := HA.out
                                  clear HA
                                  simp only [spec_number.j4] at H
                                  by_cases c21 : x37_17 = true
                                  · subst c21
                                    have H1 : (spec_number.j5 kj17 x0_5 x4_5 x5_3 (wrap64 ((wrap64 (bt x0_5 x21_3)) - 87)) (x0_5.size : Int) x21_3) = some (r1, r2) := by rw [if_pos rfl] at H; exact H
                                    clear H
                                    have H := H1
                                    clear H1
                                    have H' := Aside0.mk H
                                    clear H
                                    go_wp2
                                    repeat (go_quiet (fail); try go_wp2)
                                    go_meet
                                    case rel => exact ⟨_, (wrap64 ((wrap64 (bt x0_5 x21_3)) - 87)), (by first | rfl | (simp; done) | (simp [*]; done)), H', ⟨by have := HJ1.out; have := HJ5.out; have := HK3.out; have := HJ14.out; have := HJ17.out; first | omega | exact Nat.le_refl _⟩, by repeat (first | exact Drawn0.refl _ | apply Drawn0.step)⟩
                                  · replace c21 := Bool.eq_false_iff.mpr c21
                                    subst c21
                                    have H1 : (if x4_5 = 16 then (if (wrap64 (bt x0_5 x21_3)) ≥ 65 then (if (wrap64 (bt x0_5 x21_3)) ≤ 70 then (spec_number.j5 kj17 x0_5 x4_5 x5_3 (wrap64 ((wrap64 (bt x0_5 x21_3)) - 55)) (x0_5.size : Int) x21_3) else (some (0, false))) else (some (0, false))) else (some (0, false))) = some (r1, r2) := by rw [if_neg (show ¬ (false = true) by decide)] at H; exact H
                                    clear H
                                    have H := H1
                                    clear H1
                                    by_cases c22 : x4_5 = 16
                                    · rw [if_pos c22] at H
                                      have c22b0 : (x4_5 == 16) = true := beq_iff_eq.mpr c22
                                      have c22b1 : (x4_5 != 16) = false := bne_eq_false_iff_eq.mpr c22
                                      clear c22
                                      by_cases c23 : (wrap64 (bt x0_5 x21_3)) ≥ 65
                                      · rw [if_pos c23] at H
                                        have c23b0 : decide (65 ≤ (wrap64 (bt x0_5 x21_3))) = true := decide_eq_true c23
                                        clear c23
                                        by_cases c24 : (wrap64 (bt x0_5 x21_3)) ≤ 70
                                        · rw [if_pos c24] at H
                                          have c24b0 : decide ((wrap64 (bt x0_5 x21_3)) ≤ 70) = true := decide_eq_true c24
                                          clear c24
                                          have H' := Aside0.mk H
                                          clear H
                                          go_wp2
                                          repeat (go_quiet (fail); try go_wp2)
                                          go_meet
                                          case rel => exact ⟨_, (wrap64 ((wrap64 (bt x0_5 x21_3)) - 55)), (by first | rfl | (simp; done) | (simp [*]; done)), H', ⟨by have := HJ1.out; have := HJ5.out; have := HK3.out; have := HJ14.out; have := HJ17.out; first | omega | exact Nat.le_refl _⟩, by repeat (first | exact Drawn0.refl _ | apply Drawn0.step)⟩
                                        · rw [if_neg c24] at H
                                          have c24b0 : decide ((wrap64 (bt x0_5 x21_3)) ≤ 70) = false := decide_eq_false c24
                                          clear c24
                                          simp only [Option.some.injEq, Prod.mk.injEq] at H
                                          obtain ⟨rfl, rfl⟩ := H
                                          go_wp2
                                          repeat (go_quiet (fail); try go_wp2)
                                          go_ret2
                                          exact ⟨by first | rfl | (simp; done) | (simp [*]; done), by repeat (first | exact Drawn0.refl _ | apply Drawn0.step)⟩
                                      · rw [if_neg c23] at H
                                        have c23b0 : decide (65 ≤ (wrap64 (bt x0_5 x21_3))) = false := decide_eq_false c23
                                        clear c23
                                        simp only [Option.some.injEq, Prod.mk.injEq] at H
                                        obtain ⟨rfl, rfl⟩ := H
                                        go_wp2
                                        repeat (go_quiet (fail); try go_wp2)
                                        go_ret2
                                        exact ⟨by first | rfl | (simp; done) | (simp [*]; done), by repeat (first | exact Drawn0.refl _ | apply Drawn0.step)⟩
                                    · rw [if_neg c22] at H
                                      have c22b0 : (x4_5 == 16) = false := beq_eq_false_iff_ne.mpr c22
                                      have c22b1 : (x4_5 != 16) = true := bne_iff_ne.mpr c22
                                      simp only [Option.some.injEq, Prod.mk.injEq] at H
                                      obtain ⟨rfl, rfl⟩ := H
                                      go_wp2
                                      repeat (go_quiet (fail); try go_wp2)
                                      go_ret2
                                      exact ⟨by first | rfl | (simp; done) | (simp [*]; done), by repeat (first | exact Drawn0.refl _ | apply Drawn0.step)⟩
                      case rest =>
                        clear HC14
                        try clear c1
                        try clear p1
                        try clear q1
                        try clear hx1
                        try clear c2
                        try clear p2
                        try clear c3
                        try clear c3b0
                        try clear c3b1
                        try clear c4
                        try clear c4b0
                        try clear c4b1
                        try clear c5
                        try clear p5
                        try clear q5
                        try clear hx5
                        try clear qi5
                        try clear p6
                        try clear c7
                        try clear c8
                        try clear c8b0
                        try clear c8b1
                        try clear c9
                        try clear c9b0
                        try clear c9b1
                        try clear c10
                        try clear c10b0
                        try clear c11
                        try clear c11b0
                        try clear c12
                        try clear c12b0
                        try clear p13
                        try clear q13
                        try clear hx13
                        try clear c14
                        try clear c16
                        try clear c16b0
                        try clear c17
                        try clear c19
                        try clear c19b0
                        try clear c19b1
                        try clear c20
                        try clear c20b0
                        try clear c21
                        try clear c22
                        try clear c22b0
                        try clear c22b1
                        try clear c23
                        try clear c23b0
                        try clear c24
                        try clear c24b0
                        try clear p1
                        try clear p13
                        try clear p2
                        try clear p5
                        try clear p6
                        try clear q1
                        try clear q13
                        try clear q5
                        obtain ⟨kq, x7_13, rfl, HA, HJ13, ⟨mc13, rfl⟩⟩ := hcut
                        cases kq with
                        | zero => exact absurd HA.out (by simp [spec_number.j5])
                        | succ kj13 =>
                          have H := HA.out
                          clear HA
                          simp only [spec_number.j5] at H
                          by_cases c25 : x5_3 ≥ 0
                          · rw [if_pos c25] at H
                            have c25b0 : decide (0 ≤ x5_3) = true := decide_eq_true c25
                            clear c25
                            by_cases c26 : (wrap64 ((wrap64 (x5_3 * x4_5)) + x7_13)) > 1114111
                            · rw [if_pos c26] at H
                              have c26b0 : decide (1114111 < (wrap64 ((wrap64 (x5_3 * x4_5)) + x7_13))) = true := decide_eq_true c26
                              clear c26
                              have H' := Aside0.mk H
                              clear H
                              go_wp2
                              repeat (go_quiet (fail); try go_wp2)
                              go_roundg kj13
                              case measure => have := HJ1.out; have := HJ5.out; have := HK3.out; have := HJ13.out; omega
                              case rel => exact ⟨((-1)), (wrap64 (x21_3 + 1)), (by first | rfl | (simp; done) | (simp [*]; done)), (by first | rfl | (simp; done) | (simp [*]; done)), H', ⟨by have := HJ1.out; have := HJ5.out; have := HK3.out; have := HJ13.out; omega⟩, by repeat (first | exact Drawn0.refl _ | apply Drawn0.step)⟩
                            · rw [if_neg c26] at H
                              have c26b0 : decide (1114111 < (wrap64 ((wrap64 (x5_3 * x4_5)) + x7_13))) = false := decide_eq_false c26
                              clear c26
                              have H' := Aside0.mk H
                              clear H
                              go_wp2
                              repeat (go_quiet (fail); try go_wp2)
                              go_roundg kj13
                              case measure => have := HJ1.out; have := HJ5.out; have := HK3.out; have := HJ13.out; omega
                              case rel => exact ⟨(wrap64 ((wrap64 (x5_3 * x4_5)) + x7_13)), (wrap64 (x21_3 + 1)), (by first | rfl | (simp; done) | (simp [*]; done)), (by first | rfl | (simp; done) | (simp [*]; done)), H', ⟨by have := HJ1.out; have := HJ5.out; have := HK3.out; have := HJ13.out; omega⟩, by repeat (first | exact Drawn0.refl _ | apply Drawn0.step)⟩
                          · rw [if_neg c25] at H
                            have c25b0 : decide (0 ≤ x5_3) = false := decide_eq_false c25
                            clear c25
                            by_cases c27 : x5_3 > 1114111
                            · rw [if_pos c27] at H
                              have c27b0 : decide (1114111 < x5_3) = true := decide_eq_true c27
                              clear c27
                              have H' := Aside0.mk H
                              clear H
                              go_wp2
                              repeat (go_quiet (fail); try go_wp2)
                              go_roundg kj13
                              case measure => have := HJ1.out; have := HJ5.out; have := HK3.out; have := HJ13.out; omega
                              case rel => exact ⟨((-1)), (wrap64 (x21_3 + 1)), (by first | rfl | (simp; done) | (simp [*]; done)), (by first | rfl | (simp; done) | (simp [*]; done)), H', ⟨by have := HJ1.out; have := HJ5.out; have := HK3.out; have := HJ13.out; omega⟩, by repeat (first | exact Drawn0.refl _ | apply Drawn0.step)⟩
                            · rw [if_neg c27] at H
                              have c27b0 : decide (1114111 < x5_3) = false := decide_eq_false c27
                              clear c27
                              have H' := Aside0.mk H
                              clear H
                              go_wp2
                              repeat (go_quiet (fail); try go_wp2)
                              go_roundg kj13
                              case measure => have := HJ1.out; have := HJ5.out; have := HK3.out; have := HJ13.out; omega
                              case rel => exact ⟨(x5_3), (wrap64 (x21_3 + 1)), (by first | rfl | (simp; done) | (simp [*]; done)), (by first | rfl | (simp; done) | (simp [*]; done)), H', ⟨by have := HJ1.out; have := HJ5.out; have := HK3.out; have := HJ13.out; omega⟩, by repeat (first | exact Drawn0.refl _ | apply Drawn0.step)⟩
                    · rw [if_neg c12] at H
                      exact absurd H (by simp)
                  · rw [if_neg c11] at H
                    exact absurd H (by simp)
                · rw [if_neg c10] at H
                  have c10b0 : decide (x21_3 < (x0_5.size : Int)) = false := decide_eq_false c10
                  clear c10
                  simp only [Option.some.injEq, Prod.mk.injEq] at H
                  obtain ⟨rfl, rfl⟩ := H
                  go_wp2
                  repeat (go_quiet (fail); try go_wp2)
                  go_ret2
                  exact ⟨by first | rfl | (simp; done) | (simp [*]; done), by repeat (first | exact Drawn0.refl _ | apply Drawn0.step)⟩

/-! ### spec_Encode: function 47 -/
def spec_Encode.f (a0 : Int) : Option (ByteArray) := if a0 < 128 then (some (strOfNums (([(a0) % 256] : List Int)))) else (if a0 < 2048 then (some (strOfNums (([(Go.bits .or .i64 192 (a0 / 64)) % 256, (Go.bits .or .i64 128 (Go.bits .and .i64 a0 63)) % 256] : List Int)))) else (if a0 < 65536 then (some (strOfNums (([(Go.bits .or .i64 224 (a0 / 4096)) % 256, (Go.bits .or .i64 128 (Go.bits .and .i64 (a0 / 64) 63)) % 256, (Go.bits .or .i64 128 (Go.bits .and .i64 a0 63)) % 256] : List Int)))) else (some (strOfNums (([(Go.bits .or .i64 240 (a0 / 262144)) % 256, (Go.bits .or .i64 128 (Go.bits .and .i64 (a0 / 4096) 63)) % 256, (Go.bits .or .i64 128 (Go.bits .and .i64 (a0 / 64) 63)) % 256, (Go.bits .or .i64 128 (Go.bits .and .i64 a0 63)) % 256] : List Int))))))
set_option maxHeartbeats 8000000 in
set_option maxRecDepth 100000 in
theorem spec_Encode.calls (a0 : Int) (r : ByteArray) (w : World) (h : spec_Encode.f a0 = some r) :
    Calls Tryd.prog 47 #[.int .i64 a0] w fun e w' => e = .returned (.string r) ∧ Below w.heap.size w w' := by
  have HB := Aside0.mk (Below.refl w.heap.size w)
  have H : (if a0 < 128 then (some (strOfNums (([(a0) % 256] : List Int)))) else (if a0 < 2048 then (some (strOfNums (([(Go.bits .or .i64 192 (a0 / 64)) % 256, (Go.bits .or .i64 128 (Go.bits .and .i64 a0 63)) % 256] : List Int)))) else (if a0 < 65536 then (some (strOfNums (([(Go.bits .or .i64 224 (a0 / 4096)) % 256, (Go.bits .or .i64 128 (Go.bits .and .i64 (a0 / 64) 63)) % 256, (Go.bits .or .i64 128 (Go.bits .and .i64 a0 63)) % 256] : List Int)))) else (some (strOfNums (([(Go.bits .or .i64 240 (a0 / 262144)) % 256, (Go.bits .or .i64 128 (Go.bits .and .i64 (a0 / 4096) 63)) % 256, (Go.bits .or .i64 128 (Go.bits .and .i64 (a0 / 64) 63)) % 256, (Go.bits .or .i64 128 (Go.bits .and .i64 a0 63)) % 256] : List Int))))))) = some r := h
  clear h
  by_cases c2 : a0 < 128
  · rw [if_pos c2] at H
    have c2b0 : decide (a0 < 128) = true := decide_eq_true c2
    clear c2
    obtain ⟨y113, hy113⟩ : ∃ y_ : List Int, y_ = (([(a0) % 256] : List Int)) := ⟨_, rfl⟩
    replace H : (some (strOfNums y113)) = some r := by first | (rw [hy113]; with_reducible exact H) | (have H2_ := (Option.bind_some _ _).symm.trans H; rw [hy113]; with_reducible exact H2_) | (have H2_ := (Option.bind_some _ _).symm.trans H; with_reducible exact H2_) | with_reducible exact H | (rw [hy113]; exact H) | exact H
    have Ny113 := Aside0.mk hy113
    clear hy113
    obtain rfl := Option.some.inj H
    go_enter Tryd.func47, Tryd.ntmps47
    go_wp2_with (first | ((with_reducible refine gate_dst (N := 8) rfl ?_); refine Kd.R_lit (Kd.int .u8) _ 5 ?hg (N := 8) ?hd (xs := ([(a0) % 256] : List Int)) (inner := [.int .u8 ((a0) % 256)]) (ok := fun _ => True) (okp := fun _ => True) ?hr ?hp (fun _ hk => hk) trivial (Below.refl _ _) (Nat.le_refl _) (by simp) ?_; (case hd => rfl); (case hg => rfl); (case hr => first | (go_simp; done) | (go_simp; rfl)); (case hp => exact (Reps.one (show Kd.M (Kd.int .u8) _ _ _ ((a0) % 256) [.int .u8 ((a0) % 256)] from rfl) (Reps.none _ _))); intro v114 w3 ho4 hb hg_ hnew_; clear hg_ hnew_; (first | rw [← Ny113.out] at ho4 | (simp only [Int.reduceToNat] at ho4; rw [← Ny113.out] at ho4)); have n0_ := Aside0.mk (Kd.R_lower ho4 (below_size (by repeat (first | (with_reducible first | exact HB.out | apply below_alloc | apply pw_below_drewN | apply below_drew1) | exact HB.out)))); have n1_ := Aside0.mk (below_step (by repeat (first | (with_reducible first | exact HB.out | apply below_alloc | apply pw_below_drewN | apply below_drew1) | exact HB.out)) hb); clear HB; have HO115 := n0_; have HB := n1_; clear n0_ n1_; clear hb ho4; have hcv5 := own_string (P := Tryd.prog) Tryd.underlying32 Tryd.underlying5 Tryd.underlying9 (Kd.own_of_R HO115.out)))
    go_ret
    exact ⟨by first | rfl | (simp [errW_none, errW_some] <;> rfl) | (simp [*, errW_none, errW_some] <;> rfl), by repeat (first | (with_reducible first | exact HB.out | apply below_alloc | apply pw_below_drewN | apply below_drew1) | exact HB.out)⟩
  · rw [if_neg c2] at H
    have c2b0 : decide (a0 < 128) = false := decide_eq_false c2
    clear c2
    by_cases c6 : a0 < 2048
    · rw [if_pos c6] at H
      have c6b0 : decide (a0 < 2048) = true := decide_eq_true c6
      clear c6
      obtain ⟨y116, hy116⟩ : ∃ y_ : List Int, y_ = (([(Go.bits .or .i64 192 (a0 / 64)) % 256, (Go.bits .or .i64 128 (Go.bits .and .i64 a0 63)) % 256] : List Int)) := ⟨_, rfl⟩
      replace H : (some (strOfNums y116)) = some r := by first | (rw [hy116]; with_reducible exact H) | (have H2_ := (Option.bind_some _ _).symm.trans H; rw [hy116]; with_reducible exact H2_) | (have H2_ := (Option.bind_some _ _).symm.trans H; with_reducible exact H2_) | with_reducible exact H | (rw [hy116]; exact H) | exact H
      have Ny116 := Aside0.mk hy116
      clear hy116
      obtain rfl := Option.some.inj H
      go_enter Tryd.func47, Tryd.ntmps47
      go_wp2_with (first | ((with_reducible refine gate_dst (N := 21) rfl ?_); refine Kd.R_lit (Kd.int .u8) _ 5 ?hg (N := 21) ?hd (xs := ([(Go.bits .or .i64 192 (a0 / 64)) % 256, (Go.bits .or .i64 128 (Go.bits .and .i64 a0 63)) % 256] : List Int)) (inner := [.int .u8 ((Go.bits .or .i64 192 (a0 / 64)) % 256), .int .u8 ((Go.bits .or .i64 128 (Go.bits .and .i64 a0 63)) % 256)]) (ok := fun _ => True) (okp := fun _ => True) ?hr ?hp (fun _ hk => hk) trivial (Below.refl _ _) (Nat.le_refl _) (by simp) ?_; (case hd => rfl); (case hg => rfl); (case hr => first | (go_simp; done) | (go_simp; rfl)); (case hp => exact (Reps.one (show Kd.M (Kd.int .u8) _ _ _ ((Go.bits .or .i64 192 (a0 / 64)) % 256) [.int .u8 ((Go.bits .or .i64 192 (a0 / 64)) % 256)] from rfl) (Reps.one (show Kd.M (Kd.int .u8) _ _ _ ((Go.bits .or .i64 128 (Go.bits .and .i64 a0 63)) % 256) [.int .u8 ((Go.bits .or .i64 128 (Go.bits .and .i64 a0 63)) % 256)] from rfl) (Reps.none _ _)))); intro v117 w7 ho8 hb hg_ hnew_; clear hg_ hnew_; (first | rw [← Ny116.out] at ho8 | (simp only [Int.reduceToNat] at ho8; rw [← Ny116.out] at ho8)); have n0_ := Aside0.mk (Kd.R_lower ho8 (below_size (by repeat (first | (with_reducible first | exact HB.out | apply below_alloc | apply pw_below_drewN | apply below_drew1) | exact HB.out)))); have n1_ := Aside0.mk (below_step (by repeat (first | (with_reducible first | exact HB.out | apply below_alloc | apply pw_below_drewN | apply below_drew1) | exact HB.out)) hb); clear HB; have HO118 := n0_; have HB := n1_; clear n0_ n1_; clear hb ho8; have hcv9 := own_string (P := Tryd.prog) Tryd.underlying32 Tryd.underlying5 Tryd.underlying9 (Kd.own_of_R HO118.out)))
      go_ret
      exact ⟨by first | rfl | (simp [errW_none, errW_some] <;> rfl) | (simp [*, errW_none, errW_some] <;> rfl), by repeat (first | (with_reducible first | exact HB.out | apply below_alloc | apply pw_below_drewN | apply below_drew1) | exact HB.out)⟩
    · rw [if_neg c6] at H
      have c6b0 : decide (a0 < 2048) = false := decide_eq_false c6
      clear c6
      by_cases c10 : a0 < 65536
      · rw [if_pos c10] at H
        have c10b0 : decide (a0 < 65536) = true := decide_eq_true c10
        clear c10
        obtain ⟨y119, hy119⟩ : ∃ y_ : List Int, y_ = (([(Go.bits .or .i64 224 (a0 / 4096)) % 256, (Go.bits .or .i64 128 (Go.bits .and .i64 (a0 / 64) 63)) % 256, (Go.bits .or .i64 128 (Go.bits .and .i64 a0 63)) % 256] : List Int)) := ⟨_, rfl⟩
        replace H : (some (strOfNums y119)) = some r := by first | (rw [hy119]; with_reducible exact H) | (have H2_ := (Option.bind_some _ _).symm.trans H; rw [hy119]; with_reducible exact H2_) | (have H2_ := (Option.bind_some _ _).symm.trans H; with_reducible exact H2_) | with_reducible exact H | (rw [hy119]; exact H) | exact H
        have Ny119 := Aside0.mk hy119
        clear hy119
        obtain rfl := Option.some.inj H
        go_enter Tryd.func47, Tryd.ntmps47
        go_wp2_with (first | ((with_reducible refine gate_dst (N := 39) rfl ?_); refine Kd.R_lit (Kd.int .u8) _ 5 ?hg (N := 39) ?hd (xs := ([(Go.bits .or .i64 224 (a0 / 4096)) % 256, (Go.bits .or .i64 128 (Go.bits .and .i64 (a0 / 64) 63)) % 256, (Go.bits .or .i64 128 (Go.bits .and .i64 a0 63)) % 256] : List Int)) (inner := [.int .u8 ((Go.bits .or .i64 224 (a0 / 4096)) % 256), .int .u8 ((Go.bits .or .i64 128 (Go.bits .and .i64 (a0 / 64) 63)) % 256), .int .u8 ((Go.bits .or .i64 128 (Go.bits .and .i64 a0 63)) % 256)]) (ok := fun _ => True) (okp := fun _ => True) ?hr ?hp (fun _ hk => hk) trivial (Below.refl _ _) (Nat.le_refl _) (by simp) ?_; (case hd => rfl); (case hg => rfl); (case hr => first | (go_simp; done) | (go_simp; rfl)); (case hp => exact (Reps.one (show Kd.M (Kd.int .u8) _ _ _ ((Go.bits .or .i64 224 (a0 / 4096)) % 256) [.int .u8 ((Go.bits .or .i64 224 (a0 / 4096)) % 256)] from rfl) (Reps.one (show Kd.M (Kd.int .u8) _ _ _ ((Go.bits .or .i64 128 (Go.bits .and .i64 (a0 / 64) 63)) % 256) [.int .u8 ((Go.bits .or .i64 128 (Go.bits .and .i64 (a0 / 64) 63)) % 256)] from rfl) (Reps.one (show Kd.M (Kd.int .u8) _ _ _ ((Go.bits .or .i64 128 (Go.bits .and .i64 a0 63)) % 256) [.int .u8 ((Go.bits .or .i64 128 (Go.bits .and .i64 a0 63)) % 256)] from rfl) (Reps.none _ _))))); intro v120 w11 ho12 hb hg_ hnew_; clear hg_ hnew_; (first | rw [← Ny119.out] at ho12 | (simp only [Int.reduceToNat] at ho12; rw [← Ny119.out] at ho12)); have n0_ := Aside0.mk (Kd.R_lower ho12 (below_size (by repeat (first | (with_reducible first | exact HB.out | apply below_alloc | apply pw_below_drewN | apply below_drew1) | exact HB.out)))); have n1_ := Aside0.mk (below_step (by repeat (first | (with_reducible first | exact HB.out | apply below_alloc | apply pw_below_drewN | apply below_drew1) | exact HB.out)) hb); clear HB; have HO121 := n0_; have HB := n1_; clear n0_ n1_; clear hb ho12; have hcv13 := own_string (P := Tryd.prog) Tryd.underlying32 Tryd.underlying5 Tryd.underlying9 (Kd.own_of_R HO121.out)))
        go_ret
        exact ⟨by first | rfl | (simp [errW_none, errW_some] <;> rfl) | (simp [*, errW_none, errW_some] <;> rfl), by repeat (first | (with_reducible first | exact HB.out | apply below_alloc | apply pw_below_drewN | apply below_drew1) | exact HB.out)⟩
      · rw [if_neg c10] at H
        have c10b0 : decide (a0 < 65536) = false := decide_eq_false c10
        clear c10
        obtain ⟨y122, hy122⟩ : ∃ y_ : List Int, y_ = (([(Go.bits .or .i64 240 (a0 / 262144)) % 256, (Go.bits .or .i64 128 (Go.bits .and .i64 (a0 / 4096) 63)) % 256, (Go.bits .or .i64 128 (Go.bits .and .i64 (a0 / 64) 63)) % 256, (Go.bits .or .i64 128 (Go.bits .and .i64 a0 63)) % 256] : List Int)) := ⟨_, rfl⟩
        replace H : (some (strOfNums y122)) = some r := by first | (rw [hy122]; with_reducible exact H) | (have H2_ := (Option.bind_some _ _).symm.trans H; rw [hy122]; with_reducible exact H2_) | (have H2_ := (Option.bind_some _ _).symm.trans H; with_reducible exact H2_) | with_reducible exact H | (rw [hy122]; exact H) | exact H
        have Ny122 := Aside0.mk hy122
        clear hy122
        obtain rfl := Option.some.inj H
        go_enter Tryd.func47, Tryd.ntmps47
        go_wp2_with (first | ((with_reducible refine gate_dst (N := 59) rfl ?_); refine Kd.R_lit (Kd.int .u8) _ 5 ?hg (N := 59) ?hd (xs := ([(Go.bits .or .i64 240 (a0 / 262144)) % 256, (Go.bits .or .i64 128 (Go.bits .and .i64 (a0 / 4096) 63)) % 256, (Go.bits .or .i64 128 (Go.bits .and .i64 (a0 / 64) 63)) % 256, (Go.bits .or .i64 128 (Go.bits .and .i64 a0 63)) % 256] : List Int)) (inner := [.int .u8 ((Go.bits .or .i64 240 (a0 / 262144)) % 256), .int .u8 ((Go.bits .or .i64 128 (Go.bits .and .i64 (a0 / 4096) 63)) % 256), .int .u8 ((Go.bits .or .i64 128 (Go.bits .and .i64 (a0 / 64) 63)) % 256), .int .u8 ((Go.bits .or .i64 128 (Go.bits .and .i64 a0 63)) % 256)]) (ok := fun _ => True) (okp := fun _ => True) ?hr ?hp (fun _ hk => hk) trivial (Below.refl _ _) (Nat.le_refl _) (by simp) ?_; (case hd => rfl); (case hg => rfl); (case hr => first | (go_simp; done) | (go_simp; rfl)); (case hp => exact (Reps.one (show Kd.M (Kd.int .u8) _ _ _ ((Go.bits .or .i64 240 (a0 / 262144)) % 256) [.int .u8 ((Go.bits .or .i64 240 (a0 / 262144)) % 256)] from rfl) (Reps.one (show Kd.M (Kd.int .u8) _ _ _ ((Go.bits .or .i64 128 (Go.bits .and .i64 (a0 / 4096) 63)) % 256) [.int .u8 ((Go.bits .or .i64 128 (Go.bits .and .i64 (a0 / 4096) 63)) % 256)] from rfl) (Reps.one (show Kd.M (Kd.int .u8) _ _ _ ((Go.bits .or .i64 128 (Go.bits .and .i64 (a0 / 64) 63)) % 256) [.int .u8 ((Go.bits .or .i64 128 (Go.bits .and .i64 (a0 / 64) 63)) % 256)] from rfl) (Reps.one (show Kd.M (Kd.int .u8) _ _ _ ((Go.bits .or .i64 128 (Go.bits .and .i64 a0 63)) % 256) [.int .u8 ((Go.bits .or .i64 128 (Go.bits .and .i64 a0 63)) % 256)] from rfl) (Reps.none _ _)))))); intro v123 w14 ho15 hb hg_ hnew_; clear hg_ hnew_; (first | rw [← Ny122.out] at ho15 | (simp only [Int.reduceToNat] at ho15; rw [← Ny122.out] at ho15)); have n0_ := Aside0.mk (Kd.R_lower ho15 (below_size (by repeat (first | (with_reducible first | exact HB.out | apply below_alloc | apply pw_below_drewN | apply below_drew1) | exact HB.out)))); have n1_ := Aside0.mk (below_step (by repeat (first | (with_reducible first | exact HB.out | apply below_alloc | apply pw_below_drewN | apply below_drew1) | exact HB.out)) hb); clear HB; have HO124 := n0_; have HB := n1_; clear n0_ n1_; clear hb ho15; have hcv16 := own_string (P := Tryd.prog) Tryd.underlying32 Tryd.underlying5 Tryd.underlying9 (Kd.own_of_R HO124.out)))
        go_ret
        exact ⟨by first | rfl | (simp [errW_none, errW_some] <;> rfl) | (simp [*, errW_none, errW_some] <;> rfl), by repeat (first | (with_reducible first | exact HB.out | apply below_alloc | apply pw_below_drewN | apply below_drew1) | exact HB.out)⟩

-- NOT PRINTED: function 40 (spec_parser_reference)

-- NOT PRINTED: function 26 (spec_parser_data)

-- NOT PRINTED: function 27 (spec_parser_add)

-- NOT PRINTED: function 14 (spec_parser_text)

-- NOT PRINTED: function 31 (spec_parser_word)

end Go.Proofs.YtfchmbhbkhgfnaaDoor.PFnEscapePlain
