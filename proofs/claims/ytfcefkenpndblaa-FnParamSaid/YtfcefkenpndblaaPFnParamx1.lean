-- PRINTED BY print.sh 35421559b90ae4d0a3588c463048766b98c2df88dd9212a6774a882060cdf62d: not written by this session
import Derived.Test.YtfcefkenpndblaaPFnParamx0
namespace Go.Proofs.Ytfcefkenpndblaa.PFnParam
open Go.RowKit Go.Proofs.YtfcefkenpndblaaW.PrintWords Go.Proofs.YtfcefkenpndblaaW.PrintLast Go.Proofs.YtfcefkenpndblaaW.PrintMore
attribute [local go_sem] max2_int min2_int max_two min_two max_three min_three max_four min_four   -- for this text's walks alone
set_option linter.unusedVariables false
set_option linter.unusedSimpArgs false

/-! ### laws_zzFits3: function 11 -/
def laws_zzFits3.l0 : Nat → List ByteArray → Int → Int → Option (Bool)
  | 0, _, _, _ => none
  | k + 1, x8, x9, x10 => if x10 < x9 then (if 0 ≤ x10 then (if x10 < (x8.length : Int) then (if ((rdOf ByteArray.empty x8 x10).size : Int) > 2147483647 then (some false) else (laws_zzFits3.l0 k x8 x9 (wrap64 (x10 + 1)))) else (none)) else (none)) else (some true)
def laws_zzFits3.f (k : Nat) (l0 : List ByteArray) : Option (Bool) := if (l0.length : Int) > 2147483647 then (some false) else (laws_zzFits3.l0 k l0 (l0.length : Int) 0)
theorem laws_zzFits3.mono_l : ∀ k, (∀ y0 y1 y2, LeO (laws_zzFits3.l0 k y0 y1 y2) (laws_zzFits3.l0 (k + 1) y0 y1 y2))
  | 0 => fun _ _ _ r h => by simp [laws_zzFits3.l0] at h
  | k + 1 => by
    have ih0 := laws_zzFits3.mono_l k
    · intro y0 y1 y2
      unfold laws_zzFits3.l0
      repeat' first
      | (with_reducible exact ih0 _ _ _)
      | (with_reducible exact LeO.refl _)
      | (with_reducible exact LeO.none _)
      | (with_reducible refine LeO.ite ?_ ?_)
      | (with_reducible refine LeO.bind ?_ (fun _ => ?_))
      | exact ih0 _ _ _
      | exact LeO.none _
      | refine LeO.ite ?_ ?_
      | refine LeO.bind ?_ (fun _ => ?_)
theorem laws_zzFits3.mono : ∀ a0 k, LeO (laws_zzFits3.f k a0) (laws_zzFits3.f (k + 1) a0) := by
  intro a0 k
  have ih0 := laws_zzFits3.mono_l k
  unfold laws_zzFits3.f
  repeat' first
      | (with_reducible exact ih0 _ _ _)
      | (with_reducible exact LeO.refl _)
      | (with_reducible exact LeO.none _)
      | (with_reducible refine LeO.ite ?_ ?_)
      | (with_reducible refine LeO.bind ?_ (fun _ => ?_))
      | exact ih0 _ _ _
      | exact LeO.none _
      | refine LeO.ite ?_ ?_
      | refine LeO.bind ?_ (fun _ => ?_)
set_option maxHeartbeats 8000000 in
set_option maxRecDepth 100000 in
theorem laws_zzFits3.calls (k : Nat) (A0 : Option Addr) (c0 : Nat) (l0 : List ByteArray) (r : Bool) (w : World) (hr0 : Kd.C Kd.string w A0 l0.length l0) (hc0 : l0.length ≤ c0) (h : laws_zzFits3.f k l0 = some r) :
    Calls Try.prog 11 #[.slice A0 l0.length c0] w fun e w' => e = .returned (.bool r) ∧ Drawn0 w w' := by
  have HR0 := Aside0.mk hr0
  have HC0 := Aside0.mk hc0
  clear hr0 hc0
  have H : (if (l0.length : Int) > 2147483647 then (some false) else (laws_zzFits3.l0 k l0 (l0.length : Int) 0)) = some r := h
  clear h
  by_cases c2 : (l0.length : Int) > 2147483647
  · rw [if_pos c2] at H
    have c2b0 : decide (2147483647 < (l0.length : Int)) = true := decide_eq_true c2
    have c2b1 : decide (2147483647 < l0.length) = true := decide_eq_true (by omega)
    clear c2
    obtain rfl := Option.some.inj H
    go_enter Try.func11, Try.ntmps11
    go_wp2
    go_ret
    exact ⟨by first | rfl | (simp; done) | (simp [*]; done), by repeat (first | exact Drawn0.refl _ | apply Drawn0.step)⟩
  · rw [if_neg c2] at H
    have c2b0 : decide (2147483647 < (l0.length : Int)) = false := decide_eq_false c2
    have c2b1 : decide (2147483647 < l0.length) = false := decide_eq_false (by omega)
    clear c2
    have H' := Aside0.mk H
    clear H
    go_enter Try.func11, Try.ntmps11
    go_wp2
    go_loopg [10] k (fun kq v10 w' => ∃ (x10_1 : Int), v10 = .int .i64 x10_1 ∧ Aside0 (laws_zzFits3.l0 kq l0 (l0.length : Int) x10_1 = some r) ∧ Aside0 (kq ≤ k) ∧ Drawn0 w w')
    case atStart => exact ⟨(0), (by first | rfl | (simp; done) | (simp [*]; done)), H', ⟨Nat.le_refl _⟩, by repeat (first | exact Drawn0.refl _ | apply Drawn0.step)⟩
    case round =>
      clear H'
      try clear c1
      try clear c2
      try clear c2b0
      try clear c2b1
      try clear p2
      obtain ⟨x10_1, rfl, HA, HK1, ⟨m1, rfl⟩⟩ := hrel
      cases gk with
      | zero => exact absurd HA.out (by simp [laws_zzFits3.l0])
      | succ k1 =>
        have H := HA.out
        clear HA
        simp only [laws_zzFits3.l0] at H
        by_cases c3 : x10_1 < (l0.length : Int)
        · rw [if_pos c3] at H
          have c3b0 : decide (x10_1 < (l0.length : Int)) = true := decide_eq_true c3
          clear c3
          by_cases c4 : 0 ≤ x10_1
          · rw [if_pos c4] at H
            have c4b0 : decide (0 ≤ x10_1) = true := decide_eq_true c4
            clear c4
            by_cases c5 : x10_1 < (l0.length : Int)
            · rw [if_pos c5] at H
              have c5b0 : decide (x10_1 < (l0.length : Int)) = true := decide_eq_true c5
              clear c5
              by_cases c6 : ((rdOf ByteArray.empty l0 x10_1).size : Int) > 2147483647
              · rw [if_pos c6] at H
                have c6b0 : decide (2147483647 < ((rdOf ByteArray.empty l0 x10_1).size : Int)) = true := decide_eq_true c6
                have c6b1 : decide (2147483647 < (rdOf ByteArray.empty l0 x10_1).size) = true := decide_eq_true (by omega)
                clear c6
                obtain rfl := Option.some.inj H
                have p101 : 0 ≤ (x10_1 : Int) := of_decide_eq_true (by first | (with_reducible assumption) | assumption)
                have q101 : x10_1 < (l0.length : Int) := of_decide_eq_true (by first | (with_reducible assumption) | assumption)
                obtain ⟨ad101, e101, hx101_0⟩ := Kd.at_string HR0.out x10_1 p101 q101
                cases e101
                replace p101 := eq_true p101
                replace q101 := eq_true q101
                go_wp2
                go_ret
                exact ⟨by first | rfl | (simp; done) | (simp [*]; done), by repeat (first | exact Drawn0.refl _ | apply Drawn0.step)⟩
              · rw [if_neg c6] at H
                have c6b0 : decide (2147483647 < ((rdOf ByteArray.empty l0 x10_1).size : Int)) = false := decide_eq_false c6
                have c6b1 : decide (2147483647 < (rdOf ByteArray.empty l0 x10_1).size) = false := decide_eq_false (by omega)
                clear c6
                have H' := Aside0.mk H
                clear H
                have p101 : 0 ≤ (x10_1 : Int) := of_decide_eq_true (by first | (with_reducible assumption) | assumption)
                have q101 : x10_1 < (l0.length : Int) := of_decide_eq_true (by first | (with_reducible assumption) | assumption)
                obtain ⟨ad101, e101, hx101_0⟩ := Kd.at_string HR0.out x10_1 p101 q101
                cases e101
                replace p101 := eq_true p101
                replace q101 := eq_true q101
                go_wp2
                go_roundg k1
                case measure => have := HK1.out; omega
                case rel => exact ⟨(wrap64 (x10_1 + 1)), (by first | rfl | (simp; done) | (simp [*]; done)), H', ⟨by have := HK1.out; omega⟩, by repeat (first | exact Drawn0.refl _ | apply Drawn0.step)⟩
            · rw [if_neg c5] at H
              exact absurd H (by simp)
          · rw [if_neg c4] at H
            exact absurd H (by simp)
        · rw [if_neg c3] at H
          have c3b0 : decide (x10_1 < (l0.length : Int)) = false := decide_eq_false c3
          clear c3
          obtain rfl := Option.some.inj H
          go_wp2
          go_ret
          exact ⟨by first | rfl | (simp; done) | (simp [*]; done), by repeat (first | exact Drawn0.refl _ | apply Drawn0.step)⟩

/-! ### spec_begins: function 24 -/
def spec_begins.f (a0 : Int) : Option (Bool) := if a0 ≥ 97 then (if a0 ≤ 122 then (some true) else (if a0 ≥ 65 then (if a0 ≤ 90 then (some true) else (if a0 = 95 then (some true) else (if a0 = 58 then (some true) else (if a0 ≥ 192 then (if a0 ≤ 255 then (if a0 = 215 then (some false) else (some (a0 != 247))) else (some false)) else (some false))))) else (if a0 = 95 then (some true) else (if a0 = 58 then (some true) else (if a0 ≥ 192 then (if a0 ≤ 255 then (if a0 = 215 then (some false) else (some (a0 != 247))) else (some false)) else (some false)))))) else (if a0 ≥ 65 then (if a0 ≤ 90 then (some true) else (if a0 = 95 then (some true) else (if a0 = 58 then (some true) else (if a0 ≥ 192 then (if a0 ≤ 255 then (if a0 = 215 then (some false) else (some (a0 != 247))) else (some false)) else (some false))))) else (if a0 = 95 then (some true) else (if a0 = 58 then (some true) else (if a0 ≥ 192 then (if a0 ≤ 255 then (if a0 = 215 then (some false) else (some (a0 != 247))) else (some false)) else (some false)))))
set_option maxHeartbeats 8000000 in
set_option maxRecDepth 100000 in
theorem spec_begins.calls (a0 : Int) (r : Bool) (w : World) (h : spec_begins.f a0 = some r) :
    Calls Try.prog 24 #[.int .i64 a0] w fun e w' => e = .returned (.bool r) ∧ Drawn0 w w' := by
  have H : (if a0 ≥ 97 then (if a0 ≤ 122 then (some true) else (if a0 ≥ 65 then (if a0 ≤ 90 then (some true) else (if a0 = 95 then (some true) else (if a0 = 58 then (some true) else (if a0 ≥ 192 then (if a0 ≤ 255 then (if a0 = 215 then (some false) else (some (a0 != 247))) else (some false)) else (some false))))) else (if a0 = 95 then (some true) else (if a0 = 58 then (some true) else (if a0 ≥ 192 then (if a0 ≤ 255 then (if a0 = 215 then (some false) else (some (a0 != 247))) else (some false)) else (some false)))))) else (if a0 ≥ 65 then (if a0 ≤ 90 then (some true) else (if a0 = 95 then (some true) else (if a0 = 58 then (some true) else (if a0 ≥ 192 then (if a0 ≤ 255 then (if a0 = 215 then (some false) else (some (a0 != 247))) else (some false)) else (some false))))) else (if a0 = 95 then (some true) else (if a0 = 58 then (some true) else (if a0 ≥ 192 then (if a0 ≤ 255 then (if a0 = 215 then (some false) else (some (a0 != 247))) else (some false)) else (some false)))))) = some r := h
  clear h
  by_cases c2 : a0 ≥ 97
  · rw [if_pos c2] at H
    have c2b0 : decide (97 ≤ a0) = true := decide_eq_true c2
    clear c2
    by_cases c3 : a0 ≤ 122
    · rw [if_pos c3] at H
      have c3b0 : decide (a0 ≤ 122) = true := decide_eq_true c3
      clear c3
      obtain rfl := Option.some.inj H
      go_enter Try.func24, Try.ntmps24
      go_wp2
      go_ret
      exact ⟨by first | rfl | (simp; done) | (simp [*]; done), by repeat (first | exact Drawn0.refl _ | apply Drawn0.step)⟩
    · rw [if_neg c3] at H
      have c3b0 : decide (a0 ≤ 122) = false := decide_eq_false c3
      clear c3
      by_cases c4 : a0 ≥ 65
      · rw [if_pos c4] at H
        have c4b0 : decide (65 ≤ a0) = true := decide_eq_true c4
        clear c4
        by_cases c5 : a0 ≤ 90
        · rw [if_pos c5] at H
          have c5b0 : decide (a0 ≤ 90) = true := decide_eq_true c5
          clear c5
          obtain rfl := Option.some.inj H
          go_enter Try.func24, Try.ntmps24
          go_wp2
          go_ret
          exact ⟨by first | rfl | (simp; done) | (simp [*]; done), by repeat (first | exact Drawn0.refl _ | apply Drawn0.step)⟩
        · rw [if_neg c5] at H
          have c5b0 : decide (a0 ≤ 90) = false := decide_eq_false c5
          clear c5
          by_cases c6 : a0 = 95
          · rw [if_pos c6] at H
            have c6b0 : (a0 == 95) = true := beq_iff_eq.mpr c6
            have c6b1 : (a0 != 95) = false := bne_eq_false_iff_eq.mpr c6
            clear c6
            obtain rfl := Option.some.inj H
            go_enter Try.func24, Try.ntmps24
            go_wp2
            go_ret
            exact ⟨by first | rfl | (simp; done) | (simp [*]; done), by repeat (first | exact Drawn0.refl _ | apply Drawn0.step)⟩
          · rw [if_neg c6] at H
            have c6b0 : (a0 == 95) = false := beq_eq_false_iff_ne.mpr c6
            have c6b1 : (a0 != 95) = true := bne_iff_ne.mpr c6
            by_cases c7 : a0 = 58
            · rw [if_pos c7] at H
              have c7b0 : (a0 == 58) = true := beq_iff_eq.mpr c7
              have c7b1 : (a0 != 58) = false := bne_eq_false_iff_eq.mpr c7
              clear c7
              obtain rfl := Option.some.inj H
              go_enter Try.func24, Try.ntmps24
              go_wp2
              go_ret
              exact ⟨by first | rfl | (simp; done) | (simp [*]; done), by repeat (first | exact Drawn0.refl _ | apply Drawn0.step)⟩
            · rw [if_neg c7] at H
              have c7b0 : (a0 == 58) = false := beq_eq_false_iff_ne.mpr c7
              have c7b1 : (a0 != 58) = true := bne_iff_ne.mpr c7
              by_cases c8 : a0 ≥ 192
              · rw [if_pos c8] at H
                have c8b0 : decide (192 ≤ a0) = true := decide_eq_true c8
                clear c8
                by_cases c9 : a0 ≤ 255
                · rw [if_pos c9] at H
                  have c9b0 : decide (a0 ≤ 255) = true := decide_eq_true c9
                  clear c9
                  by_cases c10 : a0 = 215
                  · rw [if_pos c10] at H
                    have c10b0 : (a0 == 215) = true := beq_iff_eq.mpr c10
                    have c10b1 : (a0 != 215) = false := bne_eq_false_iff_eq.mpr c10
                    clear c10
                    obtain rfl := Option.some.inj H
                    go_enter Try.func24, Try.ntmps24
                    go_wp2
                    go_ret
                    exact ⟨by first | rfl | (simp; done) | (simp [*]; done), by repeat (first | exact Drawn0.refl _ | apply Drawn0.step)⟩
                  · rw [if_neg c10] at H
                    have c10b0 : (a0 == 215) = false := beq_eq_false_iff_ne.mpr c10
                    have c10b1 : (a0 != 215) = true := bne_iff_ne.mpr c10
                    obtain rfl := Option.some.inj H
                    go_enter Try.func24, Try.ntmps24
                    go_wp2
                    go_ret
                    exact ⟨by first | rfl | (simp; done) | (simp [*]; done), by repeat (first | exact Drawn0.refl _ | apply Drawn0.step)⟩
                · rw [if_neg c9] at H
                  have c9b0 : decide (a0 ≤ 255) = false := decide_eq_false c9
                  clear c9
                  obtain rfl := Option.some.inj H
                  go_enter Try.func24, Try.ntmps24
                  go_wp2
                  go_ret
                  exact ⟨by first | rfl | (simp; done) | (simp [*]; done), by repeat (first | exact Drawn0.refl _ | apply Drawn0.step)⟩
              · rw [if_neg c8] at H
                have c8b0 : decide (192 ≤ a0) = false := decide_eq_false c8
                clear c8
                obtain rfl := Option.some.inj H
                go_enter Try.func24, Try.ntmps24
                go_wp2
                go_ret
                exact ⟨by first | rfl | (simp; done) | (simp [*]; done), by repeat (first | exact Drawn0.refl _ | apply Drawn0.step)⟩
      · rw [if_neg c4] at H
        have c4b0 : decide (65 ≤ a0) = false := decide_eq_false c4
        clear c4
        by_cases c11 : a0 = 95
        · rw [if_pos c11] at H
          have c11b0 : (a0 == 95) = true := beq_iff_eq.mpr c11
          have c11b1 : (a0 != 95) = false := bne_eq_false_iff_eq.mpr c11
          clear c11
          obtain rfl := Option.some.inj H
          go_enter Try.func24, Try.ntmps24
          go_wp2
          go_ret
          exact ⟨by first | rfl | (simp; done) | (simp [*]; done), by repeat (first | exact Drawn0.refl _ | apply Drawn0.step)⟩
        · rw [if_neg c11] at H
          have c11b0 : (a0 == 95) = false := beq_eq_false_iff_ne.mpr c11
          have c11b1 : (a0 != 95) = true := bne_iff_ne.mpr c11
          by_cases c12 : a0 = 58
          · rw [if_pos c12] at H
            have c12b0 : (a0 == 58) = true := beq_iff_eq.mpr c12
            have c12b1 : (a0 != 58) = false := bne_eq_false_iff_eq.mpr c12
            clear c12
            obtain rfl := Option.some.inj H
            go_enter Try.func24, Try.ntmps24
            go_wp2
            go_ret
            exact ⟨by first | rfl | (simp; done) | (simp [*]; done), by repeat (first | exact Drawn0.refl _ | apply Drawn0.step)⟩
          · rw [if_neg c12] at H
            have c12b0 : (a0 == 58) = false := beq_eq_false_iff_ne.mpr c12
            have c12b1 : (a0 != 58) = true := bne_iff_ne.mpr c12
            by_cases c13 : a0 ≥ 192
            · rw [if_pos c13] at H
              have c13b0 : decide (192 ≤ a0) = true := decide_eq_true c13
              clear c13
              by_cases c14 : a0 ≤ 255
              · rw [if_pos c14] at H
                have c14b0 : decide (a0 ≤ 255) = true := decide_eq_true c14
                clear c14
                by_cases c15 : a0 = 215
                · rw [if_pos c15] at H
                  have c15b0 : (a0 == 215) = true := beq_iff_eq.mpr c15
                  have c15b1 : (a0 != 215) = false := bne_eq_false_iff_eq.mpr c15
                  clear c15
                  obtain rfl := Option.some.inj H
                  go_enter Try.func24, Try.ntmps24
                  go_wp2
                  go_ret
                  exact ⟨by first | rfl | (simp; done) | (simp [*]; done), by repeat (first | exact Drawn0.refl _ | apply Drawn0.step)⟩
                · rw [if_neg c15] at H
                  have c15b0 : (a0 == 215) = false := beq_eq_false_iff_ne.mpr c15
                  have c15b1 : (a0 != 215) = true := bne_iff_ne.mpr c15
                  obtain rfl := Option.some.inj H
                  go_enter Try.func24, Try.ntmps24
                  go_wp2
                  go_ret
                  exact ⟨by first | rfl | (simp; done) | (simp [*]; done), by repeat (first | exact Drawn0.refl _ | apply Drawn0.step)⟩
              · rw [if_neg c14] at H
                have c14b0 : decide (a0 ≤ 255) = false := decide_eq_false c14
                clear c14
                obtain rfl := Option.some.inj H
                go_enter Try.func24, Try.ntmps24
                go_wp2
                go_ret
                exact ⟨by first | rfl | (simp; done) | (simp [*]; done), by repeat (first | exact Drawn0.refl _ | apply Drawn0.step)⟩
            · rw [if_neg c13] at H
              have c13b0 : decide (192 ≤ a0) = false := decide_eq_false c13
              clear c13
              obtain rfl := Option.some.inj H
              go_enter Try.func24, Try.ntmps24
              go_wp2
              go_ret
              exact ⟨by first | rfl | (simp; done) | (simp [*]; done), by repeat (first | exact Drawn0.refl _ | apply Drawn0.step)⟩
  · rw [if_neg c2] at H
    have c2b0 : decide (97 ≤ a0) = false := decide_eq_false c2
    clear c2
    by_cases c16 : a0 ≥ 65
    · rw [if_pos c16] at H
      have c16b0 : decide (65 ≤ a0) = true := decide_eq_true c16
      clear c16
      by_cases c17 : a0 ≤ 90
      · rw [if_pos c17] at H
        have c17b0 : decide (a0 ≤ 90) = true := decide_eq_true c17
        clear c17
        obtain rfl := Option.some.inj H
        go_enter Try.func24, Try.ntmps24
        go_wp2
        go_ret
        exact ⟨by first | rfl | (simp; done) | (simp [*]; done), by repeat (first | exact Drawn0.refl _ | apply Drawn0.step)⟩
      · rw [if_neg c17] at H
        have c17b0 : decide (a0 ≤ 90) = false := decide_eq_false c17
        clear c17
        by_cases c18 : a0 = 95
        · rw [if_pos c18] at H
          have c18b0 : (a0 == 95) = true := beq_iff_eq.mpr c18
          have c18b1 : (a0 != 95) = false := bne_eq_false_iff_eq.mpr c18
          clear c18
          obtain rfl := Option.some.inj H
          go_enter Try.func24, Try.ntmps24
          go_wp2
          go_ret
          exact ⟨by first | rfl | (simp; done) | (simp [*]; done), by repeat (first | exact Drawn0.refl _ | apply Drawn0.step)⟩
        · rw [if_neg c18] at H
          have c18b0 : (a0 == 95) = false := beq_eq_false_iff_ne.mpr c18
          have c18b1 : (a0 != 95) = true := bne_iff_ne.mpr c18
          by_cases c19 : a0 = 58
          · rw [if_pos c19] at H
            have c19b0 : (a0 == 58) = true := beq_iff_eq.mpr c19
            have c19b1 : (a0 != 58) = false := bne_eq_false_iff_eq.mpr c19
            clear c19
            obtain rfl := Option.some.inj H
            go_enter Try.func24, Try.ntmps24
            go_wp2
            go_ret
            exact ⟨by first | rfl | (simp; done) | (simp [*]; done), by repeat (first | exact Drawn0.refl _ | apply Drawn0.step)⟩
          · rw [if_neg c19] at H
            have c19b0 : (a0 == 58) = false := beq_eq_false_iff_ne.mpr c19
            have c19b1 : (a0 != 58) = true := bne_iff_ne.mpr c19
            by_cases c20 : a0 ≥ 192
            · rw [if_pos c20] at H
              have c20b0 : decide (192 ≤ a0) = true := decide_eq_true c20
              clear c20
              by_cases c21 : a0 ≤ 255
              · rw [if_pos c21] at H
                have c21b0 : decide (a0 ≤ 255) = true := decide_eq_true c21
                clear c21
                by_cases c22 : a0 = 215
                · rw [if_pos c22] at H
                  have c22b0 : (a0 == 215) = true := beq_iff_eq.mpr c22
                  have c22b1 : (a0 != 215) = false := bne_eq_false_iff_eq.mpr c22
                  clear c22
                  obtain rfl := Option.some.inj H
                  go_enter Try.func24, Try.ntmps24
                  go_wp2
                  go_ret
                  exact ⟨by first | rfl | (simp; done) | (simp [*]; done), by repeat (first | exact Drawn0.refl _ | apply Drawn0.step)⟩
                · rw [if_neg c22] at H
                  have c22b0 : (a0 == 215) = false := beq_eq_false_iff_ne.mpr c22
                  have c22b1 : (a0 != 215) = true := bne_iff_ne.mpr c22
                  obtain rfl := Option.some.inj H
                  go_enter Try.func24, Try.ntmps24
                  go_wp2
                  go_ret
                  exact ⟨by first | rfl | (simp; done) | (simp [*]; done), by repeat (first | exact Drawn0.refl _ | apply Drawn0.step)⟩
              · rw [if_neg c21] at H
                have c21b0 : decide (a0 ≤ 255) = false := decide_eq_false c21
                clear c21
                obtain rfl := Option.some.inj H
                go_enter Try.func24, Try.ntmps24
                go_wp2
                go_ret
                exact ⟨by first | rfl | (simp; done) | (simp [*]; done), by repeat (first | exact Drawn0.refl _ | apply Drawn0.step)⟩
            · rw [if_neg c20] at H
              have c20b0 : decide (192 ≤ a0) = false := decide_eq_false c20
              clear c20
              obtain rfl := Option.some.inj H
              go_enter Try.func24, Try.ntmps24
              go_wp2
              go_ret
              exact ⟨by first | rfl | (simp; done) | (simp [*]; done), by repeat (first | exact Drawn0.refl _ | apply Drawn0.step)⟩
    · rw [if_neg c16] at H
      have c16b0 : decide (65 ≤ a0) = false := decide_eq_false c16
      clear c16
      by_cases c23 : a0 = 95
      · rw [if_pos c23] at H
        have c23b0 : (a0 == 95) = true := beq_iff_eq.mpr c23
        have c23b1 : (a0 != 95) = false := bne_eq_false_iff_eq.mpr c23
        clear c23
        obtain rfl := Option.some.inj H
        go_enter Try.func24, Try.ntmps24
        go_wp2
        go_ret
        exact ⟨by first | rfl | (simp; done) | (simp [*]; done), by repeat (first | exact Drawn0.refl _ | apply Drawn0.step)⟩
      · rw [if_neg c23] at H
        have c23b0 : (a0 == 95) = false := beq_eq_false_iff_ne.mpr c23
        have c23b1 : (a0 != 95) = true := bne_iff_ne.mpr c23
        by_cases c24 : a0 = 58
        · rw [if_pos c24] at H
          have c24b0 : (a0 == 58) = true := beq_iff_eq.mpr c24
          have c24b1 : (a0 != 58) = false := bne_eq_false_iff_eq.mpr c24
          clear c24
          obtain rfl := Option.some.inj H
          go_enter Try.func24, Try.ntmps24
          go_wp2
          go_ret
          exact ⟨by first | rfl | (simp; done) | (simp [*]; done), by repeat (first | exact Drawn0.refl _ | apply Drawn0.step)⟩
        · rw [if_neg c24] at H
          have c24b0 : (a0 == 58) = false := beq_eq_false_iff_ne.mpr c24
          have c24b1 : (a0 != 58) = true := bne_iff_ne.mpr c24
          by_cases c25 : a0 ≥ 192
          · rw [if_pos c25] at H
            have c25b0 : decide (192 ≤ a0) = true := decide_eq_true c25
            clear c25
            by_cases c26 : a0 ≤ 255
            · rw [if_pos c26] at H
              have c26b0 : decide (a0 ≤ 255) = true := decide_eq_true c26
              clear c26
              by_cases c27 : a0 = 215
              · rw [if_pos c27] at H
                have c27b0 : (a0 == 215) = true := beq_iff_eq.mpr c27
                have c27b1 : (a0 != 215) = false := bne_eq_false_iff_eq.mpr c27
                clear c27
                obtain rfl := Option.some.inj H
                go_enter Try.func24, Try.ntmps24
                go_wp2
                go_ret
                exact ⟨by first | rfl | (simp; done) | (simp [*]; done), by repeat (first | exact Drawn0.refl _ | apply Drawn0.step)⟩
              · rw [if_neg c27] at H
                have c27b0 : (a0 == 215) = false := beq_eq_false_iff_ne.mpr c27
                have c27b1 : (a0 != 215) = true := bne_iff_ne.mpr c27
                obtain rfl := Option.some.inj H
                go_enter Try.func24, Try.ntmps24
                go_wp2
                go_ret
                exact ⟨by first | rfl | (simp; done) | (simp [*]; done), by repeat (first | exact Drawn0.refl _ | apply Drawn0.step)⟩
            · rw [if_neg c26] at H
              have c26b0 : decide (a0 ≤ 255) = false := decide_eq_false c26
              clear c26
              obtain rfl := Option.some.inj H
              go_enter Try.func24, Try.ntmps24
              go_wp2
              go_ret
              exact ⟨by first | rfl | (simp; done) | (simp [*]; done), by repeat (first | exact Drawn0.refl _ | apply Drawn0.step)⟩
          · rw [if_neg c25] at H
            have c25b0 : decide (192 ≤ a0) = false := decide_eq_false c25
            clear c25
            obtain rfl := Option.some.inj H
            go_enter Try.func24, Try.ntmps24
            go_wp2
            go_ret
            exact ⟨by first | rfl | (simp; done) | (simp [*]; done), by repeat (first | exact Drawn0.refl _ | apply Drawn0.step)⟩

/-! ### spec_continues: function 19 -/
def spec_continues.f (a0 : Int) : Option (Bool) := (spec_begins.f a0).bind fun t102 => (if t102 = true then (some true) else (if a0 ≥ 48 then (if a0 ≤ 57 then (some true) else (if a0 = 45 then (some true) else (if a0 = 46 then (some true) else (some (a0 == 183))))) else (if a0 = 45 then (some true) else (if a0 = 46 then (some true) else (some (a0 == 183))))))
set_option maxHeartbeats 8000000 in
set_option maxRecDepth 100000 in
theorem spec_continues.calls (a0 : Int) (r : Bool) (w : World) (h : spec_continues.f a0 = some r) :
    Calls Try.prog 19 #[.int .i64 a0] w fun e w' => e = .returned (.bool r) ∧ Drawn0 w w' := by
  have H : ((spec_begins.f a0).bind fun t102 => (if t102 = true then (some true) else (if a0 ≥ 48 then (if a0 ≤ 57 then (some true) else (if a0 = 45 then (some true) else (if a0 = 46 then (some true) else (some (a0 == 183))))) else (if a0 = 45 then (some true) else (if a0 = 46 then (some true) else (some (a0 == 183))))))) = some r := h
  clear h
  replace H := Option.bind_eq_some_iff.mp H
  obtain ⟨t102, A20, H⟩ := H
  replace H : (if t102 = true then (some true) else (if a0 ≥ 48 then (if a0 ≤ 57 then (some true) else (if a0 = 45 then (some true) else (if a0 = 46 then (some true) else (some (a0 == 183))))) else (if a0 = 45 then (some true) else (if a0 = 46 then (some true) else (some (a0 == 183)))))) = some r := H
  have A2 := Aside0.mk A20
  clear A20
  by_cases c3 : t102 = true
  · subst c3
    have H1 : (some true) = some r := by rw [if_pos rfl] at H; exact H
    clear H
    have H := H1
    clear H1
    obtain rfl := Option.some.inj H
    go_enter Try.func19, Try.ntmps19
    go_wp2_with (first | ((with_reducible refine gate_callee (f := 24) rfl ?_); refine goesL_ (some 4) rfl rfl Try.func24 (by kernel_rfl) rfl #[.int .i64 a0] rfl (by (try simp only [List.map_toArray, List.map_cons, List.map_nil]); first | done | rfl | (simp only [List.length_drop, List.length_take]; rfl)) ?_; (with_reducible refine (spec_begins.calls a0 true _ A2.out).mono ?_); rintro e w' ⟨rfl, ⟨nd, rfl⟩⟩; refine ⟨_, rfl, ?_⟩))
    go_ret
    exact ⟨by first | rfl | (simp; done) | (simp [*]; done), by repeat (first | exact Drawn0.refl _ | apply Drawn0.step)⟩
  · replace c3 := Bool.eq_false_iff.mpr c3
    subst c3
    have H1 : (if a0 ≥ 48 then (if a0 ≤ 57 then (some true) else (if a0 = 45 then (some true) else (if a0 = 46 then (some true) else (some (a0 == 183))))) else (if a0 = 45 then (some true) else (if a0 = 46 then (some true) else (some (a0 == 183))))) = some r := by rw [if_neg (show ¬ (false = true) by decide)] at H; exact H
    clear H
    have H := H1
    clear H1
    by_cases c4 : a0 ≥ 48
    · rw [if_pos c4] at H
      have c4b0 : decide (48 ≤ a0) = true := decide_eq_true c4
      clear c4
      by_cases c5 : a0 ≤ 57
      · rw [if_pos c5] at H
        have c5b0 : decide (a0 ≤ 57) = true := decide_eq_true c5
        clear c5
        obtain rfl := Option.some.inj H
        go_enter Try.func19, Try.ntmps19
        go_wp2_with (first | ((with_reducible refine gate_callee (f := 24) rfl ?_); refine goesL_ (some 4) rfl rfl Try.func24 (by kernel_rfl) rfl #[.int .i64 a0] rfl (by (try simp only [List.map_toArray, List.map_cons, List.map_nil]); first | done | rfl | (simp only [List.length_drop, List.length_take]; rfl)) ?_; (with_reducible refine (spec_begins.calls a0 false _ A2.out).mono ?_); rintro e w' ⟨rfl, ⟨nd, rfl⟩⟩; refine ⟨_, rfl, ?_⟩))
        go_ret
        exact ⟨by first | rfl | (simp; done) | (simp [*]; done), by repeat (first | exact Drawn0.refl _ | apply Drawn0.step)⟩
      · rw [if_neg c5] at H
        have c5b0 : decide (a0 ≤ 57) = false := decide_eq_false c5
        clear c5
        by_cases c6 : a0 = 45
        · rw [if_pos c6] at H
          have c6b0 : (a0 == 45) = true := beq_iff_eq.mpr c6
          have c6b1 : (a0 != 45) = false := bne_eq_false_iff_eq.mpr c6
          clear c6
          obtain rfl := Option.some.inj H
          go_enter Try.func19, Try.ntmps19
          go_wp2_with (first | ((with_reducible refine gate_callee (f := 24) rfl ?_); refine goesL_ (some 4) rfl rfl Try.func24 (by kernel_rfl) rfl #[.int .i64 a0] rfl (by (try simp only [List.map_toArray, List.map_cons, List.map_nil]); first | done | rfl | (simp only [List.length_drop, List.length_take]; rfl)) ?_; (with_reducible refine (spec_begins.calls a0 false _ A2.out).mono ?_); rintro e w' ⟨rfl, ⟨nd, rfl⟩⟩; refine ⟨_, rfl, ?_⟩))
          go_ret
          exact ⟨by first | rfl | (simp; done) | (simp [*]; done), by repeat (first | exact Drawn0.refl _ | apply Drawn0.step)⟩
        · rw [if_neg c6] at H
          have c6b0 : (a0 == 45) = false := beq_eq_false_iff_ne.mpr c6
          have c6b1 : (a0 != 45) = true := bne_iff_ne.mpr c6
          by_cases c7 : a0 = 46
          · rw [if_pos c7] at H
            have c7b0 : (a0 == 46) = true := beq_iff_eq.mpr c7
            have c7b1 : (a0 != 46) = false := bne_eq_false_iff_eq.mpr c7
            clear c7
            obtain rfl := Option.some.inj H
            go_enter Try.func19, Try.ntmps19
            go_wp2_with (first | ((with_reducible refine gate_callee (f := 24) rfl ?_); refine goesL_ (some 4) rfl rfl Try.func24 (by kernel_rfl) rfl #[.int .i64 a0] rfl (by (try simp only [List.map_toArray, List.map_cons, List.map_nil]); first | done | rfl | (simp only [List.length_drop, List.length_take]; rfl)) ?_; (with_reducible refine (spec_begins.calls a0 false _ A2.out).mono ?_); rintro e w' ⟨rfl, ⟨nd, rfl⟩⟩; refine ⟨_, rfl, ?_⟩))
            go_ret
            exact ⟨by first | rfl | (simp; done) | (simp [*]; done), by repeat (first | exact Drawn0.refl _ | apply Drawn0.step)⟩
          · rw [if_neg c7] at H
            have c7b0 : (a0 == 46) = false := beq_eq_false_iff_ne.mpr c7
            have c7b1 : (a0 != 46) = true := bne_iff_ne.mpr c7
            obtain rfl := Option.some.inj H
            go_enter Try.func19, Try.ntmps19
            go_wp2_with (first | ((with_reducible refine gate_callee (f := 24) rfl ?_); refine goesL_ (some 4) rfl rfl Try.func24 (by kernel_rfl) rfl #[.int .i64 a0] rfl (by (try simp only [List.map_toArray, List.map_cons, List.map_nil]); first | done | rfl | (simp only [List.length_drop, List.length_take]; rfl)) ?_; (with_reducible refine (spec_begins.calls a0 false _ A2.out).mono ?_); rintro e w' ⟨rfl, ⟨nd, rfl⟩⟩; refine ⟨_, rfl, ?_⟩))
            go_ret
            exact ⟨by first | rfl | (simp; done) | (simp [*]; done), by repeat (first | exact Drawn0.refl _ | apply Drawn0.step)⟩
    · rw [if_neg c4] at H
      have c4b0 : decide (48 ≤ a0) = false := decide_eq_false c4
      clear c4
      by_cases c8 : a0 = 45
      · rw [if_pos c8] at H
        have c8b0 : (a0 == 45) = true := beq_iff_eq.mpr c8
        have c8b1 : (a0 != 45) = false := bne_eq_false_iff_eq.mpr c8
        clear c8
        obtain rfl := Option.some.inj H
        go_enter Try.func19, Try.ntmps19
        go_wp2_with (first | ((with_reducible refine gate_callee (f := 24) rfl ?_); refine goesL_ (some 4) rfl rfl Try.func24 (by kernel_rfl) rfl #[.int .i64 a0] rfl (by (try simp only [List.map_toArray, List.map_cons, List.map_nil]); first | done | rfl | (simp only [List.length_drop, List.length_take]; rfl)) ?_; (with_reducible refine (spec_begins.calls a0 false _ A2.out).mono ?_); rintro e w' ⟨rfl, ⟨nd, rfl⟩⟩; refine ⟨_, rfl, ?_⟩))
        go_ret
        exact ⟨by first | rfl | (simp; done) | (simp [*]; done), by repeat (first | exact Drawn0.refl _ | apply Drawn0.step)⟩
      · rw [if_neg c8] at H
        have c8b0 : (a0 == 45) = false := beq_eq_false_iff_ne.mpr c8
        have c8b1 : (a0 != 45) = true := bne_iff_ne.mpr c8
        by_cases c9 : a0 = 46
        · rw [if_pos c9] at H
          have c9b0 : (a0 == 46) = true := beq_iff_eq.mpr c9
          have c9b1 : (a0 != 46) = false := bne_eq_false_iff_eq.mpr c9
          clear c9
          obtain rfl := Option.some.inj H
          go_enter Try.func19, Try.ntmps19
          go_wp2_with (first | ((with_reducible refine gate_callee (f := 24) rfl ?_); refine goesL_ (some 4) rfl rfl Try.func24 (by kernel_rfl) rfl #[.int .i64 a0] rfl (by (try simp only [List.map_toArray, List.map_cons, List.map_nil]); first | done | rfl | (simp only [List.length_drop, List.length_take]; rfl)) ?_; (with_reducible refine (spec_begins.calls a0 false _ A2.out).mono ?_); rintro e w' ⟨rfl, ⟨nd, rfl⟩⟩; refine ⟨_, rfl, ?_⟩))
          go_ret
          exact ⟨by first | rfl | (simp; done) | (simp [*]; done), by repeat (first | exact Drawn0.refl _ | apply Drawn0.step)⟩
        · rw [if_neg c9] at H
          have c9b0 : (a0 == 46) = false := beq_eq_false_iff_ne.mpr c9
          have c9b1 : (a0 != 46) = true := bne_iff_ne.mpr c9
          obtain rfl := Option.some.inj H
          go_enter Try.func19, Try.ntmps19
          go_wp2_with (first | ((with_reducible refine gate_callee (f := 24) rfl ?_); refine goesL_ (some 4) rfl rfl Try.func24 (by kernel_rfl) rfl #[.int .i64 a0] rfl (by (try simp only [List.map_toArray, List.map_cons, List.map_nil]); first | done | rfl | (simp only [List.length_drop, List.length_take]; rfl)) ?_; (with_reducible refine (spec_begins.calls a0 false _ A2.out).mono ?_); rintro e w' ⟨rfl, ⟨nd, rfl⟩⟩; refine ⟨_, rfl, ?_⟩))
          go_ret
          exact ⟨by first | rfl | (simp; done) | (simp [*]; done), by repeat (first | exact Drawn0.refl _ | apply Drawn0.step)⟩

/-! ### spec_pseudo: function 20 -/
def spec_pseudo.f (a0 : Int) : Option (ByteArray) := (some (([(⟨#[118, 101, 114, 115, 105, 111, 110]⟩ : ByteArray), (⟨#[101, 110, 99, 111, 100, 105, 110, 103]⟩ : ByteArray), (⟨#[115, 116, 97, 110, 100, 97, 108, 111, 110, 101]⟩ : ByteArray)] : List ByteArray) : List ByteArray)).bind fun y103 => (if 0 ≤ (Int.tmod (wrap64 ((Int.tmod a0 3) + 3)) 3) then (if (Int.tmod (wrap64 ((Int.tmod a0 3) + 3)) 3) < (y103.length : Int) then (some (rdOf ByteArray.empty y103 (Int.tmod (wrap64 ((Int.tmod a0 3) + 3)) 3))) else (none)) else (none))
set_option maxHeartbeats 8000000 in
set_option maxRecDepth 100000 in
theorem spec_pseudo.calls (a0 : Int) (r : ByteArray) (w : World) (h : spec_pseudo.f a0 = some r) :
    Calls Try.prog 20 #[.int .i64 a0] w fun e w' => e = .returned (.string r) ∧ Below w.heap.size w w' := by
  have HB := Aside0.mk (Below.refl w.heap.size w)
  have H : ((some (([(⟨#[118, 101, 114, 115, 105, 111, 110]⟩ : ByteArray), (⟨#[101, 110, 99, 111, 100, 105, 110, 103]⟩ : ByteArray), (⟨#[115, 116, 97, 110, 100, 97, 108, 111, 110, 101]⟩ : ByteArray)] : List ByteArray) : List ByteArray)).bind fun y103 => (if 0 ≤ (Int.tmod (wrap64 ((Int.tmod a0 3) + 3)) 3) then (if (Int.tmod (wrap64 ((Int.tmod a0 3) + 3)) 3) < (y103.length : Int) then (some (rdOf ByteArray.empty y103 (Int.tmod (wrap64 ((Int.tmod a0 3) + 3)) 3))) else (none)) else (none))) = some r := h
  clear h
  obtain ⟨y103, hy103⟩ : ∃ y_ : List ByteArray, y_ = (([(⟨#[118, 101, 114, 115, 105, 111, 110]⟩ : ByteArray), (⟨#[101, 110, 99, 111, 100, 105, 110, 103]⟩ : ByteArray), (⟨#[115, 116, 97, 110, 100, 97, 108, 111, 110, 101]⟩ : ByteArray)] : List ByteArray)) := ⟨_, rfl⟩
  replace H : (if 0 ≤ (Int.tmod (wrap64 ((Int.tmod a0 3) + 3)) 3) then (if (Int.tmod (wrap64 ((Int.tmod a0 3) + 3)) 3) < (y103.length : Int) then (some (rdOf ByteArray.empty y103 (Int.tmod (wrap64 ((Int.tmod a0 3) + 3)) 3))) else (none)) else (none)) = some r := by first | (rw [hy103]; with_reducible exact H) | (have H2_ := (Option.bind_some _ _).symm.trans H; rw [hy103]; with_reducible exact H2_) | (have H2_ := (Option.bind_some _ _).symm.trans H; with_reducible exact H2_) | with_reducible exact H | (rw [hy103]; exact H) | exact H
  have Ny103 := Aside0.mk hy103
  clear hy103
  obtain ⟨ji2, hji2⟩ : ∃ j_ : Int, (Int.tmod (wrap64 ((Int.tmod a0 3) + 3)) 3) = j_ := ⟨_, rfl⟩
  replace H : (if 0 ≤ (ji2) then (if (ji2) < (y103.length : Int) then (some (rdOf ByteArray.empty y103 (ji2))) else (none)) else (none)) = some r := by first | (rw [hji2] at H; exact H) | (simp only [hji2] at H ⊢; exact H)
  by_cases c3 : 0 ≤ (ji2)
  · rw [if_pos c3] at H
    have c3b0 : decide (0 ≤ (ji2)) = true := decide_eq_true c3
    clear c3
    by_cases c4 : (ji2) < (y103.length : Int)
    · rw [if_pos c4] at H
      have c4b0 : decide ((ji2) < (y103.length : Int)) = true := decide_eq_true c4
      clear c4
      obtain rfl := Option.some.inj H
      go_enter Try.func20, Try.ntmps20
      go_wp2_with (first | ((with_reducible refine gate_dst (N := 3) rfl ?_); refine Kd.R_lit Kd.string _ 9 ?hg (N := 3) ?hd (xs := ([(⟨#[118, 101, 114, 115, 105, 111, 110]⟩ : ByteArray), (⟨#[101, 110, 99, 111, 100, 105, 110, 103]⟩ : ByteArray), (⟨#[115, 116, 97, 110, 100, 97, 108, 111, 110, 101]⟩ : ByteArray)] : List ByteArray)) (inner := [.string (⟨#[118, 101, 114, 115, 105, 111, 110]⟩ : ByteArray), .string (⟨#[101, 110, 99, 111, 100, 105, 110, 103]⟩ : ByteArray), .string (⟨#[115, 116, 97, 110, 100, 97, 108, 111, 110, 101]⟩ : ByteArray)]) (ok := fun _ => True) (okp := fun _ => True) ?hr ?hp (fun _ hk => hk) trivial (Below.refl _ _) (Nat.le_refl _) (by simp) ?_; (case hd => rfl); (case hg => rfl); (case hr => first | (go_simp; done) | (go_simp; rfl)); (case hp => exact (Reps.one (show Kd.M Kd.string _ _ _ (⟨#[118, 101, 114, 115, 105, 111, 110]⟩ : ByteArray) [.string (⟨#[118, 101, 114, 115, 105, 111, 110]⟩ : ByteArray)] from rfl) (Reps.one (show Kd.M Kd.string _ _ _ (⟨#[101, 110, 99, 111, 100, 105, 110, 103]⟩ : ByteArray) [.string (⟨#[101, 110, 99, 111, 100, 105, 110, 103]⟩ : ByteArray)] from rfl) (Reps.one (show Kd.M Kd.string _ _ _ (⟨#[115, 116, 97, 110, 100, 97, 108, 111, 110, 101]⟩ : ByteArray) [.string (⟨#[115, 116, 97, 110, 100, 97, 108, 111, 110, 101]⟩ : ByteArray)] from rfl) (Reps.none _ _))))); intro v104 w5 ho6 hb hg_ hnew_; clear hg_ hnew_; (first | rw [← Ny103.out] at ho6 | (simp only [Int.reduceToNat] at ho6; rw [← Ny103.out] at ho6)); have n0_ := Aside0.mk (Kd.R_lower ho6 (below_size (by repeat (first | (with_reducible first | exact HB.out | apply below_alloc | apply pw_below_drewN | apply below_drew1) | exact HB.out)))); have n1_ := Aside0.mk (below_step (by repeat (first | (with_reducible first | exact HB.out | apply below_alloc | apply pw_below_drewN | apply below_drew1) | exact HB.out)) hb); clear HB; have HO105 := n0_; have HB := n1_; clear n0_ n1_; clear hb ho6; obtain ⟨Ao7, co7, eo7⟩ := Kd.R_slice HO105.out; subst eo7; have p106 : 0 ≤ ((ji2) : Int) := of_decide_eq_true (by first | (with_reducible assumption) | assumption); have q106 : (ji2) < (y103.length : Int) := of_decide_eq_true (by first | (with_reducible assumption) | assumption); obtain ⟨ad106, e106, hx106_0⟩ := Kd.at_string (Kd.R_reads' HO105.out).2.2 (ji2) p106 q106; cases e106; replace p106 := eq_true p106; replace q106 := eq_true q106))
      go_ret
      exact ⟨by first | rfl | (simp [errW_none, errW_some] <;> rfl) | (simp only [← hji2]; first | rfl | (simp [errW_none, errW_some] <;> rfl)) | (simp [*, errW_none, errW_some] <;> rfl), by repeat (first | (with_reducible first | exact HB.out | apply below_alloc | apply pw_below_drewN | apply below_drew1) | exact HB.out)⟩
    · rw [if_neg c4] at H
      exact absurd H (by simp)
  · rw [if_neg c3] at H
    exact absurd H (by simp)

-- NOT PRINTED: function 12 (spec_Declared)

/-! ### xml_zzIndex: function 26 -/
def xml_zzIndex.l0 : Nat → ByteArray → ByteArray → Int → Option (Int)
  | 0, _, _, _ => none
  | k + 1, x0, x1, x5 => if (wrap64 (x5 + (x1.size : Int))) ≤ (x0.size : Int) then (if 0 ≤ x5 then (if x5 ≤ (wrap64 (x5 + (x1.size : Int))) then (if (x0.extract (x5 : Int).toNat ((wrap64 (x5 + (x1.size : Int))) : Int).toNat).toList = x1.toList then (some x5) else (xml_zzIndex.l0 k x0 x1 (wrap64 (x5 + 1)))) else (none)) else (none)) else (some (-1))
def xml_zzIndex.f (k : Nat) (a0 : ByteArray) (a1 : ByteArray) : Option (Int) := xml_zzIndex.l0 k a0 a1 0
theorem xml_zzIndex.mono_l : ∀ k, (∀ y0 y1 y2, LeO (xml_zzIndex.l0 k y0 y1 y2) (xml_zzIndex.l0 (k + 1) y0 y1 y2))
  | 0 => fun _ _ _ r h => by simp [xml_zzIndex.l0] at h
  | k + 1 => by
    have ih0 := xml_zzIndex.mono_l k
    · intro y0 y1 y2
      unfold xml_zzIndex.l0
      repeat' first
      | (with_reducible exact ih0 _ _ _)
      | (with_reducible exact LeO.refl _)
      | (with_reducible exact LeO.none _)
      | (with_reducible refine LeO.ite ?_ ?_)
      | (with_reducible refine LeO.bind ?_ (fun _ => ?_))
      | exact ih0 _ _ _
      | exact LeO.none _
      | refine LeO.ite ?_ ?_
      | refine LeO.bind ?_ (fun _ => ?_)
theorem xml_zzIndex.mono : ∀ a0 a1 k, LeO (xml_zzIndex.f k a0 a1) (xml_zzIndex.f (k + 1) a0 a1) := by
  intro a0 a1 k
  have ih0 := xml_zzIndex.mono_l k
  unfold xml_zzIndex.f
  repeat' first
      | (with_reducible exact ih0 _ _ _)
      | (with_reducible exact LeO.refl _)
      | (with_reducible exact LeO.none _)
      | (with_reducible refine LeO.ite ?_ ?_)
      | (with_reducible refine LeO.bind ?_ (fun _ => ?_))
      | exact ih0 _ _ _
      | exact LeO.none _
      | refine LeO.ite ?_ ?_
      | refine LeO.bind ?_ (fun _ => ?_)
set_option maxHeartbeats 8000000 in
set_option maxRecDepth 100000 in
theorem xml_zzIndex.calls (k : Nat) (a0 : ByteArray) (a1 : ByteArray) (r : Int) (w : World) (h : xml_zzIndex.f k a0 a1 = some r) :
    Calls Try.prog 26 #[.string a0, .string a1] w fun e w' => e = .returned (.int .i64 r) ∧ Drawn0 w w' := by
  have H : (xml_zzIndex.l0 k a0 a1 0) = some r := h
  clear h
  have H' := Aside0.mk H
  clear H
  go_enter Try.func26, Try.ntmps26
  go_wp2
  go_loopg [5] k (fun kq v5 w' => ∃ (x5_1 : Int), v5 = .int .i64 x5_1 ∧ Aside0 (xml_zzIndex.l0 kq a0 a1 x5_1 = some r) ∧ Aside0 (kq ≤ k) ∧ Drawn0 w w')
  case atStart => exact ⟨(0), (by first | rfl | (simp; done) | (simp [*]; done)), H', ⟨Nat.le_refl _⟩, by repeat (first | exact Drawn0.refl _ | apply Drawn0.step)⟩
  case round =>
    clear H'
    try clear c2
    try clear p2
    obtain ⟨x5_1, rfl, HA, HK1, ⟨m1, rfl⟩⟩ := hrel
    cases gk with
    | zero => exact absurd HA.out (by simp [xml_zzIndex.l0])
    | succ k1 =>
      have H := HA.out
      clear HA
      simp only [xml_zzIndex.l0] at H
      by_cases c3 : (wrap64 (x5_1 + (a1.size : Int))) ≤ (a0.size : Int)
      · rw [if_pos c3] at H
        have c3b0 : decide ((wrap64 (x5_1 + (a1.size : Int))) ≤ (a0.size : Int)) = true := decide_eq_true c3
        clear c3
        by_cases c4 : 0 ≤ x5_1
        · rw [if_pos c4] at H
          have c4b0 := eq_true c4
          have c4b1 : decide (0 ≤ x5_1) = true := decide_eq_true c4
          clear c4
          by_cases c5 : x5_1 ≤ (wrap64 (x5_1 + (a1.size : Int)))
          · rw [if_pos c5] at H
            have c5b0 := eq_true c5
            have c5b1 : decide (x5_1 ≤ (wrap64 (x5_1 + (a1.size : Int)))) = true := decide_eq_true c5
            have c6b0 := eq_true (of_decide_eq_true (by first | (with_reducible assumption) | assumption) : (wrap64 (x5_1 + (a1.size : Int))) ≤ (a0.size : Int))
            by_cases c7 : (a0.extract (x5_1 : Int).toNat ((wrap64 (x5_1 + (a1.size : Int))) : Int).toNat).toList = a1.toList
            · rw [if_pos c7] at H
              have c7b0 : ((a0.extract (x5_1 : Int).toNat ((wrap64 (x5_1 + (a1.size : Int))) : Int).toNat).toList == a1.toList) = true := beq_iff_eq.mpr c7
              have c7b1 : ((a0.extract (x5_1 : Int).toNat ((wrap64 (x5_1 + (a1.size : Int))) : Int).toNat).toList != a1.toList) = false := bne_eq_false_iff_eq.mpr c7
              clear c7
              obtain rfl := Option.some.inj H
              go_wp2
              go_ret
              exact ⟨by first | rfl | (simp; done) | (simp [*]; done), by repeat (first | exact Drawn0.refl _ | apply Drawn0.step)⟩
            · rw [if_neg c7] at H
              have c7b0 : ((a0.extract (x5_1 : Int).toNat ((wrap64 (x5_1 + (a1.size : Int))) : Int).toNat).toList == a1.toList) = false := beq_eq_false_iff_ne.mpr c7
              have c7b1 : ((a0.extract (x5_1 : Int).toNat ((wrap64 (x5_1 + (a1.size : Int))) : Int).toNat).toList != a1.toList) = true := bne_iff_ne.mpr c7
              have H' := Aside0.mk H
              clear H
              go_wp2
              go_roundg k1
              case measure => have := HK1.out; omega
              case rel => exact ⟨(wrap64 (x5_1 + 1)), (by first | rfl | (simp; done) | (simp [*]; done)), H', ⟨by have := HK1.out; omega⟩, by repeat (first | exact Drawn0.refl _ | apply Drawn0.step)⟩
          · rw [if_neg c5] at H
            exact absurd H (by simp)
        · rw [if_neg c4] at H
          exact absurd H (by simp)
      · rw [if_neg c3] at H
        have c3b0 : decide ((wrap64 (x5_1 + (a1.size : Int))) ≤ (a0.size : Int)) = false := decide_eq_false c3
        clear c3
        obtain rfl := Option.some.inj H
        go_wp2
        go_ret
        exact ⟨by first | rfl | (simp; done) | (simp [*]; done), by repeat (first | exact Drawn0.refl _ | apply Drawn0.step)⟩

-- NOT PRINTED: function 29 (bytealg_IndexByteString)

-- NOT PRINTED: function 28 (stringslite_IndexByte)

-- NOT PRINTED: function 27 (strings_IndexByte)

-- NOT PRINTED: function 25 (xml_procInst)

-- NOT PRINTED: function 21 (xml_ZZParam)

-- NOT PRINTED: function 13 (impl_Param)

/-! ### spec_Pseudo: function 14 -/
def spec_Pseudo.f (a0 : Int) : Option (ByteArray) := (spec_pseudo.f a0).bind fun t108 => (some t108)
set_option maxHeartbeats 8000000 in
set_option maxRecDepth 100000 in
theorem spec_Pseudo.calls (a0 : Int) (r : ByteArray) (w : World) (h : spec_Pseudo.f a0 = some r) :
    Calls Try.prog 14 #[.int .i64 a0] w fun e w' => e = .returned (.string r) ∧ Below w.heap.size w w' := by
  have HB := Aside0.mk (Below.refl w.heap.size w)
  have H : ((spec_pseudo.f a0).bind fun t108 => (some t108)) = some r := h
  clear h
  replace H := Option.bind_eq_some_iff.mp H
  obtain ⟨t108, A20, H⟩ := H
  replace H : (some t108) = some r := H
  have A2 := Aside0.mk A20
  clear A20
  obtain rfl := Option.some.inj H
  go_enter Try.func14, Try.ntmps14
  go_wp2_with (first | ((with_reducible refine gate_callee (f := 20) rfl ?_); refine goesL_ (some 4) rfl rfl Try.func20 (by kernel_rfl) rfl #[.int .i64 a0] rfl (by (try simp only [List.map_toArray, List.map_cons, List.map_nil]); first | done | rfl | (simp only [List.length_drop, List.length_take]; rfl)) ?_; (with_reducible refine (spec_pseudo.calls a0 t108 _ A2.out).mono ?_); rintro e w3 ⟨rfl, hb⟩; refine ⟨_, rfl, ?_⟩; have n0_ := Aside0.mk (below_step (by repeat (first | (with_reducible first | exact HB.out | apply below_alloc | apply pw_below_drewN | apply below_drew1) | exact HB.out)) hb); clear HB; have HB := n0_; clear n0_; (try clear hb); (try clear hb2); (try clear hk); (try clear hi)))
  go_ret
  exact ⟨by first | rfl | (simp [errW_none, errW_some] <;> rfl) | (simp [*, errW_none, errW_some] <;> rfl), by repeat (first | (with_reducible first | exact HB.out | apply below_alloc | apply pw_below_drewN | apply below_drew1) | exact HB.out)⟩

-- NOT PRINTED: function 5 (laws_FnParam)

end Go.Proofs.Ytfcefkenpndblaa.PFnParam
