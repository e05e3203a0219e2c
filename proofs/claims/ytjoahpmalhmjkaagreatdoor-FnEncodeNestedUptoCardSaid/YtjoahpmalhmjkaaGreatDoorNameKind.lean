/- What is proved here: the walk of spec.NameKind (function NameKind): it returns what its printed form returns; no condition. Made by wip/tools/namekind.py out of the printed text. -/
import Derived.Test.YtjoahpmalhmjkaaGreatDoorPFnEncodeNestedx0
import Derived.Test.YtjoahpmalhmjkaaGreatDoorPFnEncodeNestedx2
namespace Go.Proofs.YtjoahpmalhmjkaaGreatDoor.PFnEncodeNested
open Go.RowKit Go.Proofs.YtjoahpmalhmjkaaGreatDoorW.PrintWords Go.Proofs.YtjoahpmalhmjkaaGreatDoorW.PrintLast Go.Proofs.YtjoahpmalhmjkaaGreatDoorW.PrintMore
attribute [local go_sem] max2_int min2_int max_two min_two max_three min_three max_four min_four   -- for this text's walks alone
set_option linter.unusedVariables false
set_option linter.unusedSimpArgs false

/-! ### spec_begins: function 30 -/
def spec_begins.f (a0 : Int) : Option (Bool) := if a0 ≥ 97 then (if a0 ≤ 122 then (some true) else (if a0 ≥ 65 then (if a0 ≤ 90 then (some true) else (if a0 = 95 then (some true) else (if a0 = 58 then (some true) else (if a0 ≥ 192 then (if a0 ≤ 255 then (if a0 = 215 then (some false) else (some (a0 != 247))) else (some false)) else (some false))))) else (if a0 = 95 then (some true) else (if a0 = 58 then (some true) else (if a0 ≥ 192 then (if a0 ≤ 255 then (if a0 = 215 then (some false) else (some (a0 != 247))) else (some false)) else (some false)))))) else (if a0 ≥ 65 then (if a0 ≤ 90 then (some true) else (if a0 = 95 then (some true) else (if a0 = 58 then (some true) else (if a0 ≥ 192 then (if a0 ≤ 255 then (if a0 = 215 then (some false) else (some (a0 != 247))) else (some false)) else (some false))))) else (if a0 = 95 then (some true) else (if a0 = 58 then (some true) else (if a0 ≥ 192 then (if a0 ≤ 255 then (if a0 = 215 then (some false) else (some (a0 != 247))) else (some false)) else (some false)))))
set_option maxHeartbeats 8000000 in
set_option maxRecDepth 100000 in
theorem spec_begins.calls (a0 : Int) (r : Bool) (w : World) (h : spec_begins.f a0 = some r) :
    Calls Tryz.prog 30 #[.int .i64 a0] w fun e w' => e = .returned (.bool r) ∧ Drawn0 w w' := by
  have H : (if a0 ≥ 97 then (if a0 ≤ 122 then (some true) else (if a0 ≥ 65 then (if a0 ≤ 90 then (some true) else (if a0 = 95 then (some true) else (if a0 = 58 then (some true) else (if a0 ≥ 192 then (if a0 ≤ 255 then (if a0 = 215 then (some false) else (some (a0 != 247))) else (some false)) else (some false))))) else (if a0 = 95 then (some true) else (if a0 = 58 then (some true) else (if a0 ≥ 192 then (if a0 ≤ 255 then (if a0 = 215 then (some false) else (some (a0 != 247))) else (some false)) else (some false)))))) else (if a0 ≥ 65 then (if a0 ≤ 90 then (some true) else (if a0 = 95 then (some true) else (if a0 = 58 then (some true) else (if a0 ≥ 192 then (if a0 ≤ 255 then (if a0 = 215 then (some false) else (some (a0 != 247))) else (some false)) else (some false))))) else (if a0 = 95 then (some true) else (if a0 = 58 then (some true) else (if a0 ≥ 192 then (if a0 ≤ 255 then (if a0 = 215 then (some false) else (some (a0 != 247))) else (some false)) else (some false)))))) = some r := h
  clear h
  by_cases c2 : a0 ≥ 97
  · rw [if_pos c2] at H
    have c2b0 : decide (97 ≤ a0) = true := decide_eq_true c2
    clear c2
    by_cases c3 : a0 ≤ 122
    · rw [if_pos c3] at H
      have c3b0 : decide (a0 ≤ 122) = true := decide_eq_true c3
      clear c3
      obtain rfl := Option.some.inj H
      go_enter Tryz.func30, Tryz.ntmps30
      go_wp2
      go_ret
      exact ⟨by first | rfl | (simp; done) | (simp [*]; done), by repeat (first | exact Drawn0.refl _ | apply Drawn0.step)⟩
    · rw [if_neg c3] at H
      have c3b0 : decide (a0 ≤ 122) = false := decide_eq_false c3
      clear c3
      by_cases c4 : a0 ≥ 65
      · rw [if_pos c4] at H
        have c4b0 : decide (65 ≤ a0) = true := decide_eq_true c4
        clear c4
        by_cases c5 : a0 ≤ 90
        · rw [if_pos c5] at H
          have c5b0 : decide (a0 ≤ 90) = true := decide_eq_true c5
          clear c5
          obtain rfl := Option.some.inj H
          go_enter Tryz.func30, Tryz.ntmps30
          go_wp2
          go_ret
          exact ⟨by first | rfl | (simp; done) | (simp [*]; done), by repeat (first | exact Drawn0.refl _ | apply Drawn0.step)⟩
        · rw [if_neg c5] at H
          have c5b0 : decide (a0 ≤ 90) = false := decide_eq_false c5
          clear c5
          by_cases c6 : a0 = 95
          · rw [if_pos c6] at H
            have c6b0 : (a0 == 95) = true := beq_iff_eq.mpr c6
            have c6b1 : (a0 != 95) = false := bne_eq_false_iff_eq.mpr c6
            clear c6
            obtain rfl := Option.some.inj H
            go_enter Tryz.func30, Tryz.ntmps30
            go_wp2
            go_ret
            exact ⟨by first | rfl | (simp; done) | (simp [*]; done), by repeat (first | exact Drawn0.refl _ | apply Drawn0.step)⟩
          · rw [if_neg c6] at H
            have c6b0 : (a0 == 95) = false := beq_eq_false_iff_ne.mpr c6
            have c6b1 : (a0 != 95) = true := bne_iff_ne.mpr c6
            by_cases c7 : a0 = 58
            · rw [if_pos c7] at H
              have c7b0 : (a0 == 58) = true := beq_iff_eq.mpr c7
              have c7b1 : (a0 != 58) = false := bne_eq_false_iff_eq.mpr c7
              clear c7
              obtain rfl := Option.some.inj H
              go_enter Tryz.func30, Tryz.ntmps30
              go_wp2
              go_ret
              exact ⟨by first | rfl | (simp; done) | (simp [*]; done), by repeat (first | exact Drawn0.refl _ | apply Drawn0.step)⟩
            · rw [if_neg c7] at H
              have c7b0 : (a0 == 58) = false := beq_eq_false_iff_ne.mpr c7
              have c7b1 : (a0 != 58) = true := bne_iff_ne.mpr c7
              by_cases c8 : a0 ≥ 192
              · rw [if_pos c8] at H
                have c8b0 : decide (192 ≤ a0) = true := decide_eq_true c8
                clear c8
                by_cases c9 : a0 ≤ 255
                · rw [if_pos c9] at H
                  have c9b0 : decide (a0 ≤ 255) = true := decide_eq_true c9
                  clear c9
                  by_cases c10 : a0 = 215
                  · rw [if_pos c10] at H
                    have c10b0 : (a0 == 215) = true := beq_iff_eq.mpr c10
                    have c10b1 : (a0 != 215) = false := bne_eq_false_iff_eq.mpr c10
                    clear c10
                    obtain rfl := Option.some.inj H
                    go_enter Tryz.func30, Tryz.ntmps30
                    go_wp2
                    go_ret
                    exact ⟨by first | rfl | (simp; done) | (simp [*]; done), by repeat (first | exact Drawn0.refl _ | apply Drawn0.step)⟩
                  · rw [if_neg c10] at H
                    have c10b0 : (a0 == 215) = false := beq_eq_false_iff_ne.mpr c10
                    have c10b1 : (a0 != 215) = true := bne_iff_ne.mpr c10
                    obtain rfl := Option.some.inj H
                    go_enter Tryz.func30, Tryz.ntmps30
                    go_wp2
                    go_ret
                    exact ⟨by first | rfl | (simp; done) | (simp [*]; done), by repeat (first | exact Drawn0.refl _ | apply Drawn0.step)⟩
                · rw [if_neg c9] at H
                  have c9b0 : decide (a0 ≤ 255) = false := decide_eq_false c9
                  clear c9
                  obtain rfl := Option.some.inj H
                  go_enter Tryz.func30, Tryz.ntmps30
                  go_wp2
                  go_ret
                  exact ⟨by first | rfl | (simp; done) | (simp [*]; done), by repeat (first | exact Drawn0.refl _ | apply Drawn0.step)⟩
              · rw [if_neg c8] at H
                have c8b0 : decide (192 ≤ a0) = false := decide_eq_false c8
                clear c8
                obtain rfl := Option.some.inj H
                go_enter Tryz.func30, Tryz.ntmps30
                go_wp2
                go_ret
                exact ⟨by first | rfl | (simp; done) | (simp [*]; done), by repeat (first | exact Drawn0.refl _ | apply Drawn0.step)⟩
      · rw [if_neg c4] at H
        have c4b0 : decide (65 ≤ a0) = false := decide_eq_false c4
        clear c4
        by_cases c11 : a0 = 95
        · rw [if_pos c11] at H
          have c11b0 : (a0 == 95) = true := beq_iff_eq.mpr c11
          have c11b1 : (a0 != 95) = false := bne_eq_false_iff_eq.mpr c11
          clear c11
          obtain rfl := Option.some.inj H
          go_enter Tryz.func30, Tryz.ntmps30
          go_wp2
          go_ret
          exact ⟨by first | rfl | (simp; done) | (simp [*]; done), by repeat (first | exact Drawn0.refl _ | apply Drawn0.step)⟩
        · rw [if_neg c11] at H
          have c11b0 : (a0 == 95) = false := beq_eq_false_iff_ne.mpr c11
          have c11b1 : (a0 != 95) = true := bne_iff_ne.mpr c11
          by_cases c12 : a0 = 58
          · rw [if_pos c12] at H
            have c12b0 : (a0 == 58) = true := beq_iff_eq.mpr c12
            have c12b1 : (a0 != 58) = false := bne_eq_false_iff_eq.mpr c12
            clear c12
            obtain rfl := Option.some.inj H
            go_enter Tryz.func30, Tryz.ntmps30
            go_wp2
            go_ret
            exact ⟨by first | rfl | (simp; done) | (simp [*]; done), by repeat (first | exact Drawn0.refl _ | apply Drawn0.step)⟩
          · rw [if_neg c12] at H
            have c12b0 : (a0 == 58) = false := beq_eq_false_iff_ne.mpr c12
            have c12b1 : (a0 != 58) = true := bne_iff_ne.mpr c12
            by_cases c13 : a0 ≥ 192
            · rw [if_pos c13] at H
              have c13b0 : decide (192 ≤ a0) = true := decide_eq_true c13
              clear c13
              by_cases c14 : a0 ≤ 255
              · rw [if_pos c14] at H
                have c14b0 : decide (a0 ≤ 255) = true := decide_eq_true c14
                clear c14
                by_cases c15 : a0 = 215
                · rw [if_pos c15] at H
                  have c15b0 : (a0 == 215) = true := beq_iff_eq.mpr c15
                  have c15b1 : (a0 != 215) = false := bne_eq_false_iff_eq.mpr c15
                  clear c15
                  obtain rfl := Option.some.inj H
                  go_enter Tryz.func30, Tryz.ntmps30
                  go_wp2
                  go_ret
                  exact ⟨by first | rfl | (simp; done) | (simp [*]; done), by repeat (first | exact Drawn0.refl _ | apply Drawn0.step)⟩
                · rw [if_neg c15] at H
                  have c15b0 : (a0 == 215) = false := beq_eq_false_iff_ne.mpr c15
                  have c15b1 : (a0 != 215) = true := bne_iff_ne.mpr c15
                  obtain rfl := Option.some.inj H
                  go_enter Tryz.func30, Tryz.ntmps30
                  go_wp2
                  go_ret
                  exact ⟨by first | rfl | (simp; done) | (simp [*]; done), by repeat (first | exact Drawn0.refl _ | apply Drawn0.step)⟩
              · rw [if_neg c14] at H
                have c14b0 : decide (a0 ≤ 255) = false := decide_eq_false c14
                clear c14
                obtain rfl := Option.some.inj H
                go_enter Tryz.func30, Tryz.ntmps30
                go_wp2
                go_ret
                exact ⟨by first | rfl | (simp; done) | (simp [*]; done), by repeat (first | exact Drawn0.refl _ | apply Drawn0.step)⟩
            · rw [if_neg c13] at H
              have c13b0 : decide (192 ≤ a0) = false := decide_eq_false c13
              clear c13
              obtain rfl := Option.some.inj H
              go_enter Tryz.func30, Tryz.ntmps30
              go_wp2
              go_ret
              exact ⟨by first | rfl | (simp; done) | (simp [*]; done), by repeat (first | exact Drawn0.refl _ | apply Drawn0.step)⟩
  · rw [if_neg c2] at H
    have c2b0 : decide (97 ≤ a0) = false := decide_eq_false c2
    clear c2
    by_cases c16 : a0 ≥ 65
    · rw [if_pos c16] at H
      have c16b0 : decide (65 ≤ a0) = true := decide_eq_true c16
      clear c16
      by_cases c17 : a0 ≤ 90
      · rw [if_pos c17] at H
        have c17b0 : decide (a0 ≤ 90) = true := decide_eq_true c17
        clear c17
        obtain rfl := Option.some.inj H
        go_enter Tryz.func30, Tryz.ntmps30
        go_wp2
        go_ret
        exact ⟨by first | rfl | (simp; done) | (simp [*]; done), by repeat (first | exact Drawn0.refl _ | apply Drawn0.step)⟩
      · rw [if_neg c17] at H
        have c17b0 : decide (a0 ≤ 90) = false := decide_eq_false c17
        clear c17
        by_cases c18 : a0 = 95
        · rw [if_pos c18] at H
          have c18b0 : (a0 == 95) = true := beq_iff_eq.mpr c18
          have c18b1 : (a0 != 95) = false := bne_eq_false_iff_eq.mpr c18
          clear c18
          obtain rfl := Option.some.inj H
          go_enter Tryz.func30, Tryz.ntmps30
          go_wp2
          go_ret
          exact ⟨by first | rfl | (simp; done) | (simp [*]; done), by repeat (first | exact Drawn0.refl _ | apply Drawn0.step)⟩
        · rw [if_neg c18] at H
          have c18b0 : (a0 == 95) = false := beq_eq_false_iff_ne.mpr c18
          have c18b1 : (a0 != 95) = true := bne_iff_ne.mpr c18
          by_cases c19 : a0 = 58
          · rw [if_pos c19] at H
            have c19b0 : (a0 == 58) = true := beq_iff_eq.mpr c19
            have c19b1 : (a0 != 58) = false := bne_eq_false_iff_eq.mpr c19
            clear c19
            obtain rfl := Option.some.inj H
            go_enter Tryz.func30, Tryz.ntmps30
            go_wp2
            go_ret
            exact ⟨by first | rfl | (simp; done) | (simp [*]; done), by repeat (first | exact Drawn0.refl _ | apply Drawn0.step)⟩
          · rw [if_neg c19] at H
            have c19b0 : (a0 == 58) = false := beq_eq_false_iff_ne.mpr c19
            have c19b1 : (a0 != 58) = true := bne_iff_ne.mpr c19
            by_cases c20 : a0 ≥ 192
            · rw [if_pos c20] at H
              have c20b0 : decide (192 ≤ a0) = true := decide_eq_true c20
              clear c20
              by_cases c21 : a0 ≤ 255
              · rw [if_pos c21] at H
                have c21b0 : decide (a0 ≤ 255) = true := decide_eq_true c21
                clear c21
                by_cases c22 : a0 = 215
                · rw [if_pos c22] at H
                  have c22b0 : (a0 == 215) = true := beq_iff_eq.mpr c22
                  have c22b1 : (a0 != 215) = false := bne_eq_false_iff_eq.mpr c22
                  clear c22
                  obtain rfl := Option.some.inj H
                  go_enter Tryz.func30, Tryz.ntmps30
                  go_wp2
                  go_ret
                  exact ⟨by first | rfl | (simp; done) | (simp [*]; done), by repeat (first | exact Drawn0.refl _ | apply Drawn0.step)⟩
                · rw [if_neg c22] at H
                  have c22b0 : (a0 == 215) = false := beq_eq_false_iff_ne.mpr c22
                  have c22b1 : (a0 != 215) = true := bne_iff_ne.mpr c22
                  obtain rfl := Option.some.inj H
                  go_enter Tryz.func30, Tryz.ntmps30
                  go_wp2
                  go_ret
                  exact ⟨by first | rfl | (simp; done) | (simp [*]; done), by repeat (first | exact Drawn0.refl _ | apply Drawn0.step)⟩
              · rw [if_neg c21] at H
                have c21b0 : decide (a0 ≤ 255) = false := decide_eq_false c21
                clear c21
                obtain rfl := Option.some.inj H
                go_enter Tryz.func30, Tryz.ntmps30
                go_wp2
                go_ret
                exact ⟨by first | rfl | (simp; done) | (simp [*]; done), by repeat (first | exact Drawn0.refl _ | apply Drawn0.step)⟩
            · rw [if_neg c20] at H
              have c20b0 : decide (192 ≤ a0) = false := decide_eq_false c20
              clear c20
              obtain rfl := Option.some.inj H
              go_enter Tryz.func30, Tryz.ntmps30
              go_wp2
              go_ret
              exact ⟨by first | rfl | (simp; done) | (simp [*]; done), by repeat (first | exact Drawn0.refl _ | apply Drawn0.step)⟩
    · rw [if_neg c16] at H
      have c16b0 : decide (65 ≤ a0) = false := decide_eq_false c16
      clear c16
      by_cases c23 : a0 = 95
      · rw [if_pos c23] at H
        have c23b0 : (a0 == 95) = true := beq_iff_eq.mpr c23
        have c23b1 : (a0 != 95) = false := bne_eq_false_iff_eq.mpr c23
        clear c23
        obtain rfl := Option.some.inj H
        go_enter Tryz.func30, Tryz.ntmps30
        go_wp2
        go_ret
        exact ⟨by first | rfl | (simp; done) | (simp [*]; done), by repeat (first | exact Drawn0.refl _ | apply Drawn0.step)⟩
      · rw [if_neg c23] at H
        have c23b0 : (a0 == 95) = false := beq_eq_false_iff_ne.mpr c23
        have c23b1 : (a0 != 95) = true := bne_iff_ne.mpr c23
        by_cases c24 : a0 = 58
        · rw [if_pos c24] at H
          have c24b0 : (a0 == 58) = true := beq_iff_eq.mpr c24
          have c24b1 : (a0 != 58) = false := bne_eq_false_iff_eq.mpr c24
          clear c24
          obtain rfl := Option.some.inj H
          go_enter Tryz.func30, Tryz.ntmps30
          go_wp2
          go_ret
          exact ⟨by first | rfl | (simp; done) | (simp [*]; done), by repeat (first | exact Drawn0.refl _ | apply Drawn0.step)⟩
        · rw [if_neg c24] at H
          have c24b0 : (a0 == 58) = false := beq_eq_false_iff_ne.mpr c24
          have c24b1 : (a0 != 58) = true := bne_iff_ne.mpr c24
          by_cases c25 : a0 ≥ 192
          · rw [if_pos c25] at H
            have c25b0 : decide (192 ≤ a0) = true := decide_eq_true c25
            clear c25
            by_cases c26 : a0 ≤ 255
            · rw [if_pos c26] at H
              have c26b0 : decide (a0 ≤ 255) = true := decide_eq_true c26
              clear c26
              by_cases c27 : a0 = 215
              · rw [if_pos c27] at H
                have c27b0 : (a0 == 215) = true := beq_iff_eq.mpr c27
                have c27b1 : (a0 != 215) = false := bne_eq_false_iff_eq.mpr c27
                clear c27
                obtain rfl := Option.some.inj H
                go_enter Tryz.func30, Tryz.ntmps30
                go_wp2
                go_ret
                exact ⟨by first | rfl | (simp; done) | (simp [*]; done), by repeat (first | exact Drawn0.refl _ | apply Drawn0.step)⟩
              · rw [if_neg c27] at H
                have c27b0 : (a0 == 215) = false := beq_eq_false_iff_ne.mpr c27
                have c27b1 : (a0 != 215) = true := bne_iff_ne.mpr c27
                obtain rfl := Option.some.inj H
                go_enter Tryz.func30, Tryz.ntmps30
                go_wp2
                go_ret
                exact ⟨by first | rfl | (simp; done) | (simp [*]; done), by repeat (first | exact Drawn0.refl _ | apply Drawn0.step)⟩
            · rw [if_neg c26] at H
              have c26b0 : decide (a0 ≤ 255) = false := decide_eq_false c26
              clear c26
              obtain rfl := Option.some.inj H
              go_enter Tryz.func30, Tryz.ntmps30
              go_wp2
              go_ret
              exact ⟨by first | rfl | (simp; done) | (simp [*]; done), by repeat (first | exact Drawn0.refl _ | apply Drawn0.step)⟩
          · rw [if_neg c25] at H
            have c25b0 : decide (192 ≤ a0) = false := decide_eq_false c25
            clear c25
            obtain rfl := Option.some.inj H
            go_enter Tryz.func30, Tryz.ntmps30
            go_wp2
            go_ret
            exact ⟨by first | rfl | (simp; done) | (simp [*]; done), by repeat (first | exact Drawn0.refl _ | apply Drawn0.step)⟩

/-! ### spec_continues: function 29 -/
def spec_continues.f (a0 : Int) : Option (Bool) := (spec_begins.f a0).bind fun t110 => (if t110 = true then (some true) else (if a0 ≥ 48 then (if a0 ≤ 57 then (some true) else (if a0 = 45 then (some true) else (if a0 = 46 then (some true) else (some (a0 == 183))))) else (if a0 = 45 then (some true) else (if a0 = 46 then (some true) else (some (a0 == 183))))))
set_option maxHeartbeats 8000000 in
set_option maxRecDepth 100000 in
theorem spec_continues.calls (a0 : Int) (r : Bool) (w : World) (h : spec_continues.f a0 = some r) :
    Calls Tryz.prog 29 #[.int .i64 a0] w fun e w' => e = .returned (.bool r) ∧ Drawn0 w w' := by
  have H : ((spec_begins.f a0).bind fun t110 => (if t110 = true then (some true) else (if a0 ≥ 48 then (if a0 ≤ 57 then (some true) else (if a0 = 45 then (some true) else (if a0 = 46 then (some true) else (some (a0 == 183))))) else (if a0 = 45 then (some true) else (if a0 = 46 then (some true) else (some (a0 == 183))))))) = some r := h
  clear h
  replace H := Option.bind_eq_some_iff.mp H
  obtain ⟨t110, A20, H⟩ := H
  replace H : (if t110 = true then (some true) else (if a0 ≥ 48 then (if a0 ≤ 57 then (some true) else (if a0 = 45 then (some true) else (if a0 = 46 then (some true) else (some (a0 == 183))))) else (if a0 = 45 then (some true) else (if a0 = 46 then (some true) else (some (a0 == 183)))))) = some r := H
  have A2 := Aside0.mk A20
  clear A20
  by_cases c3 : t110 = true
  · subst c3
    have H1 : (some true) = some r := by rw [if_pos rfl] at H; exact H
    clear H
    have H := H1
    clear H1
    obtain rfl := Option.some.inj H
    go_enter Tryz.func29, Tryz.ntmps29
    go_wp2_with (first | ((with_reducible refine gate_callee (f := 30) rfl ?_); refine goesL_ (some 4) rfl rfl Tryz.func30 (by kernel_rfl) rfl #[.int .i64 a0] rfl (by (try simp only [List.map_toArray, List.map_cons, List.map_nil]); first | done | rfl | (simp only [List.length_drop, List.length_take]; rfl)) ?_; (with_reducible refine (spec_begins.calls a0 true _ A2.out).mono ?_); rintro e w' ⟨rfl, ⟨nd, rfl⟩⟩; refine ⟨_, rfl, ?_⟩))
    go_ret
    exact ⟨by first | rfl | (simp; done) | (simp [*]; done), by repeat (first | exact Drawn0.refl _ | apply Drawn0.step)⟩
  · replace c3 := Bool.eq_false_iff.mpr c3
    subst c3
    have H1 : (if a0 ≥ 48 then (if a0 ≤ 57 then (some true) else (if a0 = 45 then (some true) else (if a0 = 46 then (some true) else (some (a0 == 183))))) else (if a0 = 45 then (some true) else (if a0 = 46 then (some true) else (some (a0 == 183))))) = some r := by rw [if_neg (show ¬ (false = true) by decide)] at H; exact H
    clear H
    have H := H1
    clear H1
    by_cases c4 : a0 ≥ 48
    · rw [if_pos c4] at H
      have c4b0 : decide (48 ≤ a0) = true := decide_eq_true c4
      clear c4
      by_cases c5 : a0 ≤ 57
      · rw [if_pos c5] at H
        have c5b0 : decide (a0 ≤ 57) = true := decide_eq_true c5
        clear c5
        obtain rfl := Option.some.inj H
        go_enter Tryz.func29, Tryz.ntmps29
        go_wp2_with (first | ((with_reducible refine gate_callee (f := 30) rfl ?_); refine goesL_ (some 4) rfl rfl Tryz.func30 (by kernel_rfl) rfl #[.int .i64 a0] rfl (by (try simp only [List.map_toArray, List.map_cons, List.map_nil]); first | done | rfl | (simp only [List.length_drop, List.length_take]; rfl)) ?_; (with_reducible refine (spec_begins.calls a0 false _ A2.out).mono ?_); rintro e w' ⟨rfl, ⟨nd, rfl⟩⟩; refine ⟨_, rfl, ?_⟩))
        go_ret
        exact ⟨by first | rfl | (simp; done) | (simp [*]; done), by repeat (first | exact Drawn0.refl _ | apply Drawn0.step)⟩
      · rw [if_neg c5] at H
        have c5b0 : decide (a0 ≤ 57) = false := decide_eq_false c5
        clear c5
        by_cases c6 : a0 = 45
        · rw [if_pos c6] at H
          have c6b0 : (a0 == 45) = true := beq_iff_eq.mpr c6
          have c6b1 : (a0 != 45) = false := bne_eq_false_iff_eq.mpr c6
          clear c6
          obtain rfl := Option.some.inj H
          go_enter Tryz.func29, Tryz.ntmps29
          go_wp2_with (first | ((with_reducible refine gate_callee (f := 30) rfl ?_); refine goesL_ (some 4) rfl rfl Tryz.func30 (by kernel_rfl) rfl #[.int .i64 a0] rfl (by (try simp only [List.map_toArray, List.map_cons, List.map_nil]); first | done | rfl | (simp only [List.length_drop, List.length_take]; rfl)) ?_; (with_reducible refine (spec_begins.calls a0 false _ A2.out).mono ?_); rintro e w' ⟨rfl, ⟨nd, rfl⟩⟩; refine ⟨_, rfl, ?_⟩))
          go_ret
          exact ⟨by first | rfl | (simp; done) | (simp [*]; done), by repeat (first | exact Drawn0.refl _ | apply Drawn0.step)⟩
        · rw [if_neg c6] at H
          have c6b0 : (a0 == 45) = false := beq_eq_false_iff_ne.mpr c6
          have c6b1 : (a0 != 45) = true := bne_iff_ne.mpr c6
          by_cases c7 : a0 = 46
          · rw [if_pos c7] at H
            have c7b0 : (a0 == 46) = true := beq_iff_eq.mpr c7
            have c7b1 : (a0 != 46) = false := bne_eq_false_iff_eq.mpr c7
            clear c7
            obtain rfl := Option.some.inj H
            go_enter Tryz.func29, Tryz.ntmps29
            go_wp2_with (first | ((with_reducible refine gate_callee (f := 30) rfl ?_); refine goesL_ (some 4) rfl rfl Tryz.func30 (by kernel_rfl) rfl #[.int .i64 a0] rfl (by (try simp only [List.map_toArray, List.map_cons, List.map_nil]); first | done | rfl | (simp only [List.length_drop, List.length_take]; rfl)) ?_; (with_reducible refine (spec_begins.calls a0 false _ A2.out).mono ?_); rintro e w' ⟨rfl, ⟨nd, rfl⟩⟩; refine ⟨_, rfl, ?_⟩))
            go_ret
            exact ⟨by first | rfl | (simp; done) | (simp [*]; done), by repeat (first | exact Drawn0.refl _ | apply Drawn0.step)⟩
          · rw [if_neg c7] at H
            have c7b0 : (a0 == 46) = false := beq_eq_false_iff_ne.mpr c7
            have c7b1 : (a0 != 46) = true := bne_iff_ne.mpr c7
            obtain rfl := Option.some.inj H
            go_enter Tryz.func29, Tryz.ntmps29
            go_wp2_with (first | ((with_reducible refine gate_callee (f := 30) rfl ?_); refine goesL_ (some 4) rfl rfl Tryz.func30 (by kernel_rfl) rfl #[.int .i64 a0] rfl (by (try simp only [List.map_toArray, List.map_cons, List.map_nil]); first | done | rfl | (simp only [List.length_drop, List.length_take]; rfl)) ?_; (with_reducible refine (spec_begins.calls a0 false _ A2.out).mono ?_); rintro e w' ⟨rfl, ⟨nd, rfl⟩⟩; refine ⟨_, rfl, ?_⟩))
            go_ret
            exact ⟨by first | rfl | (simp; done) | (simp [*]; done), by repeat (first | exact Drawn0.refl _ | apply Drawn0.step)⟩
    · rw [if_neg c4] at H
      have c4b0 : decide (48 ≤ a0) = false := decide_eq_false c4
      clear c4
      by_cases c8 : a0 = 45
      · rw [if_pos c8] at H
        have c8b0 : (a0 == 45) = true := beq_iff_eq.mpr c8
        have c8b1 : (a0 != 45) = false := bne_eq_false_iff_eq.mpr c8
        clear c8
        obtain rfl := Option.some.inj H
        go_enter Tryz.func29, Tryz.ntmps29
        go_wp2_with (first | ((with_reducible refine gate_callee (f := 30) rfl ?_); refine goesL_ (some 4) rfl rfl Tryz.func30 (by kernel_rfl) rfl #[.int .i64 a0] rfl (by (try simp only [List.map_toArray, List.map_cons, List.map_nil]); first | done | rfl | (simp only [List.length_drop, List.length_take]; rfl)) ?_; (with_reducible refine (spec_begins.calls a0 false _ A2.out).mono ?_); rintro e w' ⟨rfl, ⟨nd, rfl⟩⟩; refine ⟨_, rfl, ?_⟩))
        go_ret
        exact ⟨by first | rfl | (simp; done) | (simp [*]; done), by repeat (first | exact Drawn0.refl _ | apply Drawn0.step)⟩
      · rw [if_neg c8] at H
        have c8b0 : (a0 == 45) = false := beq_eq_false_iff_ne.mpr c8
        have c8b1 : (a0 != 45) = true := bne_iff_ne.mpr c8
        by_cases c9 : a0 = 46
        · rw [if_pos c9] at H
          have c9b0 : (a0 == 46) = true := beq_iff_eq.mpr c9
          have c9b1 : (a0 != 46) = false := bne_eq_false_iff_eq.mpr c9
          clear c9
          obtain rfl := Option.some.inj H
          go_enter Tryz.func29, Tryz.ntmps29
          go_wp2_with (first | ((with_reducible refine gate_callee (f := 30) rfl ?_); refine goesL_ (some 4) rfl rfl Tryz.func30 (by kernel_rfl) rfl #[.int .i64 a0] rfl (by (try simp only [List.map_toArray, List.map_cons, List.map_nil]); first | done | rfl | (simp only [List.length_drop, List.length_take]; rfl)) ?_; (with_reducible refine (spec_begins.calls a0 false _ A2.out).mono ?_); rintro e w' ⟨rfl, ⟨nd, rfl⟩⟩; refine ⟨_, rfl, ?_⟩))
          go_ret
          exact ⟨by first | rfl | (simp; done) | (simp [*]; done), by repeat (first | exact Drawn0.refl _ | apply Drawn0.step)⟩
        · rw [if_neg c9] at H
          have c9b0 : (a0 == 46) = false := beq_eq_false_iff_ne.mpr c9
          have c9b1 : (a0 != 46) = true := bne_iff_ne.mpr c9
          obtain rfl := Option.some.inj H
          go_enter Tryz.func29, Tryz.ntmps29
          go_wp2_with (first | ((with_reducible refine gate_callee (f := 30) rfl ?_); refine goesL_ (some 4) rfl rfl Tryz.func30 (by kernel_rfl) rfl #[.int .i64 a0] rfl (by (try simp only [List.map_toArray, List.map_cons, List.map_nil]); first | done | rfl | (simp only [List.length_drop, List.length_take]; rfl)) ?_; (with_reducible refine (spec_begins.calls a0 false _ A2.out).mono ?_); rintro e w' ⟨rfl, ⟨nd, rfl⟩⟩; refine ⟨_, rfl, ?_⟩))
          go_ret
          exact ⟨by first | rfl | (simp; done) | (simp [*]; done), by repeat (first | exact Drawn0.refl _ | apply Drawn0.step)⟩

/-! ### spec_NameKind: function 18 -/
mutual
def spec_NameKind.j0 : Nat → ByteArray → Int → Option (Int)
  | 0, _, _ => none
  | k + 1, x0, x3 => spec_NameKind.l0 k x0 x3 0
def spec_NameKind.l0 : Nat → ByteArray → Int → Int → Option (Int)
  | 0, _, _, _ => none
  | k + 1, x0, x3, x4 => if x4 < (x0.size : Int) then (if 0 ≤ x4 then (if x4 ≤ (x0.size : Int) then ((spec_Decode.f k (x0.extract (x4 : Int).toNat x0.size)).bind fun bt111 => (if bt111.2 = 0 then (spec_NameKind.j2 k x0 x3 x4 bt111.1 bt111.2 true) else (if bt111.1 ≥ 128 then ((spec_continues.f bt111.1).bind fun t113 => (spec_NameKind.j2 k x0 x3 x4 bt111.1 bt111.2 (!t113))) else (spec_NameKind.j2 k x0 x3 x4 bt111.1 bt111.2 false)))) else (none)) else (none)) else (some x3)
def spec_NameKind.j2 : Nat → ByteArray → Int → Int → Int → Int → Bool → Option (Int)
  | 0, _, _, _, _, _, _ => none
  | k + 1, x0, x3, x4, x5, x6, x20 => if x20 = true then (some 2) else ((spec_continues.f x5).bind fun t114 => (if t114 = true then (if x4 = 0 then ((spec_begins.f x5).bind fun t115 => (if t115 = true then (spec_NameKind.l0 k x0 x3 (wrap64 (x4 + x6))) else (spec_NameKind.l0 k x0 1 (wrap64 (x4 + x6))))) else (spec_NameKind.l0 k x0 x3 (wrap64 (x4 + x6)))) else (spec_NameKind.l0 k x0 1 (wrap64 (x4 + x6)))))
end
def spec_NameKind.f (k : Nat) (a0 : ByteArray) : Option (Int) := if a0.toList = ([] : List UInt8) then (spec_NameKind.j0 k a0 1) else (spec_NameKind.j0 k a0 0)
theorem spec_NameKind.mono_l : ∀ k, (∀ y0 y1, LeO (spec_NameKind.j0 k y0 y1) (spec_NameKind.j0 (k + 1) y0 y1)) ∧ (∀ y0 y1 y2, LeO (spec_NameKind.l0 k y0 y1 y2) (spec_NameKind.l0 (k + 1) y0 y1 y2)) ∧ (∀ y0 y1 y2 y3 y4 y5, LeO (spec_NameKind.j2 k y0 y1 y2 y3 y4 y5) (spec_NameKind.j2 (k + 1) y0 y1 y2 y3 y4 y5))
  | 0 => ⟨fun _ _ r h => by simp [spec_NameKind.j0] at h, fun _ _ _ r h => by simp [spec_NameKind.l0] at h, fun _ _ _ _ _ _ r h => by simp [spec_NameKind.j2] at h⟩
  | k + 1 => by
    obtain ⟨ih0, ih1, ih2⟩ := spec_NameKind.mono_l k
    refine ⟨?_, ?_, ?_⟩
    · intro y0 y1
      unfold spec_NameKind.j0
      repeat' first
      | (with_reducible exact ih0 _ _)
      | (with_reducible exact ih1 _ _ _)
      | (with_reducible exact ih2 _ _ _ _ _ _)
      | (with_reducible exact spec_Decode.mono _ _)
      | (with_reducible exact LeO.refl _)
      | (with_reducible exact LeO.none _)
      | (with_reducible refine LeO.ite ?_ ?_)
      | (with_reducible refine LeO.bind ?_ (fun _ => ?_))
      | exact ih0 _ _
      | exact ih1 _ _ _
      | exact ih2 _ _ _ _ _ _
      | exact spec_Decode.mono _ _
      | exact LeO.none _
      | refine LeO.ite ?_ ?_
      | refine LeO.bind ?_ (fun _ => ?_)
    · intro y0 y1 y2
      unfold spec_NameKind.l0
      repeat' first
      | (with_reducible exact ih0 _ _)
      | (with_reducible exact ih1 _ _ _)
      | (with_reducible exact ih2 _ _ _ _ _ _)
      | (with_reducible exact spec_Decode.mono _ _)
      | (with_reducible exact LeO.refl _)
      | (with_reducible exact LeO.none _)
      | (with_reducible refine LeO.ite ?_ ?_)
      | (with_reducible refine LeO.bind ?_ (fun _ => ?_))
      | exact ih0 _ _
      | exact ih1 _ _ _
      | exact ih2 _ _ _ _ _ _
      | exact spec_Decode.mono _ _
      | exact LeO.none _
      | refine LeO.ite ?_ ?_
      | refine LeO.bind ?_ (fun _ => ?_)
    · intro y0 y1 y2 y3 y4 y5
      unfold spec_NameKind.j2
      repeat' first
      | (with_reducible exact ih0 _ _)
      | (with_reducible exact ih1 _ _ _)
      | (with_reducible exact ih2 _ _ _ _ _ _)
      | (with_reducible exact spec_Decode.mono _ _)
      | (with_reducible exact LeO.refl _)
      | (with_reducible exact LeO.none _)
      | (with_reducible refine LeO.ite ?_ ?_)
      | (with_reducible refine LeO.bind ?_ (fun _ => ?_))
      | exact ih0 _ _
      | exact ih1 _ _ _
      | exact ih2 _ _ _ _ _ _
      | exact spec_Decode.mono _ _
      | exact LeO.none _
      | refine LeO.ite ?_ ?_
      | refine LeO.bind ?_ (fun _ => ?_)
theorem spec_NameKind.mono : ∀ a0 k, LeO (spec_NameKind.f k a0) (spec_NameKind.f (k + 1) a0) := by
  intro a0 k
  obtain ⟨ih0, ih1, ih2⟩ := spec_NameKind.mono_l k
  unfold spec_NameKind.f
  repeat' first
      | (with_reducible exact ih0 _ _)
      | (with_reducible exact ih1 _ _ _)
      | (with_reducible exact ih2 _ _ _ _ _ _)
      | (with_reducible exact spec_Decode.mono _ _)
      | (with_reducible exact LeO.refl _)
      | (with_reducible exact LeO.none _)
      | (with_reducible refine LeO.ite ?_ ?_)
      | (with_reducible refine LeO.bind ?_ (fun _ => ?_))
      | exact ih0 _ _
      | exact ih1 _ _ _
      | exact ih2 _ _ _ _ _ _
      | exact spec_Decode.mono _ _
      | exact LeO.none _
      | refine LeO.ite ?_ ?_
      | refine LeO.bind ?_ (fun _ => ?_)
set_option maxHeartbeats 8000000 in
set_option maxRecDepth 100000 in
theorem spec_NameKind.calls (k : Nat) (a0 : ByteArray) (r : Int) (w : World) (h : spec_NameKind.f k a0 = some r) :
    Calls Tryz.prog 18 #[.string a0] w fun e w' => e = .returned (.int .i64 r) ∧ Drawn0 w w' := by
  have H : (if a0.toList = ([] : List UInt8) then (spec_NameKind.j0 k a0 1) else (spec_NameKind.j0 k a0 0)) = some r := h
  clear h
  have HC2 := Aside0.mk H
  clear H
  go_enter Tryz.func18, Tryz.ntmps18
  go_upto_if 8 with (fail)
  go_cut [3] (fun v3 wc => ∃ (kq : Nat) (x3_1 : Int), v3 = .int .i64 x3_1 ∧ Aside0 (spec_NameKind.j0 kq a0 x3_1 = some r) ∧ Aside0 (kq ≤ k) ∧ Drawn0 w wc)
  case first =>
    have H := HC2.out
    clear HC2
    by_cases c3 : a0.toList = ([] : List UInt8)
    · rw [if_pos c3] at H
      have c3b0 : (a0.toList == ([] : List UInt8)) = true := beq_iff_eq.mpr c3
      have c3b1 : (a0.toList != ([] : List UInt8)) = false := bne_eq_false_iff_eq.mpr c3
      have c3b2 : a0.toList.isEmpty = true := by rw [c3]; rfl
      clear c3
      (first | rw [c3b0] | (simp only [i64_w, i32_w]; rw [c3b0]) | rw [c3b2])
      have H' := Aside0.mk H
      clear H
      go_wp2
      go_meet
      case rel => exact ⟨_, (1), (by first | rfl | (simp; done) | (simp [*]; done)), H', ⟨by first | omega | exact Nat.le_refl _⟩, by repeat (first | exact Drawn0.refl _ | apply Drawn0.step)⟩
    · rw [if_neg c3] at H
      have c3b0 : (a0.toList == ([] : List UInt8)) = false := beq_eq_false_iff_ne.mpr c3
      have c3b1 : (a0.toList != ([] : List UInt8)) = true := bne_iff_ne.mpr c3
      have c3b2 : a0.toList.isEmpty = false := List.isEmpty_eq_false_iff.mpr c3
      (first | rw [c3b0] | (simp only [i64_w, i32_w]; rw [c3b0]) | rw [c3b2])
      have H' := Aside0.mk H
      clear H
      go_wp2
      go_meet
      case rel => exact ⟨_, (0), (by first | rfl | (simp; done) | (simp [*]; done)), H', ⟨by first | omega | exact Nat.le_refl _⟩, by repeat (first | exact Drawn0.refl _ | apply Drawn0.step)⟩
  case rest =>
    clear HC2
    try clear c1
    try clear p2
    try clear c3
    try clear c3b0
    try clear c3b1
    obtain ⟨kq, x3_1, rfl, HA, HJ1, ⟨mc1, rfl⟩⟩ := hcut
    cases kq with
    | zero => exact absurd HA.out (by simp [spec_NameKind.j0])
    | succ kj1 =>
      have H := HA.out
      clear HA
      simp only [spec_NameKind.j0] at H
      have H' := Aside0.mk H
      clear H
      go_wp2
      go_loopg [3, 4] kj1 (fun kq v3 v4 w' => ∃ (x3_2 : Int) (x4_2 : Int), v3 = .int .i64 x3_2 ∧ v4 = .int .i64 x4_2 ∧ Aside0 (spec_NameKind.l0 kq a0 x3_2 x4_2 = some r) ∧ Aside0 (kq ≤ kj1) ∧ Drawn0 w w')
      case atStart => exact ⟨(x3_1), (0), (by first | rfl | (simp; done) | (simp [*]; done)), (by first | rfl | (simp; done) | (simp [*]; done)), H', ⟨Nat.le_refl _⟩, by repeat (first | exact Drawn0.refl _ | apply Drawn0.step)⟩
      case round =>
        clear H'
        try clear c1
        try clear p2
        try clear c3
        try clear c3b0
        try clear c3b1
        try clear p2
        obtain ⟨x3_2, x4_2, rfl, rfl, HA, HK2, ⟨m2, rfl⟩⟩ := hrel
        cases gk with
        | zero => exact absurd HA.out (by simp [spec_NameKind.l0])
        | succ k2 =>
          have H := HA.out
          clear HA
          simp only [spec_NameKind.l0] at H
          by_cases c4 : x4_2 < (a0.size : Int)
          · rw [if_pos c4] at H
            have c4b0 : decide (x4_2 < (a0.size : Int)) = true := decide_eq_true c4
            clear c4
            by_cases c5 : 0 ≤ x4_2
            · rw [if_pos c5] at H
              have c5b0 := eq_true c5
              have c5b1 : decide (0 ≤ x4_2) = true := decide_eq_true c5
              clear c5
              by_cases c6 : x4_2 ≤ (a0.size : Int)
              · rw [if_pos c6] at H
                have c6b0 := eq_true c6
                have c6b1 : decide (x4_2 ≤ (a0.size : Int)) = true := decide_eq_true c6
                clear c6
                replace H := Option.bind_eq_some_iff.mp H
                obtain ⟨⟨t111, t112⟩, A70, H⟩ := H
                replace H : (if t112 = 0 then (spec_NameKind.j2 k2 a0 x3_2 x4_2 t111 t112 true) else (if t111 ≥ 128 then ((spec_continues.f t111).bind fun t113 => (spec_NameKind.j2 k2 a0 x3_2 x4_2 t111 t112 (!t113))) else (spec_NameKind.j2 k2 a0 x3_2 x4_2 t111 t112 false))) = some r := H
                have A7 := Aside0.mk A70
                clear A70
                have HC8 := Aside0.mk H
                clear H
                go_upto_region 7 with (first | ((with_reducible refine gate_callee (f := 27) rfl ?_); refine goesL_ (some 17) rfl rfl Tryz.func27 (by kernel_rfl) rfl #[.string (a0.extract (x4_2 : Int).toNat a0.size)] rfl (by (try simp only [List.map_toArray, List.map_cons, List.map_nil]); first | done | rfl | (simp only [List.length_drop, List.length_take]; rfl)) ?_; (with_reducible refine (spec_Decode.calls k2 (a0.extract (x4_2 : Int).toNat a0.size) t111 t112 _ A7.out).mono ?_); rintro e w' ⟨rfl, ⟨nd, rfl⟩⟩; refine ⟨_, rfl, ?_⟩))
                (try simp only [Act.put, List.setIfInBounds_toArray, List.set_cons_zero, List.set_cons_succ])
                go_cut [20] (fun v20 wc => ∃ (kq : Nat) (x20_7 : Bool), v20 = .bool x20_7 ∧ Aside0 (spec_NameKind.j2 kq a0 x3_2 x4_2 t111 t112 x20_7 = some r) ∧ Aside0 (kq ≤ k2) ∧ Drawn0 w wc)
                case first =>
                  have H := HC8.out
                  clear HC8
                  by_cases c9 : t112 = 0
                  · rw [if_pos c9] at H
                    have c9b0 : (t112 == 0) = true := beq_iff_eq.mpr c9
                    have c9b1 : (t112 != 0) = false := bne_eq_false_iff_eq.mpr c9
                    clear c9
                    (first | rw [c9b0] | (simp only [i64_w, i32_w]; rw [c9b0]) | skip)
                    have H' := Aside0.mk H
                    clear H
                    go_wp2
                    go_meet
                    case rel => exact ⟨_, (true), (by first | rfl | (simp; done) | (simp [*]; done)), H', ⟨by have := HJ1.out; have := HK2.out; first | omega | exact Nat.le_refl _⟩, by repeat (first | exact Drawn0.refl _ | apply Drawn0.step)⟩
                  · rw [if_neg c9] at H
                    have c9b0 : (t112 == 0) = false := beq_eq_false_iff_ne.mpr c9
                    have c9b1 : (t112 != 0) = true := bne_iff_ne.mpr c9
                    (first | rw [c9b0] | (simp only [i64_w, i32_w]; rw [c9b0]) | skip)
                    by_cases c10 : t111 ≥ 128
                    · rw [if_pos c10] at H
                      have c10b0 : decide (128 ≤ t111) = true := decide_eq_true c10
                      clear c10
                      replace H := Option.bind_eq_some_iff.mp H
                      obtain ⟨t113, A110, H⟩ := H
                      replace H : (spec_NameKind.j2 k2 a0 x3_2 x4_2 t111 t112 (!t113)) = some r := H
                      have A11 := Aside0.mk A110
                      clear A110
                      have H' := Aside0.mk H
                      clear H
                      go_wp2_with (first | (go_at_call 29; (with_reducible refine (spec_continues.calls t111 t113 _ A11.out).mono ?_); rintro e w' ⟨rfl, ⟨nd, rfl⟩⟩))
                      go_meet
                      case rel => exact ⟨_, (!t113), (by first | rfl | (simp; done) | (simp [*]; done)), H', ⟨by have := HJ1.out; have := HK2.out; first | omega | exact Nat.le_refl _⟩, by repeat (first | exact Drawn0.refl _ | apply Drawn0.step)⟩
                    · rw [if_neg c10] at H
                      have c10b0 : decide (128 ≤ t111) = false := decide_eq_false c10
                      clear c10
                      have H' := Aside0.mk H
                      clear H
                      go_wp2
                      go_meet
                      case rel => exact ⟨_, (false), (by first | rfl | (simp; done) | (simp [*]; done)), H', ⟨by have := HJ1.out; have := HK2.out; first | omega | exact Nat.le_refl _⟩, by repeat (first | exact Drawn0.refl _ | apply Drawn0.step)⟩
                case rest =>
                  clear HC8
                  try clear c1
                  try clear c2
                  try clear p2
                  try clear c3
                  try clear c3b0
                  try clear c3b1
                  try clear c4
                  try clear c4b0
                  try clear c5
                  try clear c5b0
                  try clear c5b1
                  try clear c6
                  try clear c6b0
                  try clear c6b1
                  try clear c9
                  try clear c9b0
                  try clear c9b1
                  try clear c10
                  try clear c10b0
                  try clear p2
                  obtain ⟨kq, x20_7, rfl, HA, HJ7, ⟨mc7, rfl⟩⟩ := hcut
                  cases kq with
                  | zero => exact absurd HA.out (by simp [spec_NameKind.j2])
                  | succ kj7 =>
                    have H := HA.out
                    clear HA
                    simp only [spec_NameKind.j2] at H
                    by_cases c12 : x20_7 = true
                    · subst c12
                      have H1 : (some 2) = some r := by rw [if_pos rfl] at H; exact H
                      clear H
                      have H := H1
                      clear H1
                      obtain rfl := Option.some.inj H
                      go_wp2
                      go_ret
                      exact ⟨by first | rfl | (simp; done) | (simp [*]; done), by repeat (first | exact Drawn0.refl _ | apply Drawn0.step)⟩
                    · replace c12 := Bool.eq_false_iff.mpr c12
                      subst c12
                      have H1 : ((spec_continues.f t111).bind fun t114 => (if t114 = true then (if x4_2 = 0 then ((spec_begins.f t111).bind fun t115 => (if t115 = true then (spec_NameKind.l0 kj7 a0 x3_2 (wrap64 (x4_2 + t112))) else (spec_NameKind.l0 kj7 a0 1 (wrap64 (x4_2 + t112))))) else (spec_NameKind.l0 kj7 a0 x3_2 (wrap64 (x4_2 + t112)))) else (spec_NameKind.l0 kj7 a0 1 (wrap64 (x4_2 + t112))))) = some r := by rw [if_neg (show ¬ (false = true) by decide)] at H; exact H
                      clear H
                      have H := H1
                      clear H1
                      replace H := Option.bind_eq_some_iff.mp H
                      obtain ⟨t114, A130, H⟩ := H
                      replace H : (if t114 = true then (if x4_2 = 0 then ((spec_begins.f t111).bind fun t115 => (if t115 = true then (spec_NameKind.l0 kj7 a0 x3_2 (wrap64 (x4_2 + t112))) else (spec_NameKind.l0 kj7 a0 1 (wrap64 (x4_2 + t112))))) else (spec_NameKind.l0 kj7 a0 x3_2 (wrap64 (x4_2 + t112)))) else (spec_NameKind.l0 kj7 a0 1 (wrap64 (x4_2 + t112)))) = some r := H
                      have A13 := Aside0.mk A130
                      clear A130
                      by_cases c14 : t114 = true
                      · subst c14
                        have H1 : (if x4_2 = 0 then ((spec_begins.f t111).bind fun t115 => (if t115 = true then (spec_NameKind.l0 kj7 a0 x3_2 (wrap64 (x4_2 + t112))) else (spec_NameKind.l0 kj7 a0 1 (wrap64 (x4_2 + t112))))) else (spec_NameKind.l0 kj7 a0 x3_2 (wrap64 (x4_2 + t112)))) = some r := by rw [if_pos rfl] at H; exact H
                        clear H
                        have H := H1
                        clear H1
                        by_cases c15 : x4_2 = 0
                        · rw [if_pos c15] at H
                          have c15b0 : (x4_2 == 0) = true := beq_iff_eq.mpr c15
                          have c15b1 : (x4_2 != 0) = false := bne_eq_false_iff_eq.mpr c15
                          clear c15
                          replace H := Option.bind_eq_some_iff.mp H
                          obtain ⟨t115, A160, H⟩ := H
                          replace H : (if t115 = true then (spec_NameKind.l0 kj7 a0 x3_2 (wrap64 (x4_2 + t112))) else (spec_NameKind.l0 kj7 a0 1 (wrap64 (x4_2 + t112)))) = some r := H
                          have A16 := Aside0.mk A160
                          clear A160
                          by_cases c17 : t115 = true
                          · subst c17
                            have H1 : (spec_NameKind.l0 kj7 a0 x3_2 (wrap64 (x4_2 + t112))) = some r := by rw [if_pos rfl] at H; exact H
                            clear H
                            have H := H1
                            clear H1
                            have H' := Aside0.mk H
                            clear H
                            go_wp2_with (first | ((with_reducible refine gate_callee (f := 29) rfl ?_); refine goesL_ (some 34) rfl rfl Tryz.func29 (by kernel_rfl) rfl #[.int .i64 t111] rfl (by (try simp only [List.map_toArray, List.map_cons, List.map_nil]); first | done | rfl | (simp only [List.length_drop, List.length_take]; rfl)) ?_; (with_reducible refine (spec_continues.calls t111 true _ A13.out).mono ?_); rintro e w' ⟨rfl, ⟨nd, rfl⟩⟩; refine ⟨_, rfl, ?_⟩) | (go_at_call 30; (with_reducible refine (spec_begins.calls t111 true _ A16.out).mono ?_); rintro e w' ⟨rfl, ⟨nd, rfl⟩⟩))
                            go_roundg kj7
                            case measure => have := HJ1.out; have := HK2.out; have := HJ7.out; omega
                            case rel => exact ⟨(x3_2), (wrap64 (x4_2 + t112)), (by first | rfl | (simp; done) | (simp [*]; done)), (by first | rfl | (simp; done) | (simp [*]; done)), H', ⟨by have := HJ1.out; have := HK2.out; have := HJ7.out; omega⟩, by repeat (first | exact Drawn0.refl _ | apply Drawn0.step)⟩
                          · replace c17 := Bool.eq_false_iff.mpr c17
                            subst c17
                            have H1 : (spec_NameKind.l0 kj7 a0 1 (wrap64 (x4_2 + t112))) = some r := by rw [if_neg (show ¬ (false = true) by decide)] at H; exact H
                            clear H
                            have H := H1
                            clear H1
                            have H' := Aside0.mk H
                            clear H
                            go_wp2_with (first | ((with_reducible refine gate_callee (f := 29) rfl ?_); refine goesL_ (some 34) rfl rfl Tryz.func29 (by kernel_rfl) rfl #[.int .i64 t111] rfl (by (try simp only [List.map_toArray, List.map_cons, List.map_nil]); first | done | rfl | (simp only [List.length_drop, List.length_take]; rfl)) ?_; (with_reducible refine (spec_continues.calls t111 true _ A13.out).mono ?_); rintro e w' ⟨rfl, ⟨nd, rfl⟩⟩; refine ⟨_, rfl, ?_⟩) | (go_at_call 30; (with_reducible refine (spec_begins.calls t111 false _ A16.out).mono ?_); rintro e w' ⟨rfl, ⟨nd, rfl⟩⟩))
                            go_roundg kj7
                            case measure => have := HJ1.out; have := HK2.out; have := HJ7.out; omega
                            case rel => exact ⟨(1), (wrap64 (x4_2 + t112)), (by first | rfl | (simp; done) | (simp [*]; done)), (by first | rfl | (simp; done) | (simp [*]; done)), H', ⟨by have := HJ1.out; have := HK2.out; have := HJ7.out; omega⟩, by repeat (first | exact Drawn0.refl _ | apply Drawn0.step)⟩
                        · rw [if_neg c15] at H
                          have c15b0 : (x4_2 == 0) = false := beq_eq_false_iff_ne.mpr c15
                          have c15b1 : (x4_2 != 0) = true := bne_iff_ne.mpr c15
                          have H' := Aside0.mk H
                          clear H
                          go_wp2_with (first | ((with_reducible refine gate_callee (f := 29) rfl ?_); refine goesL_ (some 34) rfl rfl Tryz.func29 (by kernel_rfl) rfl #[.int .i64 t111] rfl (by (try simp only [List.map_toArray, List.map_cons, List.map_nil]); first | done | rfl | (simp only [List.length_drop, List.length_take]; rfl)) ?_; (with_reducible refine (spec_continues.calls t111 true _ A13.out).mono ?_); rintro e w' ⟨rfl, ⟨nd, rfl⟩⟩; refine ⟨_, rfl, ?_⟩))
                          go_roundg kj7
                          case measure => have := HJ1.out; have := HK2.out; have := HJ7.out; omega
                          case rel => exact ⟨(x3_2), (wrap64 (x4_2 + t112)), (by first | rfl | (simp; done) | (simp [*]; done)), (by first | rfl | (simp; done) | (simp [*]; done)), H', ⟨by have := HJ1.out; have := HK2.out; have := HJ7.out; omega⟩, by repeat (first | exact Drawn0.refl _ | apply Drawn0.step)⟩
                      · replace c14 := Bool.eq_false_iff.mpr c14
                        subst c14
                        have H1 : (spec_NameKind.l0 kj7 a0 1 (wrap64 (x4_2 + t112))) = some r := by rw [if_neg (show ¬ (false = true) by decide)] at H; exact H
                        clear H
                        have H := H1
                        clear H1
                        have H' := Aside0.mk H
                        clear H
                        go_wp2_with (first | ((with_reducible refine gate_callee (f := 29) rfl ?_); refine goesL_ (some 34) rfl rfl Tryz.func29 (by kernel_rfl) rfl #[.int .i64 t111] rfl (by (try simp only [List.map_toArray, List.map_cons, List.map_nil]); first | done | rfl | (simp only [List.length_drop, List.length_take]; rfl)) ?_; (with_reducible refine (spec_continues.calls t111 false _ A13.out).mono ?_); rintro e w' ⟨rfl, ⟨nd, rfl⟩⟩; refine ⟨_, rfl, ?_⟩))
                        go_roundg kj7
                        case measure => have := HJ1.out; have := HK2.out; have := HJ7.out; omega
                        case rel => exact ⟨(1), (wrap64 (x4_2 + t112)), (by first | rfl | (simp; done) | (simp [*]; done)), (by first | rfl | (simp; done) | (simp [*]; done)), H', ⟨by have := HJ1.out; have := HK2.out; have := HJ7.out; omega⟩, by repeat (first | exact Drawn0.refl _ | apply Drawn0.step)⟩
              · rw [if_neg c6] at H
                exact absurd H (by simp)
            · rw [if_neg c5] at H
              exact absurd H (by simp)
          · rw [if_neg c4] at H
            have c4b0 : decide (x4_2 < (a0.size : Int)) = false := decide_eq_false c4
            clear c4
            obtain rfl := Option.some.inj H
            go_wp2
            go_ret
            exact ⟨by first | rfl | (simp; done) | (simp [*]; done), by repeat (first | exact Drawn0.refl _ | apply Drawn0.step)⟩

end Go.Proofs.YtjoahpmalhmjkaaGreatDoor.PFnEncodeNested
