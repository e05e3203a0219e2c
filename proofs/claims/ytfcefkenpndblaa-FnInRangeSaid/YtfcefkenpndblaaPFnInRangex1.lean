-- PRINTED BY print.sh 35421559b90ae4d0a3588c463048766b98c2df88dd9212a6774a882060cdf62d: not written by this session
import Derived.Test.YtfcefkenpndblaaPFnInRangex0
namespace Go.Proofs.Ytfcefkenpndblaa.PFnInRange
open Go.RowKit Go.Proofs.YtfcefkenpndblaaW.PrintWords Go.Proofs.YtfcefkenpndblaaW.PrintLast Go.Proofs.YtfcefkenpndblaaW.PrintMore
attribute [local go_sem] max2_int min2_int max_two min_two max_three min_three max_four min_four   -- for this text's walks alone
set_option linter.unusedVariables false
set_option linter.unusedSimpArgs false

/-! ### xml_isInCharacterRange: function 22 -/
def xml_isInCharacterRange.f (a0 : Int) : Option (Bool) := if a0 = 9 then (some true) else (if a0 = 10 then (some true) else (if a0 = 13 then (some true) else (if a0 ≥ 32 then (if a0 ≤ 55295 then (some true) else (if a0 ≥ 57344 then (if a0 ≤ 65533 then (some true) else (if a0 ≥ 65536 then (some (decide (a0 ≤ 1114111))) else (some false))) else (if a0 ≥ 65536 then (some (decide (a0 ≤ 1114111))) else (some false)))) else (if a0 ≥ 57344 then (if a0 ≤ 65533 then (some true) else (if a0 ≥ 65536 then (some (decide (a0 ≤ 1114111))) else (some false))) else (if a0 ≥ 65536 then (some (decide (a0 ≤ 1114111))) else (some false))))))
set_option maxHeartbeats 8000000 in
set_option maxRecDepth 100000 in
theorem xml_isInCharacterRange.calls (a0 : Int) (r : Bool) (w : World) (h : xml_isInCharacterRange.f a0 = some r) :
    Calls Try.prog 22 #[.int .i32 a0] w fun e w' => e = .returned (.bool r) ∧ Drawn0 w w' := by
  have H : (if a0 = 9 then (some true) else (if a0 = 10 then (some true) else (if a0 = 13 then (some true) else (if a0 ≥ 32 then (if a0 ≤ 55295 then (some true) else (if a0 ≥ 57344 then (if a0 ≤ 65533 then (some true) else (if a0 ≥ 65536 then (some (decide (a0 ≤ 1114111))) else (some false))) else (if a0 ≥ 65536 then (some (decide (a0 ≤ 1114111))) else (some false)))) else (if a0 ≥ 57344 then (if a0 ≤ 65533 then (some true) else (if a0 ≥ 65536 then (some (decide (a0 ≤ 1114111))) else (some false))) else (if a0 ≥ 65536 then (some (decide (a0 ≤ 1114111))) else (some false))))))) = some r := h
  clear h
  by_cases c2 : a0 = 9
  · rw [if_pos c2] at H
    have c2b0 : (a0 == 9) = true := beq_iff_eq.mpr c2
    have c2b1 : (a0 != 9) = false := bne_eq_false_iff_eq.mpr c2
    clear c2
    obtain rfl := Option.some.inj H
    go_enter Try.func22, Try.ntmps22
    go_wp2
    go_ret
    exact ⟨by first | rfl | (simp; done) | (simp [*]; done), by repeat (first | exact Drawn0.refl _ | apply Drawn0.step)⟩
  · rw [if_neg c2] at H
    have c2b0 : (a0 == 9) = false := beq_eq_false_iff_ne.mpr c2
    have c2b1 : (a0 != 9) = true := bne_iff_ne.mpr c2
    by_cases c3 : a0 = 10
    · rw [if_pos c3] at H
      have c3b0 : (a0 == 10) = true := beq_iff_eq.mpr c3
      have c3b1 : (a0 != 10) = false := bne_eq_false_iff_eq.mpr c3
      clear c3
      obtain rfl := Option.some.inj H
      go_enter Try.func22, Try.ntmps22
      go_wp2
      go_ret
      exact ⟨by first | rfl | (simp; done) | (simp [*]; done), by repeat (first | exact Drawn0.refl _ | apply Drawn0.step)⟩
    · rw [if_neg c3] at H
      have c3b0 : (a0 == 10) = false := beq_eq_false_iff_ne.mpr c3
      have c3b1 : (a0 != 10) = true := bne_iff_ne.mpr c3
      by_cases c4 : a0 = 13
      · rw [if_pos c4] at H
        have c4b0 : (a0 == 13) = true := beq_iff_eq.mpr c4
        have c4b1 : (a0 != 13) = false := bne_eq_false_iff_eq.mpr c4
        clear c4
        obtain rfl := Option.some.inj H
        go_enter Try.func22, Try.ntmps22
        go_wp2
        go_ret
        exact ⟨by first | rfl | (simp; done) | (simp [*]; done), by repeat (first | exact Drawn0.refl _ | apply Drawn0.step)⟩
      · rw [if_neg c4] at H
        have c4b0 : (a0 == 13) = false := beq_eq_false_iff_ne.mpr c4
        have c4b1 : (a0 != 13) = true := bne_iff_ne.mpr c4
        by_cases c5 : a0 ≥ 32
        · rw [if_pos c5] at H
          have c5b0 : decide (32 ≤ a0) = true := decide_eq_true c5
          clear c5
          by_cases c6 : a0 ≤ 55295
          · rw [if_pos c6] at H
            have c6b0 : decide (a0 ≤ 55295) = true := decide_eq_true c6
            clear c6
            obtain rfl := Option.some.inj H
            go_enter Try.func22, Try.ntmps22
            go_wp2
            go_ret
            exact ⟨by first | rfl | (simp; done) | (simp [*]; done), by repeat (first | exact Drawn0.refl _ | apply Drawn0.step)⟩
          · rw [if_neg c6] at H
            have c6b0 : decide (a0 ≤ 55295) = false := decide_eq_false c6
            clear c6
            by_cases c7 : a0 ≥ 57344
            · rw [if_pos c7] at H
              have c7b0 : decide (57344 ≤ a0) = true := decide_eq_true c7
              clear c7
              by_cases c8 : a0 ≤ 65533
              · rw [if_pos c8] at H
                have c8b0 : decide (a0 ≤ 65533) = true := decide_eq_true c8
                clear c8
                obtain rfl := Option.some.inj H
                go_enter Try.func22, Try.ntmps22
                go_wp2
                go_ret
                exact ⟨by first | rfl | (simp; done) | (simp [*]; done), by repeat (first | exact Drawn0.refl _ | apply Drawn0.step)⟩
              · rw [if_neg c8] at H
                have c8b0 : decide (a0 ≤ 65533) = false := decide_eq_false c8
                clear c8
                by_cases c9 : a0 ≥ 65536
                · rw [if_pos c9] at H
                  have c9b0 : decide (65536 ≤ a0) = true := decide_eq_true c9
                  clear c9
                  obtain rfl := Option.some.inj H
                  go_enter Try.func22, Try.ntmps22
                  go_wp2
                  go_ret
                  exact ⟨by first | rfl | (simp; done) | (simp [*]; done), by repeat (first | exact Drawn0.refl _ | apply Drawn0.step)⟩
                · rw [if_neg c9] at H
                  have c9b0 : decide (65536 ≤ a0) = false := decide_eq_false c9
                  clear c9
                  obtain rfl := Option.some.inj H
                  go_enter Try.func22, Try.ntmps22
                  go_wp2
                  go_ret
                  exact ⟨by first | rfl | (simp; done) | (simp [*]; done), by repeat (first | exact Drawn0.refl _ | apply Drawn0.step)⟩
            · rw [if_neg c7] at H
              have c7b0 : decide (57344 ≤ a0) = false := decide_eq_false c7
              clear c7
              by_cases c10 : a0 ≥ 65536
              · rw [if_pos c10] at H
                have c10b0 : decide (65536 ≤ a0) = true := decide_eq_true c10
                clear c10
                obtain rfl := Option.some.inj H
                go_enter Try.func22, Try.ntmps22
                go_wp2
                go_ret
                exact ⟨by first | rfl | (simp; done) | (simp [*]; done), by repeat (first | exact Drawn0.refl _ | apply Drawn0.step)⟩
              · rw [if_neg c10] at H
                have c10b0 : decide (65536 ≤ a0) = false := decide_eq_false c10
                clear c10
                obtain rfl := Option.some.inj H
                go_enter Try.func22, Try.ntmps22
                go_wp2
                go_ret
                exact ⟨by first | rfl | (simp; done) | (simp [*]; done), by repeat (first | exact Drawn0.refl _ | apply Drawn0.step)⟩
        · rw [if_neg c5] at H
          have c5b0 : decide (32 ≤ a0) = false := decide_eq_false c5
          clear c5
          by_cases c11 : a0 ≥ 57344
          · rw [if_pos c11] at H
            have c11b0 : decide (57344 ≤ a0) = true := decide_eq_true c11
            clear c11
            by_cases c12 : a0 ≤ 65533
            · rw [if_pos c12] at H
              have c12b0 : decide (a0 ≤ 65533) = true := decide_eq_true c12
              clear c12
              obtain rfl := Option.some.inj H
              go_enter Try.func22, Try.ntmps22
              go_wp2
              go_ret
              exact ⟨by first | rfl | (simp; done) | (simp [*]; done), by repeat (first | exact Drawn0.refl _ | apply Drawn0.step)⟩
            · rw [if_neg c12] at H
              have c12b0 : decide (a0 ≤ 65533) = false := decide_eq_false c12
              clear c12
              by_cases c13 : a0 ≥ 65536
              · rw [if_pos c13] at H
                have c13b0 : decide (65536 ≤ a0) = true := decide_eq_true c13
                clear c13
                obtain rfl := Option.some.inj H
                go_enter Try.func22, Try.ntmps22
                go_wp2
                go_ret
                exact ⟨by first | rfl | (simp; done) | (simp [*]; done), by repeat (first | exact Drawn0.refl _ | apply Drawn0.step)⟩
              · rw [if_neg c13] at H
                have c13b0 : decide (65536 ≤ a0) = false := decide_eq_false c13
                clear c13
                obtain rfl := Option.some.inj H
                go_enter Try.func22, Try.ntmps22
                go_wp2
                go_ret
                exact ⟨by first | rfl | (simp; done) | (simp [*]; done), by repeat (first | exact Drawn0.refl _ | apply Drawn0.step)⟩
          · rw [if_neg c11] at H
            have c11b0 : decide (57344 ≤ a0) = false := decide_eq_false c11
            clear c11
            by_cases c14 : a0 ≥ 65536
            · rw [if_pos c14] at H
              have c14b0 : decide (65536 ≤ a0) = true := decide_eq_true c14
              clear c14
              obtain rfl := Option.some.inj H
              go_enter Try.func22, Try.ntmps22
              go_wp2
              go_ret
              exact ⟨by first | rfl | (simp; done) | (simp [*]; done), by repeat (first | exact Drawn0.refl _ | apply Drawn0.step)⟩
            · rw [if_neg c14] at H
              have c14b0 : decide (65536 ≤ a0) = false := decide_eq_false c14
              clear c14
              obtain rfl := Option.some.inj H
              go_enter Try.func22, Try.ntmps22
              go_wp2
              go_ret
              exact ⟨by first | rfl | (simp; done) | (simp [*]; done), by repeat (first | exact Drawn0.refl _ | apply Drawn0.step)⟩

/-! ### xml_ZZInRange: function 15 -/
def xml_ZZInRange.f (a0 : Int) : Option (Bool) := (xml_isInCharacterRange.f a0).bind fun t101 => (some t101)
set_option maxHeartbeats 8000000 in
set_option maxRecDepth 100000 in
theorem xml_ZZInRange.calls (a0 : Int) (r : Bool) (w : World) (h : xml_ZZInRange.f a0 = some r) :
    Calls Try.prog 15 #[.int .i32 a0] w fun e w' => e = .returned (.bool r) ∧ Drawn0 w w' := by
  have H : ((xml_isInCharacterRange.f a0).bind fun t101 => (some t101)) = some r := h
  clear h
  replace H := Option.bind_eq_some_iff.mp H
  obtain ⟨t101, A20, H⟩ := H
  replace H : (some t101) = some r := H
  have A2 := Aside0.mk A20
  clear A20
  obtain rfl := Option.some.inj H
  go_enter Try.func15, Try.ntmps15
  go_wp2_with (first | ((with_reducible refine gate_callee (f := 22) rfl ?_); refine goesL_ (some 4) rfl rfl Try.func22 (by kernel_rfl) rfl #[.int .i32 a0] rfl (by (try simp only [List.map_toArray, List.map_cons, List.map_nil]); first | done | rfl | (simp only [List.length_drop, List.length_take]; rfl)) ?_; (with_reducible refine (xml_isInCharacterRange.calls a0 t101 _ A2.out).mono ?_); rintro e w' ⟨rfl, ⟨nd, rfl⟩⟩; refine ⟨_, rfl, ?_⟩))
  go_ret
  exact ⟨by first | rfl | (simp; done) | (simp [*]; done), by repeat (first | exact Drawn0.refl _ | apply Drawn0.step)⟩

/-! ### impl_InRange: function 6 -/
def impl_InRange.f (a0 : Int) : Option (Bool) := (xml_ZZInRange.f (wrap32 (a0))).bind fun t102 => (some t102)
set_option maxHeartbeats 8000000 in
set_option maxRecDepth 100000 in
theorem impl_InRange.calls (a0 : Int) (r : Bool) (w : World) (h : impl_InRange.f a0 = some r) :
    Calls Try.prog 6 #[.int .i64 a0] w fun e w' => e = .returned (.bool r) ∧ Drawn0 w w' := by
  have H : ((xml_ZZInRange.f (wrap32 (a0))).bind fun t102 => (some t102)) = some r := h
  clear h
  replace H := Option.bind_eq_some_iff.mp H
  obtain ⟨t102, A20, H⟩ := H
  replace H : (some t102) = some r := H
  have A2 := Aside0.mk A20
  clear A20
  obtain rfl := Option.some.inj H
  go_enter Try.func6, Try.ntmps6
  go_wp2_with (first | ((with_reducible refine gate_callee (f := 15) rfl ?_); refine goesL_ (some 5) rfl rfl Try.func15 (by kernel_rfl) rfl #[.int .i32 (wrap32 (a0))] rfl (by (try simp only [List.map_toArray, List.map_cons, List.map_nil]); first | done | rfl | (simp only [List.length_drop, List.length_take]; rfl)) ?_; (with_reducible refine (xml_ZZInRange.calls (wrap32 (a0)) t102 _ A2.out).mono ?_); rintro e w' ⟨rfl, ⟨nd, rfl⟩⟩; refine ⟨_, rfl, ?_⟩))
  go_ret
  exact ⟨by first | rfl | (simp; done) | (simp [*]; done), by repeat (first | exact Drawn0.refl _ | apply Drawn0.step)⟩

/-! ### spec_IsChar: function 7 -/
def spec_IsChar.f (a0 : Int) : Option (Bool) := if a0 = 9 then (some true) else (if a0 = 10 then (some true) else (if a0 = 13 then (some true) else (if a0 ≥ 32 then (if a0 ≤ 55295 then (some true) else (if a0 ≥ 57344 then (if a0 ≤ 65533 then (some true) else (if a0 ≥ 65536 then (some (decide (a0 ≤ 1114111))) else (some false))) else (if a0 ≥ 65536 then (some (decide (a0 ≤ 1114111))) else (some false)))) else (if a0 ≥ 57344 then (if a0 ≤ 65533 then (some true) else (if a0 ≥ 65536 then (some (decide (a0 ≤ 1114111))) else (some false))) else (if a0 ≥ 65536 then (some (decide (a0 ≤ 1114111))) else (some false))))))
set_option maxHeartbeats 8000000 in
set_option maxRecDepth 100000 in
theorem spec_IsChar.calls (a0 : Int) (r : Bool) (w : World) (h : spec_IsChar.f a0 = some r) :
    Calls Try.prog 7 #[.int .i64 a0] w fun e w' => e = .returned (.bool r) ∧ Drawn0 w w' := by
  have H : (if a0 = 9 then (some true) else (if a0 = 10 then (some true) else (if a0 = 13 then (some true) else (if a0 ≥ 32 then (if a0 ≤ 55295 then (some true) else (if a0 ≥ 57344 then (if a0 ≤ 65533 then (some true) else (if a0 ≥ 65536 then (some (decide (a0 ≤ 1114111))) else (some false))) else (if a0 ≥ 65536 then (some (decide (a0 ≤ 1114111))) else (some false)))) else (if a0 ≥ 57344 then (if a0 ≤ 65533 then (some true) else (if a0 ≥ 65536 then (some (decide (a0 ≤ 1114111))) else (some false))) else (if a0 ≥ 65536 then (some (decide (a0 ≤ 1114111))) else (some false))))))) = some r := h
  clear h
  by_cases c2 : a0 = 9
  · rw [if_pos c2] at H
    have c2b0 : (a0 == 9) = true := beq_iff_eq.mpr c2
    have c2b1 : (a0 != 9) = false := bne_eq_false_iff_eq.mpr c2
    clear c2
    obtain rfl := Option.some.inj H
    go_enter Try.func7, Try.ntmps7
    go_wp2
    go_ret
    exact ⟨by first | rfl | (simp; done) | (simp [*]; done), by repeat (first | exact Drawn0.refl _ | apply Drawn0.step)⟩
  · rw [if_neg c2] at H
    have c2b0 : (a0 == 9) = false := beq_eq_false_iff_ne.mpr c2
    have c2b1 : (a0 != 9) = true := bne_iff_ne.mpr c2
    by_cases c3 : a0 = 10
    · rw [if_pos c3] at H
      have c3b0 : (a0 == 10) = true := beq_iff_eq.mpr c3
      have c3b1 : (a0 != 10) = false := bne_eq_false_iff_eq.mpr c3
      clear c3
      obtain rfl := Option.some.inj H
      go_enter Try.func7, Try.ntmps7
      go_wp2
      go_ret
      exact ⟨by first | rfl | (simp; done) | (simp [*]; done), by repeat (first | exact Drawn0.refl _ | apply Drawn0.step)⟩
    · rw [if_neg c3] at H
      have c3b0 : (a0 == 10) = false := beq_eq_false_iff_ne.mpr c3
      have c3b1 : (a0 != 10) = true := bne_iff_ne.mpr c3
      by_cases c4 : a0 = 13
      · rw [if_pos c4] at H
        have c4b0 : (a0 == 13) = true := beq_iff_eq.mpr c4
        have c4b1 : (a0 != 13) = false := bne_eq_false_iff_eq.mpr c4
        clear c4
        obtain rfl := Option.some.inj H
        go_enter Try.func7, Try.ntmps7
        go_wp2
        go_ret
        exact ⟨by first | rfl | (simp; done) | (simp [*]; done), by repeat (first | exact Drawn0.refl _ | apply Drawn0.step)⟩
      · rw [if_neg c4] at H
        have c4b0 : (a0 == 13) = false := beq_eq_false_iff_ne.mpr c4
        have c4b1 : (a0 != 13) = true := bne_iff_ne.mpr c4
        by_cases c5 : a0 ≥ 32
        · rw [if_pos c5] at H
          have c5b0 : decide (32 ≤ a0) = true := decide_eq_true c5
          clear c5
          by_cases c6 : a0 ≤ 55295
          · rw [if_pos c6] at H
            have c6b0 : decide (a0 ≤ 55295) = true := decide_eq_true c6
            clear c6
            obtain rfl := Option.some.inj H
            go_enter Try.func7, Try.ntmps7
            go_wp2
            go_ret
            exact ⟨by first | rfl | (simp; done) | (simp [*]; done), by repeat (first | exact Drawn0.refl _ | apply Drawn0.step)⟩
          · rw [if_neg c6] at H
            have c6b0 : decide (a0 ≤ 55295) = false := decide_eq_false c6
            clear c6
            by_cases c7 : a0 ≥ 57344
            · rw [if_pos c7] at H
              have c7b0 : decide (57344 ≤ a0) = true := decide_eq_true c7
              clear c7
              by_cases c8 : a0 ≤ 65533
              · rw [if_pos c8] at H
                have c8b0 : decide (a0 ≤ 65533) = true := decide_eq_true c8
                clear c8
                obtain rfl := Option.some.inj H
                go_enter Try.func7, Try.ntmps7
                go_wp2
                go_ret
                exact ⟨by first | rfl | (simp; done) | (simp [*]; done), by repeat (first | exact Drawn0.refl _ | apply Drawn0.step)⟩
              · rw [if_neg c8] at H
                have c8b0 : decide (a0 ≤ 65533) = false := decide_eq_false c8
                clear c8
                by_cases c9 : a0 ≥ 65536
                · rw [if_pos c9] at H
                  have c9b0 : decide (65536 ≤ a0) = true := decide_eq_true c9
                  clear c9
                  obtain rfl := Option.some.inj H
                  go_enter Try.func7, Try.ntmps7
                  go_wp2
                  go_ret
                  exact ⟨by first | rfl | (simp; done) | (simp [*]; done), by repeat (first | exact Drawn0.refl _ | apply Drawn0.step)⟩
                · rw [if_neg c9] at H
                  have c9b0 : decide (65536 ≤ a0) = false := decide_eq_false c9
                  clear c9
                  obtain rfl := Option.some.inj H
                  go_enter Try.func7, Try.ntmps7
                  go_wp2
                  go_ret
                  exact ⟨by first | rfl | (simp; done) | (simp [*]; done), by repeat (first | exact Drawn0.refl _ | apply Drawn0.step)⟩
            · rw [if_neg c7] at H
              have c7b0 : decide (57344 ≤ a0) = false := decide_eq_false c7
              clear c7
              by_cases c10 : a0 ≥ 65536
              · rw [if_pos c10] at H
                have c10b0 : decide (65536 ≤ a0) = true := decide_eq_true c10
                clear c10
                obtain rfl := Option.some.inj H
                go_enter Try.func7, Try.ntmps7
                go_wp2
                go_ret
                exact ⟨by first | rfl | (simp; done) | (simp [*]; done), by repeat (first | exact Drawn0.refl _ | apply Drawn0.step)⟩
              · rw [if_neg c10] at H
                have c10b0 : decide (65536 ≤ a0) = false := decide_eq_false c10
                clear c10
                obtain rfl := Option.some.inj H
                go_enter Try.func7, Try.ntmps7
                go_wp2
                go_ret
                exact ⟨by first | rfl | (simp; done) | (simp [*]; done), by repeat (first | exact Drawn0.refl _ | apply Drawn0.step)⟩
        · rw [if_neg c5] at H
          have c5b0 : decide (32 ≤ a0) = false := decide_eq_false c5
          clear c5
          by_cases c11 : a0 ≥ 57344
          · rw [if_pos c11] at H
            have c11b0 : decide (57344 ≤ a0) = true := decide_eq_true c11
            clear c11
            by_cases c12 : a0 ≤ 65533
            · rw [if_pos c12] at H
              have c12b0 : decide (a0 ≤ 65533) = true := decide_eq_true c12
              clear c12
              obtain rfl := Option.some.inj H
              go_enter Try.func7, Try.ntmps7
              go_wp2
              go_ret
              exact ⟨by first | rfl | (simp; done) | (simp [*]; done), by repeat (first | exact Drawn0.refl _ | apply Drawn0.step)⟩
            · rw [if_neg c12] at H
              have c12b0 : decide (a0 ≤ 65533) = false := decide_eq_false c12
              clear c12
              by_cases c13 : a0 ≥ 65536
              · rw [if_pos c13] at H
                have c13b0 : decide (65536 ≤ a0) = true := decide_eq_true c13
                clear c13
                obtain rfl := Option.some.inj H
                go_enter Try.func7, Try.ntmps7
                go_wp2
                go_ret
                exact ⟨by first | rfl | (simp; done) | (simp [*]; done), by repeat (first | exact Drawn0.refl _ | apply Drawn0.step)⟩
              · rw [if_neg c13] at H
                have c13b0 : decide (65536 ≤ a0) = false := decide_eq_false c13
                clear c13
                obtain rfl := Option.some.inj H
                go_enter Try.func7, Try.ntmps7
                go_wp2
                go_ret
                exact ⟨by first | rfl | (simp; done) | (simp [*]; done), by repeat (first | exact Drawn0.refl _ | apply Drawn0.step)⟩
          · rw [if_neg c11] at H
            have c11b0 : decide (57344 ≤ a0) = false := decide_eq_false c11
            clear c11
            by_cases c14 : a0 ≥ 65536
            · rw [if_pos c14] at H
              have c14b0 : decide (65536 ≤ a0) = true := decide_eq_true c14
              clear c14
              obtain rfl := Option.some.inj H
              go_enter Try.func7, Try.ntmps7
              go_wp2
              go_ret
              exact ⟨by first | rfl | (simp; done) | (simp [*]; done), by repeat (first | exact Drawn0.refl _ | apply Drawn0.step)⟩
            · rw [if_neg c14] at H
              have c14b0 : decide (65536 ≤ a0) = false := decide_eq_false c14
              clear c14
              obtain rfl := Option.some.inj H
              go_enter Try.func7, Try.ntmps7
              go_wp2
              go_ret
              exact ⟨by first | rfl | (simp; done) | (simp [*]; done), by repeat (first | exact Drawn0.refl _ | apply Drawn0.step)⟩

/-! ### laws_FnInRange: function 3 -/
def laws_FnInRange.f (a0 : Int) : Option (Bool) := if a0 < 0 then (some true) else (if a0 > 1114111 then (some true) else ((impl_InRange.f a0).bind fun t103 => ((spec_IsChar.f a0).bind fun t104 => (if (t103 == t104) = true then ((impl_InRange.f 97).bind fun t105 => (some t105)) else (some false)))))
set_option maxHeartbeats 8000000 in
set_option maxRecDepth 100000 in
theorem laws_FnInRange.calls (a0 : Int) (r : Bool) (w : World) (h : laws_FnInRange.f a0 = some r) :
    Calls Try.prog 3 #[.int .i64 a0] w fun e w' => e = .returned (.bool r) ∧ Drawn0 w w' := by
  have H : (if a0 < 0 then (some true) else (if a0 > 1114111 then (some true) else ((impl_InRange.f a0).bind fun t103 => ((spec_IsChar.f a0).bind fun t104 => (if (t103 == t104) = true then ((impl_InRange.f 97).bind fun t105 => (some t105)) else (some false)))))) = some r := h
  clear h
  by_cases c2 : a0 < 0
  · rw [if_pos c2] at H
    have c2b0 : decide (a0 < 0) = true := decide_eq_true c2
    clear c2
    obtain rfl := Option.some.inj H
    go_enter Try.func3, Try.ntmps3
    go_wp2
    go_ret
    exact ⟨by first | rfl | (simp; done) | (simp [*]; done), by repeat (first | exact Drawn0.refl _ | apply Drawn0.step)⟩
  · rw [if_neg c2] at H
    have c2b0 : decide (a0 < 0) = false := decide_eq_false c2
    clear c2
    by_cases c3 : a0 > 1114111
    · rw [if_pos c3] at H
      have c3b0 : decide (1114111 < a0) = true := decide_eq_true c3
      clear c3
      obtain rfl := Option.some.inj H
      go_enter Try.func3, Try.ntmps3
      go_wp2
      go_ret
      exact ⟨by first | rfl | (simp; done) | (simp [*]; done), by repeat (first | exact Drawn0.refl _ | apply Drawn0.step)⟩
    · rw [if_neg c3] at H
      have c3b0 : decide (1114111 < a0) = false := decide_eq_false c3
      clear c3
      replace H := Option.bind_eq_some_iff.mp H
      obtain ⟨t103, A40, H⟩ := H
      replace H : ((spec_IsChar.f a0).bind fun t104 => (if (t103 == t104) = true then ((impl_InRange.f 97).bind fun t105 => (some t105)) else (some false))) = some r := H
      have A4 := Aside0.mk A40
      clear A40
      replace H := Option.bind_eq_some_iff.mp H
      obtain ⟨t104, A50, H⟩ := H
      replace H : (if (t103 == t104) = true then ((impl_InRange.f 97).bind fun t105 => (some t105)) else (some false)) = some r := H
      have A5 := Aside0.mk A50
      clear A50
      by_cases c6 : (t103 == t104) = true
      · rw [if_pos c6] at H
        have c6b0 : (t103 == t104) = true := c6
        (try (have c6b1 : decide (t103 = t104) = true := by simpa using c6))
        (try (have c6b2 : (t103 == t104) = true := by simpa using c6))
        clear c6
        replace H := Option.bind_eq_some_iff.mp H
        obtain ⟨t105, A70, H⟩ := H
        replace H : (some t105) = some r := H
        have A7 := Aside0.mk A70
        clear A70
        obtain rfl := Option.some.inj H
        go_enter Try.func3, Try.ntmps3
        go_wp2_with (first | (go_at_call 6; (with_reducible refine (impl_InRange.calls a0 t103 _ A4.out).mono ?_); rintro e w' ⟨rfl, ⟨nd, rfl⟩⟩) | (go_at_call 7; (with_reducible refine (spec_IsChar.calls a0 t104 _ A5.out).mono ?_); rintro e w' ⟨rfl, ⟨nd, rfl⟩⟩) | (go_at_call 6; (with_reducible refine (impl_InRange.calls 97 t105 _ A7.out).mono ?_); rintro e w' ⟨rfl, ⟨nd, rfl⟩⟩))
        go_ret
        exact ⟨by first | rfl | (simp; done) | (simp [*]; done), by repeat (first | exact Drawn0.refl _ | apply Drawn0.step)⟩
      · rw [if_neg c6] at H
        have c6b0 : (t103 == t104) = false := by simpa using c6
        (try (have c6b1 : decide (t103 = t104) = false := by simpa using c6))
        (try (have c6b2 : (t103 == t104) = false := by simpa using c6))
        (try (have c6b3 : ¬ (t103 = t104) := by simpa using c6))
        clear c6
        obtain rfl := Option.some.inj H
        go_enter Try.func3, Try.ntmps3
        go_wp2_with (first | (go_at_call 6; (with_reducible refine (impl_InRange.calls a0 t103 _ A4.out).mono ?_); rintro e w' ⟨rfl, ⟨nd, rfl⟩⟩) | (go_at_call 7; (with_reducible refine (spec_IsChar.calls a0 t104 _ A5.out).mono ?_); rintro e w' ⟨rfl, ⟨nd, rfl⟩⟩))
        go_ret
        exact ⟨by first | rfl | (simp; done) | (simp [*]; done), by repeat (first | exact Drawn0.refl _ | apply Drawn0.step)⟩

/-- THE ONE PURE STATEMENT of laws_FnInRange: yours. -/
def laws_FnInRange.Pure : Prop := ∀ (a0 : Int), (Lit.int .i64 a0).wf = true → laws_FnInRange.f a0 = some true
theorem laws_FnInRange.walk (P : laws_FnInRange.Pure) (a0 : Int) (w : World) (w0 : (Lit.int .i64 a0).wf = true) :
    Calls Try.prog 3 #[.int .i64 a0] w fun e w' => e = .returned (.bool true) ∧ Below w.heap.size w w' := by
  have h := P a0 w0
  refine (laws_FnInRange.calls a0 true w h).mono ?_
  rintro e w' ⟨rfl, hd⟩
  exact ⟨rfl, hd.below⟩

end Go.Proofs.Ytfcefkenpndblaa.PFnInRange
