-- PRINTED BY print.sh 35421559b90ae4d0a3588c463048766b98c2df88dd9212a6774a882060cdf62d: not written by this session
import Derived.Test.YtfchmbhbkhgfnaaDoorPFnEscapePartsx0
import Derived.Test.YtfchmbhbkhgfnaaDoorPFnEscapePartsx1
namespace Go.Proofs.YtfchmbhbkhgfnaaDoor.PFnEscapeParts
open Go.RowKit Go.Proofs.YtfchmbhbkhgfnaaDoorW.PrintWords Go.Proofs.YtfchmbhbkhgfnaaDoorW.PrintLast Go.Proofs.YtfchmbhbkhgfnaaDoorW.PrintMore
attribute [local go_sem] max2_int min2_int max_two min_two max_three min_three max_four min_four   -- for this text's walks alone
set_option linter.unusedVariables false
set_option linter.unusedSimpArgs false

/-! ### spec_Chars: function 5 -/
def spec_Chars.l0 : Nat → ByteArray → Option (Bool)
  | 0, _ => none
  | k + 1, x0 => if x0.toList = ([] : List UInt8) then (some true) else ((spec_Decode.f k x0).bind fun bt101 => (if bt101.2 = 0 then (some false) else ((spec_IsChar.f bt101.1).bind fun t103 => (if t103 = true then (if 0 ≤ bt101.2 then (if bt101.2 ≤ (x0.size : Int) then (spec_Chars.l0 k (x0.extract (bt101.2 : Int).toNat x0.size)) else (none)) else (none)) else (some false)))))
def spec_Chars.f (k : Nat) (a0 : ByteArray) : Option (Bool) := spec_Chars.l0 k a0
theorem spec_Chars.mono_l : ∀ k, (∀ y0, LeO (spec_Chars.l0 k y0) (spec_Chars.l0 (k + 1) y0))
  | 0 => fun _ r h => by simp [spec_Chars.l0] at h
  | k + 1 => by
    have ih0 := spec_Chars.mono_l k
    · intro y0
      unfold spec_Chars.l0
      repeat' first
      | (with_reducible exact ih0 _)
      | (with_reducible exact spec_Decode.mono _ _)
      | (with_reducible exact LeO.refl _)
      | (with_reducible exact LeO.none _)
      | (with_reducible refine LeO.ite ?_ ?_)
      | (with_reducible refine LeO.bind ?_ (fun _ => ?_))
      | exact ih0 _
      | exact spec_Decode.mono _ _
      | exact LeO.none _
      | refine LeO.ite ?_ ?_
      | refine LeO.bind ?_ (fun _ => ?_)
theorem spec_Chars.mono : ∀ a0 k, LeO (spec_Chars.f k a0) (spec_Chars.f (k + 1) a0) := by
  intro a0 k
  have ih0 := spec_Chars.mono_l k
  unfold spec_Chars.f
  repeat' first
      | (with_reducible exact ih0 _)
      | (with_reducible exact spec_Decode.mono _ _)
      | (with_reducible exact LeO.refl _)
      | (with_reducible exact LeO.none _)
      | (with_reducible refine LeO.ite ?_ ?_)
      | (with_reducible refine LeO.bind ?_ (fun _ => ?_))
      | exact ih0 _
      | exact spec_Decode.mono _ _
      | exact LeO.none _
      | refine LeO.ite ?_ ?_
      | refine LeO.bind ?_ (fun _ => ?_)
set_option maxHeartbeats 8000000 in
set_option maxRecDepth 100000 in
theorem spec_Chars.calls (k : Nat) (a0 : ByteArray) (r : Bool) (w : World) (h : spec_Chars.f k a0 = some r) :
    Calls Tryd.prog 5 #[.string a0] w fun e w' => e = .returned (.bool r) ∧ Drawn0 w w' := by
  have H : (spec_Chars.l0 k a0) = some r := h
  clear h
  have H' := Aside0.mk H
  clear H
  go_enter Tryd.func5, Tryd.ntmps5
  go_wp2
  go_loopg [0] k (fun kq v0 w' => ∃ (x0_1 : ByteArray), v0 = .string x0_1 ∧ Aside0 (spec_Chars.l0 kq x0_1 = some r) ∧ Aside0 (kq ≤ k) ∧ Drawn0 w w')
  case atStart => exact ⟨(a0), (by first | rfl | (simp; done) | (simp [*]; done)), H', ⟨Nat.le_refl _⟩, by repeat (first | exact Drawn0.refl _ | apply Drawn0.step)⟩
  case round =>
    clear H'
    obtain ⟨x0_1, rfl, HA, HK1, ⟨m1, rfl⟩⟩ := hrel
    cases gk with
    | zero => exact absurd HA.out (by simp [spec_Chars.l0])
    | succ k1 =>
      have H := HA.out
      clear HA
      simp only [spec_Chars.l0] at H
      by_cases c2 : x0_1.toList = ([] : List UInt8)
      · rw [if_pos c2] at H
        have c2b0 : (x0_1.toList == ([] : List UInt8)) = true := beq_iff_eq.mpr c2
        have c2b1 : (x0_1.toList != ([] : List UInt8)) = false := bne_eq_false_iff_eq.mpr c2
        clear c2
        obtain rfl := Option.some.inj H
        go_wp2
        go_ret
        exact ⟨by first | rfl | (simp; done) | (simp [*]; done), by repeat (first | exact Drawn0.refl _ | apply Drawn0.step)⟩
      · rw [if_neg c2] at H
        have c2b0 : (x0_1.toList == ([] : List UInt8)) = false := beq_eq_false_iff_ne.mpr c2
        have c2b1 : (x0_1.toList != ([] : List UInt8)) = true := bne_iff_ne.mpr c2
        replace H := Option.bind_eq_some_iff.mp H
        obtain ⟨⟨t101, t102⟩, A30, H⟩ := H
        replace H : (if t102 = 0 then (some false) else ((spec_IsChar.f t101).bind fun t103 => (if t103 = true then (if 0 ≤ t102 then (if t102 ≤ (x0_1.size : Int) then (spec_Chars.l0 k1 (x0_1.extract (t102 : Int).toNat x0_1.size)) else (none)) else (none)) else (some false)))) = some r := H
        have A3 := Aside0.mk A30
        clear A30
        by_cases c4 : t102 = 0
        · rw [if_pos c4] at H
          have c4b0 : (t102 == 0) = true := beq_iff_eq.mpr c4
          have c4b1 : (t102 != 0) = false := bne_eq_false_iff_eq.mpr c4
          clear c4
          obtain rfl := Option.some.inj H
          go_wp2_with (first | ((with_reducible refine gate_callee (f := 8) rfl ?_); refine goesL_ (some 9) rfl rfl Tryd.func8 (by kernel_rfl) rfl #[.string x0_1] rfl (by (try simp only [List.map_toArray, List.map_cons, List.map_nil]); first | done | rfl | (simp only [List.length_drop, List.length_take]; rfl)) ?_; (with_reducible refine (spec_Decode.calls k1 x0_1 t101 t102 _ A3.out).mono ?_); rintro e w' ⟨rfl, ⟨nd, rfl⟩⟩; refine ⟨_, rfl, ?_⟩))
          go_ret
          exact ⟨by first | rfl | (simp; done) | (simp [*]; done), by repeat (first | exact Drawn0.refl _ | apply Drawn0.step)⟩
        · rw [if_neg c4] at H
          have c4b0 : (t102 == 0) = false := beq_eq_false_iff_ne.mpr c4
          have c4b1 : (t102 != 0) = true := bne_iff_ne.mpr c4
          replace H := Option.bind_eq_some_iff.mp H
          obtain ⟨t103, A50, H⟩ := H
          replace H : (if t103 = true then (if 0 ≤ t102 then (if t102 ≤ (x0_1.size : Int) then (spec_Chars.l0 k1 (x0_1.extract (t102 : Int).toNat x0_1.size)) else (none)) else (none)) else (some false)) = some r := H
          have A5 := Aside0.mk A50
          clear A50
          by_cases c6 : t103 = true
          · subst c6
            have H1 : (if 0 ≤ t102 then (if t102 ≤ (x0_1.size : Int) then (spec_Chars.l0 k1 (x0_1.extract (t102 : Int).toNat x0_1.size)) else (none)) else (none)) = some r := by rw [if_pos rfl] at H; exact H
            clear H
            have H := H1
            clear H1
            by_cases c7 : 0 ≤ t102
            · rw [if_pos c7] at H
              have c7b0 := eq_true c7
              have c7b1 : decide (0 ≤ t102) = true := decide_eq_true c7
              clear c7
              by_cases c8 : t102 ≤ (x0_1.size : Int)
              · rw [if_pos c8] at H
                have c8b0 := eq_true c8
                have c8b1 : decide (t102 ≤ (x0_1.size : Int)) = true := decide_eq_true c8
                clear c8
                have H' := Aside0.mk H
                clear H
                go_wp2_with (first | ((with_reducible refine gate_callee (f := 8) rfl ?_); refine goesL_ (some 9) rfl rfl Tryd.func8 (by kernel_rfl) rfl #[.string x0_1] rfl (by (try simp only [List.map_toArray, List.map_cons, List.map_nil]); first | done | rfl | (simp only [List.length_drop, List.length_take]; rfl)) ?_; (with_reducible refine (spec_Decode.calls k1 x0_1 t101 t102 _ A3.out).mono ?_); rintro e w' ⟨rfl, ⟨nd, rfl⟩⟩; refine ⟨_, rfl, ?_⟩) | (go_at_call 9; (with_reducible refine (spec_IsChar.calls t101 true _ A5.out).mono ?_); rintro e w' ⟨rfl, ⟨nd, rfl⟩⟩))
                go_roundg k1
                case measure => have := HK1.out; omega
                case rel => exact ⟨(x0_1.extract (t102 : Int).toNat x0_1.size), (by first | rfl | (simp; done) | (simp [*]; done)), H', ⟨by have := HK1.out; omega⟩, by repeat (first | exact Drawn0.refl _ | apply Drawn0.step)⟩
              · rw [if_neg c8] at H
                exact absurd H (by simp)
            · rw [if_neg c7] at H
              exact absurd H (by simp)
          · replace c6 := Bool.eq_false_iff.mpr c6
            subst c6
            have H1 : (some false) = some r := by rw [if_neg (show ¬ (false = true) by decide)] at H; exact H
            clear H
            have H := H1
            clear H1
            obtain rfl := Option.some.inj H
            go_wp2_with (first | ((with_reducible refine gate_callee (f := 8) rfl ?_); refine goesL_ (some 9) rfl rfl Tryd.func8 (by kernel_rfl) rfl #[.string x0_1] rfl (by (try simp only [List.map_toArray, List.map_cons, List.map_nil]); first | done | rfl | (simp only [List.length_drop, List.length_take]; rfl)) ?_; (with_reducible refine (spec_Decode.calls k1 x0_1 t101 t102 _ A3.out).mono ?_); rintro e w' ⟨rfl, ⟨nd, rfl⟩⟩; refine ⟨_, rfl, ?_⟩) | (go_at_call 9; (with_reducible refine (spec_IsChar.calls t101 false _ A5.out).mono ?_); rintro e w' ⟨rfl, ⟨nd, rfl⟩⟩))
            go_ret
            exact ⟨by first | rfl | (simp; done) | (simp [*]; done), by repeat (first | exact Drawn0.refl _ | apply Drawn0.step)⟩

-- NOT PRINTED: function 39 (utf8_decodeRuneSlow)

-- NOT PRINTED: function 24 (utf8_DecodeRune)

/-! ### xml_isInCharacterRange: function 25 -/
def xml_isInCharacterRange.f (a0 : Int) : Option (Bool) := if a0 = 9 then (some true) else (if a0 = 10 then (some true) else (if a0 = 13 then (some true) else (if a0 ≥ 32 then (if a0 ≤ 55295 then (some true) else (if a0 ≥ 57344 then (if a0 ≤ 65533 then (some true) else (if a0 ≥ 65536 then (some (decide (a0 ≤ 1114111))) else (some false))) else (if a0 ≥ 65536 then (some (decide (a0 ≤ 1114111))) else (some false)))) else (if a0 ≥ 57344 then (if a0 ≤ 65533 then (some true) else (if a0 ≥ 65536 then (some (decide (a0 ≤ 1114111))) else (some false))) else (if a0 ≥ 65536 then (some (decide (a0 ≤ 1114111))) else (some false))))))
set_option maxHeartbeats 8000000 in
set_option maxRecDepth 100000 in
theorem xml_isInCharacterRange.calls (a0 : Int) (r : Bool) (w : World) (h : xml_isInCharacterRange.f a0 = some r) :
    Calls Tryd.prog 25 #[.int .i32 a0] w fun e w' => e = .returned (.bool r) ∧ Drawn0 w w' := by
  have H : (if a0 = 9 then (some true) else (if a0 = 10 then (some true) else (if a0 = 13 then (some true) else (if a0 ≥ 32 then (if a0 ≤ 55295 then (some true) else (if a0 ≥ 57344 then (if a0 ≤ 65533 then (some true) else (if a0 ≥ 65536 then (some (decide (a0 ≤ 1114111))) else (some false))) else (if a0 ≥ 65536 then (some (decide (a0 ≤ 1114111))) else (some false)))) else (if a0 ≥ 57344 then (if a0 ≤ 65533 then (some true) else (if a0 ≥ 65536 then (some (decide (a0 ≤ 1114111))) else (some false))) else (if a0 ≥ 65536 then (some (decide (a0 ≤ 1114111))) else (some false))))))) = some r := h
  clear h
  by_cases c2 : a0 = 9
  · rw [if_pos c2] at H
    have c2b0 : (a0 == 9) = true := beq_iff_eq.mpr c2
    have c2b1 : (a0 != 9) = false := bne_eq_false_iff_eq.mpr c2
    clear c2
    obtain rfl := Option.some.inj H
    go_enter Tryd.func25, Tryd.ntmps25
    go_wp2
    go_ret
    exact ⟨by first | rfl | (simp; done) | (simp [*]; done), by repeat (first | exact Drawn0.refl _ | apply Drawn0.step)⟩
  · rw [if_neg c2] at H
    have c2b0 : (a0 == 9) = false := beq_eq_false_iff_ne.mpr c2
    have c2b1 : (a0 != 9) = true := bne_iff_ne.mpr c2
    by_cases c3 : a0 = 10
    · rw [if_pos c3] at H
      have c3b0 : (a0 == 10) = true := beq_iff_eq.mpr c3
      have c3b1 : (a0 != 10) = false := bne_eq_false_iff_eq.mpr c3
      clear c3
      obtain rfl := Option.some.inj H
      go_enter Tryd.func25, Tryd.ntmps25
      go_wp2
      go_ret
      exact ⟨by first | rfl | (simp; done) | (simp [*]; done), by repeat (first | exact Drawn0.refl _ | apply Drawn0.step)⟩
    · rw [if_neg c3] at H
      have c3b0 : (a0 == 10) = false := beq_eq_false_iff_ne.mpr c3
      have c3b1 : (a0 != 10) = true := bne_iff_ne.mpr c3
      by_cases c4 : a0 = 13
      · rw [if_pos c4] at H
        have c4b0 : (a0 == 13) = true := beq_iff_eq.mpr c4
        have c4b1 : (a0 != 13) = false := bne_eq_false_iff_eq.mpr c4
        clear c4
        obtain rfl := Option.some.inj H
        go_enter Tryd.func25, Tryd.ntmps25
        go_wp2
        go_ret
        exact ⟨by first | rfl | (simp; done) | (simp [*]; done), by repeat (first | exact Drawn0.refl _ | apply Drawn0.step)⟩
      · rw [if_neg c4] at H
        have c4b0 : (a0 == 13) = false := beq_eq_false_iff_ne.mpr c4
        have c4b1 : (a0 != 13) = true := bne_iff_ne.mpr c4
        by_cases c5 : a0 ≥ 32
        · rw [if_pos c5] at H
          have c5b0 : decide (32 ≤ a0) = true := decide_eq_true c5
          clear c5
          by_cases c6 : a0 ≤ 55295
          · rw [if_pos c6] at H
            have c6b0 : decide (a0 ≤ 55295) = true := decide_eq_true c6
            clear c6
            obtain rfl := Option.some.inj H
            go_enter Tryd.func25, Tryd.ntmps25
            go_wp2
            go_ret
            exact ⟨by first | rfl | (simp; done) | (simp [*]; done), by repeat (first | exact Drawn0.refl _ | apply Drawn0.step)⟩
          · rw [if_neg c6] at H
            have c6b0 : decide (a0 ≤ 55295) = false := decide_eq_false c6
            clear c6
            by_cases c7 : a0 ≥ 57344
            · rw [if_pos c7] at H
              have c7b0 : decide (57344 ≤ a0) = true := decide_eq_true c7
              clear c7
              by_cases c8 : a0 ≤ 65533
              · rw [if_pos c8] at H
                have c8b0 : decide (a0 ≤ 65533) = true := decide_eq_true c8
                clear c8
                obtain rfl := Option.some.inj H
                go_enter Tryd.func25, Tryd.ntmps25
                go_wp2
                go_ret
                exact ⟨by first | rfl | (simp; done) | (simp [*]; done), by repeat (first | exact Drawn0.refl _ | apply Drawn0.step)⟩
              · rw [if_neg c8] at H
                have c8b0 : decide (a0 ≤ 65533) = false := decide_eq_false c8
                clear c8
                by_cases c9 : a0 ≥ 65536
                · rw [if_pos c9] at H
                  have c9b0 : decide (65536 ≤ a0) = true := decide_eq_true c9
                  clear c9
                  obtain rfl := Option.some.inj H
                  go_enter Tryd.func25, Tryd.ntmps25
                  go_wp2
                  go_ret
                  exact ⟨by first | rfl | (simp; done) | (simp [*]; done), by repeat (first | exact Drawn0.refl _ | apply Drawn0.step)⟩
                · rw [if_neg c9] at H
                  have c9b0 : decide (65536 ≤ a0) = false := decide_eq_false c9
                  clear c9
                  obtain rfl := Option.some.inj H
                  go_enter Tryd.func25, Tryd.ntmps25
                  go_wp2
                  go_ret
                  exact ⟨by first | rfl | (simp; done) | (simp [*]; done), by repeat (first | exact Drawn0.refl _ | apply Drawn0.step)⟩
            · rw [if_neg c7] at H
              have c7b0 : decide (57344 ≤ a0) = false := decide_eq_false c7
              clear c7
              by_cases c10 : a0 ≥ 65536
              · rw [if_pos c10] at H
                have c10b0 : decide (65536 ≤ a0) = true := decide_eq_true c10
                clear c10
                obtain rfl := Option.some.inj H
                go_enter Tryd.func25, Tryd.ntmps25
                go_wp2
                go_ret
                exact ⟨by first | rfl | (simp; done) | (simp [*]; done), by repeat (first | exact Drawn0.refl _ | apply Drawn0.step)⟩
              · rw [if_neg c10] at H
                have c10b0 : decide (65536 ≤ a0) = false := decide_eq_false c10
                clear c10
                obtain rfl := Option.some.inj H
                go_enter Tryd.func25, Tryd.ntmps25
                go_wp2
                go_ret
                exact ⟨by first | rfl | (simp; done) | (simp [*]; done), by repeat (first | exact Drawn0.refl _ | apply Drawn0.step)⟩
        · rw [if_neg c5] at H
          have c5b0 : decide (32 ≤ a0) = false := decide_eq_false c5
          clear c5
          by_cases c11 : a0 ≥ 57344
          · rw [if_pos c11] at H
            have c11b0 : decide (57344 ≤ a0) = true := decide_eq_true c11
            clear c11
            by_cases c12 : a0 ≤ 65533
            · rw [if_pos c12] at H
              have c12b0 : decide (a0 ≤ 65533) = true := decide_eq_true c12
              clear c12
              obtain rfl := Option.some.inj H
              go_enter Tryd.func25, Tryd.ntmps25
              go_wp2
              go_ret
              exact ⟨by first | rfl | (simp; done) | (simp [*]; done), by repeat (first | exact Drawn0.refl _ | apply Drawn0.step)⟩
            · rw [if_neg c12] at H
              have c12b0 : decide (a0 ≤ 65533) = false := decide_eq_false c12
              clear c12
              by_cases c13 : a0 ≥ 65536
              · rw [if_pos c13] at H
                have c13b0 : decide (65536 ≤ a0) = true := decide_eq_true c13
                clear c13
                obtain rfl := Option.some.inj H
                go_enter Tryd.func25, Tryd.ntmps25
                go_wp2
                go_ret
                exact ⟨by first | rfl | (simp; done) | (simp [*]; done), by repeat (first | exact Drawn0.refl _ | apply Drawn0.step)⟩
              · rw [if_neg c13] at H
                have c13b0 : decide (65536 ≤ a0) = false := decide_eq_false c13
                clear c13
                obtain rfl := Option.some.inj H
                go_enter Tryd.func25, Tryd.ntmps25
                go_wp2
                go_ret
                exact ⟨by first | rfl | (simp; done) | (simp [*]; done), by repeat (first | exact Drawn0.refl _ | apply Drawn0.step)⟩
          · rw [if_neg c11] at H
            have c11b0 : decide (57344 ≤ a0) = false := decide_eq_false c11
            clear c11
            by_cases c14 : a0 ≥ 65536
            · rw [if_pos c14] at H
              have c14b0 : decide (65536 ≤ a0) = true := decide_eq_true c14
              clear c14
              obtain rfl := Option.some.inj H
              go_enter Tryd.func25, Tryd.ntmps25
              go_wp2
              go_ret
              exact ⟨by first | rfl | (simp; done) | (simp [*]; done), by repeat (first | exact Drawn0.refl _ | apply Drawn0.step)⟩
            · rw [if_neg c14] at H
              have c14b0 : decide (65536 ≤ a0) = false := decide_eq_false c14
              clear c14
              obtain rfl := Option.some.inj H
              go_enter Tryd.func25, Tryd.ntmps25
              go_wp2
              go_ret
              exact ⟨by first | rfl | (simp; done) | (simp [*]; done), by repeat (first | exact Drawn0.refl _ | apply Drawn0.step)⟩

-- NOT PRINTED: function 13 (xml_escapeText)

-- NOT PRINTED: function 10 (xml_EscapeText)

-- NOT PRINTED: function 6 (impl_EscapeText)

-- NOT PRINTED: function 3 (laws_FnEscapeParts)

end Go.Proofs.YtfchmbhbkhgfnaaDoor.PFnEscapeParts
