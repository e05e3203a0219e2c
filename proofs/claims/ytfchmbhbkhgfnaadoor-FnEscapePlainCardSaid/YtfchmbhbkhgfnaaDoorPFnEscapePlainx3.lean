-- PRINTED BY print.sh 35421559b90ae4d0a3588c463048766b98c2df88dd9212a6774a882060cdf62d: not written by this session
import Derived.Test.YtfchmbhbkhgfnaaDoorPFnEscapePlainx0
import Derived.Test.YtfchmbhbkhgfnaaDoorPFnEscapePlainx2
namespace Go.Proofs.YtfchmbhbkhgfnaaDoor.PFnEscapePlain
open Go.RowKit Go.Proofs.YtfchmbhbkhgfnaaDoorW.PrintWords Go.Proofs.YtfchmbhbkhgfnaaDoorW.PrintLast Go.Proofs.YtfchmbhbkhgfnaaDoorW.PrintMore
attribute [local go_sem] max2_int min2_int max_two min_two max_three min_three max_four min_four   -- for this text's walks alone
set_option linter.unusedVariables false
set_option linter.unusedSimpArgs false

/-! ### spec_Chars: function 5 -/
def spec_Chars.l0 : Nat → ByteArray → Option (Bool)
  | 0, _ => none
  | k + 1, x0 => if x0.toList = ([] : List UInt8) then (some true) else ((spec_Decode.f k x0).bind fun bt104 => (if bt104.2 = 0 then (some false) else ((spec_IsChar.f bt104.1).bind fun t106 => (if t106 = true then (if 0 ≤ bt104.2 then (if bt104.2 ≤ (x0.size : Int) then (spec_Chars.l0 k (x0.extract (bt104.2 : Int).toNat x0.size)) else (none)) else (none)) else (some false)))))
def spec_Chars.f (k : Nat) (a0 : ByteArray) : Option (Bool) := spec_Chars.l0 k a0
theorem spec_Chars.mono_l : ∀ k, (∀ y0, LeO (spec_Chars.l0 k y0) (spec_Chars.l0 (k + 1) y0))
  | 0 => fun _ r h => by simp [spec_Chars.l0] at h
  | k + 1 => by
    have ih0 := spec_Chars.mono_l k
    · intro y0
      unfold spec_Chars.l0
      repeat' first
      | (with_reducible exact ih0 _)
      | (with_reducible exact spec_Decode.mono _ _)
      | (with_reducible exact LeO.refl _)
      | (with_reducible exact LeO.none _)
      | (with_reducible refine LeO.ite ?_ ?_)
      | (with_reducible refine LeO.bind ?_ (fun _ => ?_))
      | exact ih0 _
      | exact spec_Decode.mono _ _
      | exact LeO.none _
      | refine LeO.ite ?_ ?_
      | refine LeO.bind ?_ (fun _ => ?_)
theorem spec_Chars.mono : ∀ a0 k, LeO (spec_Chars.f k a0) (spec_Chars.f (k + 1) a0) := by
  intro a0 k
  have ih0 := spec_Chars.mono_l k
  unfold spec_Chars.f
  repeat' first
      | (with_reducible exact ih0 _)
      | (with_reducible exact spec_Decode.mono _ _)
      | (with_reducible exact LeO.refl _)
      | (with_reducible exact LeO.none _)
      | (with_reducible refine LeO.ite ?_ ?_)
      | (with_reducible refine LeO.bind ?_ (fun _ => ?_))
      | exact ih0 _
      | exact spec_Decode.mono _ _
      | exact LeO.none _
      | refine LeO.ite ?_ ?_
      | refine LeO.bind ?_ (fun _ => ?_)
set_option maxHeartbeats 8000000 in
set_option maxRecDepth 100000 in
theorem spec_Chars.calls (k : Nat) (a0 : ByteArray) (r : Bool) (w : World) (h : spec_Chars.f k a0 = some r) :
    Calls Tryd.prog 5 #[.string a0] w fun e w' => e = .returned (.bool r) ∧ Drawn0 w w' := by
  have H : (spec_Chars.l0 k a0) = some r := h
  clear h
  have H' := Aside0.mk H
  clear H
  go_enter Tryd.func5, Tryd.ntmps5
  go_wp2
  go_loopg [0] k (fun kq v0 w' => ∃ (x0_1 : ByteArray), v0 = .string x0_1 ∧ Aside0 (spec_Chars.l0 kq x0_1 = some r) ∧ Aside0 (kq ≤ k) ∧ Drawn0 w w')
  case atStart => exact ⟨(a0), (by first | rfl | (simp; done) | (simp [*]; done)), H', ⟨Nat.le_refl _⟩, by repeat (first | exact Drawn0.refl _ | apply Drawn0.step)⟩
  case round =>
    clear H'
    obtain ⟨x0_1, rfl, HA, HK1, ⟨m1, rfl⟩⟩ := hrel
    cases gk with
    | zero => exact absurd HA.out (by simp [spec_Chars.l0])
    | succ k1 =>
      have H := HA.out
      clear HA
      simp only [spec_Chars.l0] at H
      by_cases c2 : x0_1.toList = ([] : List UInt8)
      · rw [if_pos c2] at H
        have c2b0 : (x0_1.toList == ([] : List UInt8)) = true := beq_iff_eq.mpr c2
        have c2b1 : (x0_1.toList != ([] : List UInt8)) = false := bne_eq_false_iff_eq.mpr c2
        clear c2
        obtain rfl := Option.some.inj H
        go_wp2
        go_ret
        exact ⟨by first | rfl | (simp; done) | (simp [*]; done), by repeat (first | exact Drawn0.refl _ | apply Drawn0.step)⟩
      · rw [if_neg c2] at H
        have c2b0 : (x0_1.toList == ([] : List UInt8)) = false := beq_eq_false_iff_ne.mpr c2
        have c2b1 : (x0_1.toList != ([] : List UInt8)) = true := bne_iff_ne.mpr c2
        replace H := Option.bind_eq_some_iff.mp H
        obtain ⟨⟨t104, t105⟩, A30, H⟩ := H
        replace H : (if t105 = 0 then (some false) else ((spec_IsChar.f t104).bind fun t106 => (if t106 = true then (if 0 ≤ t105 then (if t105 ≤ (x0_1.size : Int) then (spec_Chars.l0 k1 (x0_1.extract (t105 : Int).toNat x0_1.size)) else (none)) else (none)) else (some false)))) = some r := H
        have A3 := Aside0.mk A30
        clear A30
        by_cases c4 : t105 = 0
        · rw [if_pos c4] at H
          have c4b0 : (t105 == 0) = true := beq_iff_eq.mpr c4
          have c4b1 : (t105 != 0) = false := bne_eq_false_iff_eq.mpr c4
          clear c4
          obtain rfl := Option.some.inj H
          go_wp2_with (first | ((with_reducible refine gate_callee (f := 8) rfl ?_); refine goesL_ (some 9) rfl rfl Tryd.func8 (by kernel_rfl) rfl #[.string x0_1] rfl (by (try simp only [List.map_toArray, List.map_cons, List.map_nil]); first | done | rfl | (simp only [List.length_drop, List.length_take]; rfl)) ?_; (with_reducible refine (spec_Decode.calls k1 x0_1 t104 t105 _ A3.out).mono ?_); rintro e w' ⟨rfl, ⟨nd, rfl⟩⟩; refine ⟨_, rfl, ?_⟩))
          go_ret
          exact ⟨by first | rfl | (simp; done) | (simp [*]; done), by repeat (first | exact Drawn0.refl _ | apply Drawn0.step)⟩
        · rw [if_neg c4] at H
          have c4b0 : (t105 == 0) = false := beq_eq_false_iff_ne.mpr c4
          have c4b1 : (t105 != 0) = true := bne_iff_ne.mpr c4
          replace H := Option.bind_eq_some_iff.mp H
          obtain ⟨t106, A50, H⟩ := H
          replace H : (if t106 = true then (if 0 ≤ t105 then (if t105 ≤ (x0_1.size : Int) then (spec_Chars.l0 k1 (x0_1.extract (t105 : Int).toNat x0_1.size)) else (none)) else (none)) else (some false)) = some r := H
          have A5 := Aside0.mk A50
          clear A50
          by_cases c6 : t106 = true
          · subst c6
            have H1 : (if 0 ≤ t105 then (if t105 ≤ (x0_1.size : Int) then (spec_Chars.l0 k1 (x0_1.extract (t105 : Int).toNat x0_1.size)) else (none)) else (none)) = some r := by rw [if_pos rfl] at H; exact H
            clear H
            have H := H1
            clear H1
            by_cases c7 : 0 ≤ t105
            · rw [if_pos c7] at H
              have c7b0 := eq_true c7
              have c7b1 : decide (0 ≤ t105) = true := decide_eq_true c7
              clear c7
              by_cases c8 : t105 ≤ (x0_1.size : Int)
              · rw [if_pos c8] at H
                have c8b0 := eq_true c8
                have c8b1 : decide (t105 ≤ (x0_1.size : Int)) = true := decide_eq_true c8
                clear c8
                have H' := Aside0.mk H
                clear H
                go_wp2_with (first | ((with_reducible refine gate_callee (f := 8) rfl ?_); refine goesL_ (some 9) rfl rfl Tryd.func8 (by kernel_rfl) rfl #[.string x0_1] rfl (by (try simp only [List.map_toArray, List.map_cons, List.map_nil]); first | done | rfl | (simp only [List.length_drop, List.length_take]; rfl)) ?_; (with_reducible refine (spec_Decode.calls k1 x0_1 t104 t105 _ A3.out).mono ?_); rintro e w' ⟨rfl, ⟨nd, rfl⟩⟩; refine ⟨_, rfl, ?_⟩) | (go_at_call 9; (with_reducible refine (spec_IsChar.calls t104 true _ A5.out).mono ?_); rintro e w' ⟨rfl, ⟨nd, rfl⟩⟩))
                go_roundg k1
                case measure => have := HK1.out; omega
                case rel => exact ⟨(x0_1.extract (t105 : Int).toNat x0_1.size), (by first | rfl | (simp; done) | (simp [*]; done)), H', ⟨by have := HK1.out; omega⟩, by repeat (first | exact Drawn0.refl _ | apply Drawn0.step)⟩
              · rw [if_neg c8] at H
                exact absurd H (by simp)
            · rw [if_neg c7] at H
              exact absurd H (by simp)
          · replace c6 := Bool.eq_false_iff.mpr c6
            subst c6
            have H1 : (some false) = some r := by rw [if_neg (show ¬ (false = true) by decide)] at H; exact H
            clear H
            have H := H1
            clear H1
            obtain rfl := Option.some.inj H
            go_wp2_with (first | ((with_reducible refine gate_callee (f := 8) rfl ?_); refine goesL_ (some 9) rfl rfl Tryd.func8 (by kernel_rfl) rfl #[.string x0_1] rfl (by (try simp only [List.map_toArray, List.map_cons, List.map_nil]); first | done | rfl | (simp only [List.length_drop, List.length_take]; rfl)) ?_; (with_reducible refine (spec_Decode.calls k1 x0_1 t104 t105 _ A3.out).mono ?_); rintro e w' ⟨rfl, ⟨nd, rfl⟩⟩; refine ⟨_, rfl, ?_⟩) | (go_at_call 9; (with_reducible refine (spec_IsChar.calls t104 false _ A5.out).mono ?_); rintro e w' ⟨rfl, ⟨nd, rfl⟩⟩))
            go_ret
            exact ⟨by first | rfl | (simp; done) | (simp [*]; done), by repeat (first | exact Drawn0.refl _ | apply Drawn0.step)⟩

/-! ### spec_begins: function 45 -/
def spec_begins.f (a0 : Int) : Option (Bool) := if a0 ≥ 97 then (if a0 ≤ 122 then (some true) else (if a0 ≥ 65 then (if a0 ≤ 90 then (some true) else (if a0 = 95 then (some true) else (if a0 = 58 then (some true) else (if a0 ≥ 192 then (if a0 ≤ 255 then (if a0 = 215 then (some false) else (some (a0 != 247))) else (some false)) else (some false))))) else (if a0 = 95 then (some true) else (if a0 = 58 then (some true) else (if a0 ≥ 192 then (if a0 ≤ 255 then (if a0 = 215 then (some false) else (some (a0 != 247))) else (some false)) else (some false)))))) else (if a0 ≥ 65 then (if a0 ≤ 90 then (some true) else (if a0 = 95 then (some true) else (if a0 = 58 then (some true) else (if a0 ≥ 192 then (if a0 ≤ 255 then (if a0 = 215 then (some false) else (some (a0 != 247))) else (some false)) else (some false))))) else (if a0 = 95 then (some true) else (if a0 = 58 then (some true) else (if a0 ≥ 192 then (if a0 ≤ 255 then (if a0 = 215 then (some false) else (some (a0 != 247))) else (some false)) else (some false)))))
set_option maxHeartbeats 8000000 in
set_option maxRecDepth 100000 in
theorem spec_begins.calls (a0 : Int) (r : Bool) (w : World) (h : spec_begins.f a0 = some r) :
    Calls Tryd.prog 45 #[.int .i64 a0] w fun e w' => e = .returned (.bool r) ∧ Drawn0 w w' := by
  have H : (if a0 ≥ 97 then (if a0 ≤ 122 then (some true) else (if a0 ≥ 65 then (if a0 ≤ 90 then (some true) else (if a0 = 95 then (some true) else (if a0 = 58 then (some true) else (if a0 ≥ 192 then (if a0 ≤ 255 then (if a0 = 215 then (some false) else (some (a0 != 247))) else (some false)) else (some false))))) else (if a0 = 95 then (some true) else (if a0 = 58 then (some true) else (if a0 ≥ 192 then (if a0 ≤ 255 then (if a0 = 215 then (some false) else (some (a0 != 247))) else (some false)) else (some false)))))) else (if a0 ≥ 65 then (if a0 ≤ 90 then (some true) else (if a0 = 95 then (some true) else (if a0 = 58 then (some true) else (if a0 ≥ 192 then (if a0 ≤ 255 then (if a0 = 215 then (some false) else (some (a0 != 247))) else (some false)) else (some false))))) else (if a0 = 95 then (some true) else (if a0 = 58 then (some true) else (if a0 ≥ 192 then (if a0 ≤ 255 then (if a0 = 215 then (some false) else (some (a0 != 247))) else (some false)) else (some false)))))) = some r := h
  clear h
  by_cases c2 : a0 ≥ 97
  · rw [if_pos c2] at H
    have c2b0 : decide (97 ≤ a0) = true := decide_eq_true c2
    clear c2
    by_cases c3 : a0 ≤ 122
    · rw [if_pos c3] at H
      have c3b0 : decide (a0 ≤ 122) = true := decide_eq_true c3
      clear c3
      obtain rfl := Option.some.inj H
      go_enter Tryd.func45, Tryd.ntmps45
      go_wp2
      go_ret
      exact ⟨by first | rfl | (simp; done) | (simp [*]; done), by repeat (first | exact Drawn0.refl _ | apply Drawn0.step)⟩
    · rw [if_neg c3] at H
      have c3b0 : decide (a0 ≤ 122) = false := decide_eq_false c3
      clear c3
      by_cases c4 : a0 ≥ 65
      · rw [if_pos c4] at H
        have c4b0 : decide (65 ≤ a0) = true := decide_eq_true c4
        clear c4
        by_cases c5 : a0 ≤ 90
        · rw [if_pos c5] at H
          have c5b0 : decide (a0 ≤ 90) = true := decide_eq_true c5
          clear c5
          obtain rfl := Option.some.inj H
          go_enter Tryd.func45, Tryd.ntmps45
          go_wp2
          go_ret
          exact ⟨by first | rfl | (simp; done) | (simp [*]; done), by repeat (first | exact Drawn0.refl _ | apply Drawn0.step)⟩
        · rw [if_neg c5] at H
          have c5b0 : decide (a0 ≤ 90) = false := decide_eq_false c5
          clear c5
          by_cases c6 : a0 = 95
          · rw [if_pos c6] at H
            have c6b0 : (a0 == 95) = true := beq_iff_eq.mpr c6
            have c6b1 : (a0 != 95) = false := bne_eq_false_iff_eq.mpr c6
            clear c6
            obtain rfl := Option.some.inj H
            go_enter Tryd.func45, Tryd.ntmps45
            go_wp2
            go_ret
            exact ⟨by first | rfl | (simp; done) | (simp [*]; done), by repeat (first | exact Drawn0.refl _ | apply Drawn0.step)⟩
          · rw [if_neg c6] at H
            have c6b0 : (a0 == 95) = false := beq_eq_false_iff_ne.mpr c6
            have c6b1 : (a0 != 95) = true := bne_iff_ne.mpr c6
            by_cases c7 : a0 = 58
            · rw [if_pos c7] at H
              have c7b0 : (a0 == 58) = true := beq_iff_eq.mpr c7
              have c7b1 : (a0 != 58) = false := bne_eq_false_iff_eq.mpr c7
              clear c7
              obtain rfl := Option.some.inj H
              go_enter Tryd.func45, Tryd.ntmps45
              go_wp2
              go_ret
              exact ⟨by first | rfl | (simp; done) | (simp [*]; done), by repeat (first | exact Drawn0.refl _ | apply Drawn0.step)⟩
            · rw [if_neg c7] at H
              have c7b0 : (a0 == 58) = false := beq_eq_false_iff_ne.mpr c7
              have c7b1 : (a0 != 58) = true := bne_iff_ne.mpr c7
              by_cases c8 : a0 ≥ 192
              · rw [if_pos c8] at H
                have c8b0 : decide (192 ≤ a0) = true := decide_eq_true c8
                clear c8
                by_cases c9 : a0 ≤ 255
                · rw [if_pos c9] at H
                  have c9b0 : decide (a0 ≤ 255) = true := decide_eq_true c9
                  clear c9
                  by_cases c10 : a0 = 215
                  · rw [if_pos c10] at H
                    have c10b0 : (a0 == 215) = true := beq_iff_eq.mpr c10
                    have c10b1 : (a0 != 215) = false := bne_eq_false_iff_eq.mpr c10
                    clear c10
                    obtain rfl := Option.some.inj H
                    go_enter Tryd.func45, Tryd.ntmps45
                    go_wp2
                    go_ret
                    exact ⟨by first | rfl | (simp; done) | (simp [*]; done), by repeat (first | exact Drawn0.refl _ | apply Drawn0.step)⟩
                  · rw [if_neg c10] at H
                    have c10b0 : (a0 == 215) = false := beq_eq_false_iff_ne.mpr c10
                    have c10b1 : (a0 != 215) = true := bne_iff_ne.mpr c10
                    obtain rfl := Option.some.inj H
                    go_enter Tryd.func45, Tryd.ntmps45
                    go_wp2
                    go_ret
                    exact ⟨by first | rfl | (simp; done) | (simp [*]; done), by repeat (first | exact Drawn0.refl _ | apply Drawn0.step)⟩
                · rw [if_neg c9] at H
                  have c9b0 : decide (a0 ≤ 255) = false := decide_eq_false c9
                  clear c9
                  obtain rfl := Option.some.inj H
                  go_enter Tryd.func45, Tryd.ntmps45
                  go_wp2
                  go_ret
                  exact ⟨by first | rfl | (simp; done) | (simp [*]; done), by repeat (first | exact Drawn0.refl _ | apply Drawn0.step)⟩
              · rw [if_neg c8] at H
                have c8b0 : decide (192 ≤ a0) = false := decide_eq_false c8
                clear c8
                obtain rfl := Option.some.inj H
                go_enter Tryd.func45, Tryd.ntmps45
                go_wp2
                go_ret
                exact ⟨by first | rfl | (simp; done) | (simp [*]; done), by repeat (first | exact Drawn0.refl _ | apply Drawn0.step)⟩
      · rw [if_neg c4] at H
        have c4b0 : decide (65 ≤ a0) = false := decide_eq_false c4
        clear c4
        by_cases c11 : a0 = 95
        · rw [if_pos c11] at H
          have c11b0 : (a0 == 95) = true := beq_iff_eq.mpr c11
          have c11b1 : (a0 != 95) = false := bne_eq_false_iff_eq.mpr c11
          clear c11
          obtain rfl := Option.some.inj H
          go_enter Tryd.func45, Tryd.ntmps45
          go_wp2
          go_ret
          exact ⟨by first | rfl | (simp; done) | (simp [*]; done), by repeat (first | exact Drawn0.refl _ | apply Drawn0.step)⟩
        · rw [if_neg c11] at H
          have c11b0 : (a0 == 95) = false := beq_eq_false_iff_ne.mpr c11
          have c11b1 : (a0 != 95) = true := bne_iff_ne.mpr c11
          by_cases c12 : a0 = 58
          · rw [if_pos c12] at H
            have c12b0 : (a0 == 58) = true := beq_iff_eq.mpr c12
            have c12b1 : (a0 != 58) = false := bne_eq_false_iff_eq.mpr c12
            clear c12
            obtain rfl := Option.some.inj H
            go_enter Tryd.func45, Tryd.ntmps45
            go_wp2
            go_ret
            exact ⟨by first | rfl | (simp; done) | (simp [*]; done), by repeat (first | exact Drawn0.refl _ | apply Drawn0.step)⟩
          · rw [if_neg c12] at H
            have c12b0 : (a0 == 58) = false := beq_eq_false_iff_ne.mpr c12
            have c12b1 : (a0 != 58) = true := bne_iff_ne.mpr c12
            by_cases c13 : a0 ≥ 192
            · rw [if_pos c13] at H
              have c13b0 : decide (192 ≤ a0) = true := decide_eq_true c13
              clear c13
              by_cases c14 : a0 ≤ 255
              · rw [if_pos c14] at H
                have c14b0 : decide (a0 ≤ 255) = true := decide_eq_true c14
                clear c14
                by_cases c15 : a0 = 215
                · rw [if_pos c15] at H
                  have c15b0 : (a0 == 215) = true := beq_iff_eq.mpr c15
                  have c15b1 : (a0 != 215) = false := bne_eq_false_iff_eq.mpr c15
                  clear c15
                  obtain rfl := Option.some.inj H
                  go_enter Tryd.func45, Tryd.ntmps45
                  go_wp2
                  go_ret
                  exact ⟨by first | rfl | (simp; done) | (simp [*]; done), by repeat (first | exact Drawn0.refl _ | apply Drawn0.step)⟩
                · rw [if_neg c15] at H
                  have c15b0 : (a0 == 215) = false := beq_eq_false_iff_ne.mpr c15
                  have c15b1 : (a0 != 215) = true := bne_iff_ne.mpr c15
                  obtain rfl := Option.some.inj H
                  go_enter Tryd.func45, Tryd.ntmps45
                  go_wp2
                  go_ret
                  exact ⟨by first | rfl | (simp; done) | (simp [*]; done), by repeat (first | exact Drawn0.refl _ | apply Drawn0.step)⟩
              · rw [if_neg c14] at H
                have c14b0 : decide (a0 ≤ 255) = false := decide_eq_false c14
                clear c14
                obtain rfl := Option.some.inj H
                go_enter Tryd.func45, Tryd.ntmps45
                go_wp2
                go_ret
                exact ⟨by first | rfl | (simp; done) | (simp [*]; done), by repeat (first | exact Drawn0.refl _ | apply Drawn0.step)⟩
            · rw [if_neg c13] at H
              have c13b0 : decide (192 ≤ a0) = false := decide_eq_false c13
              clear c13
              obtain rfl := Option.some.inj H
              go_enter Tryd.func45, Tryd.ntmps45
              go_wp2
              go_ret
              exact ⟨by first | rfl | (simp; done) | (simp [*]; done), by repeat (first | exact Drawn0.refl _ | apply Drawn0.step)⟩
  · rw [if_neg c2] at H
    have c2b0 : decide (97 ≤ a0) = false := decide_eq_false c2
    clear c2
    by_cases c16 : a0 ≥ 65
    · rw [if_pos c16] at H
      have c16b0 : decide (65 ≤ a0) = true := decide_eq_true c16
      clear c16
      by_cases c17 : a0 ≤ 90
      · rw [if_pos c17] at H
        have c17b0 : decide (a0 ≤ 90) = true := decide_eq_true c17
        clear c17
        obtain rfl := Option.some.inj H
        go_enter Tryd.func45, Tryd.ntmps45
        go_wp2
        go_ret
        exact ⟨by first | rfl | (simp; done) | (simp [*]; done), by repeat (first | exact Drawn0.refl _ | apply Drawn0.step)⟩
      · rw [if_neg c17] at H
        have c17b0 : decide (a0 ≤ 90) = false := decide_eq_false c17
        clear c17
        by_cases c18 : a0 = 95
        · rw [if_pos c18] at H
          have c18b0 : (a0 == 95) = true := beq_iff_eq.mpr c18
          have c18b1 : (a0 != 95) = false := bne_eq_false_iff_eq.mpr c18
          clear c18
          obtain rfl := Option.some.inj H
          go_enter Tryd.func45, Tryd.ntmps45
          go_wp2
          go_ret
          exact ⟨by first | rfl | (simp; done) | (simp [*]; done), by repeat (first | exact Drawn0.refl _ | apply Drawn0.step)⟩
        · rw [if_neg c18] at H
          have c18b0 : (a0 == 95) = false := beq_eq_false_iff_ne.mpr c18
          have c18b1 : (a0 != 95) = true := bne_iff_ne.mpr c18
          by_cases c19 : a0 = 58
          · rw [if_pos c19] at H
            have c19b0 : (a0 == 58) = true := beq_iff_eq.mpr c19
            have c19b1 : (a0 != 58) = false := bne_eq_false_iff_eq.mpr c19
            clear c19
            obtain rfl := Option.some.inj H
            go_enter Tryd.func45, Tryd.ntmps45
            go_wp2
            go_ret
            exact ⟨by first | rfl | (simp; done) | (simp [*]; done), by repeat (first | exact Drawn0.refl _ | apply Drawn0.step)⟩
          · rw [if_neg c19] at H
            have c19b0 : (a0 == 58) = false := beq_eq_false_iff_ne.mpr c19
            have c19b1 : (a0 != 58) = true := bne_iff_ne.mpr c19
            by_cases c20 : a0 ≥ 192
            · rw [if_pos c20] at H
              have c20b0 : decide (192 ≤ a0) = true := decide_eq_true c20
              clear c20
              by_cases c21 : a0 ≤ 255
              · rw [if_pos c21] at H
                have c21b0 : decide (a0 ≤ 255) = true := decide_eq_true c21
                clear c21
                by_cases c22 : a0 = 215
                · rw [if_pos c22] at H
                  have c22b0 : (a0 == 215) = true := beq_iff_eq.mpr c22
                  have c22b1 : (a0 != 215) = false := bne_eq_false_iff_eq.mpr c22
                  clear c22
                  obtain rfl := Option.some.inj H
                  go_enter Tryd.func45, Tryd.ntmps45
                  go_wp2
                  go_ret
                  exact ⟨by first | rfl | (simp; done) | (simp [*]; done), by repeat (first | exact Drawn0.refl _ | apply Drawn0.step)⟩
                · rw [if_neg c22] at H
                  have c22b0 : (a0 == 215) = false := beq_eq_false_iff_ne.mpr c22
                  have c22b1 : (a0 != 215) = true := bne_iff_ne.mpr c22
                  obtain rfl := Option.some.inj H
                  go_enter Tryd.func45, Tryd.ntmps45
                  go_wp2
                  go_ret
                  exact ⟨by first | rfl | (simp; done) | (simp [*]; done), by repeat (first | exact Drawn0.refl _ | apply Drawn0.step)⟩
              · rw [if_neg c21] at H
                have c21b0 : decide (a0 ≤ 255) = false := decide_eq_false c21
                clear c21
                obtain rfl := Option.some.inj H
                go_enter Tryd.func45, Tryd.ntmps45
                go_wp2
                go_ret
                exact ⟨by first | rfl | (simp; done) | (simp [*]; done), by repeat (first | exact Drawn0.refl _ | apply Drawn0.step)⟩
            · rw [if_neg c20] at H
              have c20b0 : decide (192 ≤ a0) = false := decide_eq_false c20
              clear c20
              obtain rfl := Option.some.inj H
              go_enter Tryd.func45, Tryd.ntmps45
              go_wp2
              go_ret
              exact ⟨by first | rfl | (simp; done) | (simp [*]; done), by repeat (first | exact Drawn0.refl _ | apply Drawn0.step)⟩
    · rw [if_neg c16] at H
      have c16b0 : decide (65 ≤ a0) = false := decide_eq_false c16
      clear c16
      by_cases c23 : a0 = 95
      · rw [if_pos c23] at H
        have c23b0 : (a0 == 95) = true := beq_iff_eq.mpr c23
        have c23b1 : (a0 != 95) = false := bne_eq_false_iff_eq.mpr c23
        clear c23
        obtain rfl := Option.some.inj H
        go_enter Tryd.func45, Tryd.ntmps45
        go_wp2
        go_ret
        exact ⟨by first | rfl | (simp; done) | (simp [*]; done), by repeat (first | exact Drawn0.refl _ | apply Drawn0.step)⟩
      · rw [if_neg c23] at H
        have c23b0 : (a0 == 95) = false := beq_eq_false_iff_ne.mpr c23
        have c23b1 : (a0 != 95) = true := bne_iff_ne.mpr c23
        by_cases c24 : a0 = 58
        · rw [if_pos c24] at H
          have c24b0 : (a0 == 58) = true := beq_iff_eq.mpr c24
          have c24b1 : (a0 != 58) = false := bne_eq_false_iff_eq.mpr c24
          clear c24
          obtain rfl := Option.some.inj H
          go_enter Tryd.func45, Tryd.ntmps45
          go_wp2
          go_ret
          exact ⟨by first | rfl | (simp; done) | (simp [*]; done), by repeat (first | exact Drawn0.refl _ | apply Drawn0.step)⟩
        · rw [if_neg c24] at H
          have c24b0 : (a0 == 58) = false := beq_eq_false_iff_ne.mpr c24
          have c24b1 : (a0 != 58) = true := bne_iff_ne.mpr c24
          by_cases c25 : a0 ≥ 192
          · rw [if_pos c25] at H
            have c25b0 : decide (192 ≤ a0) = true := decide_eq_true c25
            clear c25
            by_cases c26 : a0 ≤ 255
            · rw [if_pos c26] at H
              have c26b0 : decide (a0 ≤ 255) = true := decide_eq_true c26
              clear c26
              by_cases c27 : a0 = 215
              · rw [if_pos c27] at H
                have c27b0 : (a0 == 215) = true := beq_iff_eq.mpr c27
                have c27b1 : (a0 != 215) = false := bne_eq_false_iff_eq.mpr c27
                clear c27
                obtain rfl := Option.some.inj H
                go_enter Tryd.func45, Tryd.ntmps45
                go_wp2
                go_ret
                exact ⟨by first | rfl | (simp; done) | (simp [*]; done), by repeat (first | exact Drawn0.refl _ | apply Drawn0.step)⟩
              · rw [if_neg c27] at H
                have c27b0 : (a0 == 215) = false := beq_eq_false_iff_ne.mpr c27
                have c27b1 : (a0 != 215) = true := bne_iff_ne.mpr c27
                obtain rfl := Option.some.inj H
                go_enter Tryd.func45, Tryd.ntmps45
                go_wp2
                go_ret
                exact ⟨by first | rfl | (simp; done) | (simp [*]; done), by repeat (first | exact Drawn0.refl _ | apply Drawn0.step)⟩
            · rw [if_neg c26] at H
              have c26b0 : decide (a0 ≤ 255) = false := decide_eq_false c26
              clear c26
              obtain rfl := Option.some.inj H
              go_enter Tryd.func45, Tryd.ntmps45
              go_wp2
              go_ret
              exact ⟨by first | rfl | (simp; done) | (simp [*]; done), by repeat (first | exact Drawn0.refl _ | apply Drawn0.step)⟩
          · rw [if_neg c25] at H
            have c25b0 : decide (192 ≤ a0) = false := decide_eq_false c25
            clear c25
            obtain rfl := Option.some.inj H
            go_enter Tryd.func45, Tryd.ntmps45
            go_wp2
            go_ret
            exact ⟨by first | rfl | (simp; done) | (simp [*]; done), by repeat (first | exact Drawn0.refl _ | apply Drawn0.step)⟩

/-! ### spec_continues: function 44 -/
def spec_continues.f (a0 : Int) : Option (Bool) := (spec_begins.f a0).bind fun t107 => (if t107 = true then (some true) else (if a0 ≥ 48 then (if a0 ≤ 57 then (some true) else (if a0 = 45 then (some true) else (if a0 = 46 then (some true) else (some (a0 == 183))))) else (if a0 = 45 then (some true) else (if a0 = 46 then (some true) else (some (a0 == 183))))))
set_option maxHeartbeats 8000000 in
set_option maxRecDepth 100000 in
theorem spec_continues.calls (a0 : Int) (r : Bool) (w : World) (h : spec_continues.f a0 = some r) :
    Calls Tryd.prog 44 #[.int .i64 a0] w fun e w' => e = .returned (.bool r) ∧ Drawn0 w w' := by
  have H : ((spec_begins.f a0).bind fun t107 => (if t107 = true then (some true) else (if a0 ≥ 48 then (if a0 ≤ 57 then (some true) else (if a0 = 45 then (some true) else (if a0 = 46 then (some true) else (some (a0 == 183))))) else (if a0 = 45 then (some true) else (if a0 = 46 then (some true) else (some (a0 == 183))))))) = some r := h
  clear h
  replace H := Option.bind_eq_some_iff.mp H
  obtain ⟨t107, A20, H⟩ := H
  replace H : (if t107 = true then (some true) else (if a0 ≥ 48 then (if a0 ≤ 57 then (some true) else (if a0 = 45 then (some true) else (if a0 = 46 then (some true) else (some (a0 == 183))))) else (if a0 = 45 then (some true) else (if a0 = 46 then (some true) else (some (a0 == 183)))))) = some r := H
  have A2 := Aside0.mk A20
  clear A20
  by_cases c3 : t107 = true
  · subst c3
    have H1 : (some true) = some r := by rw [if_pos rfl] at H; exact H
    clear H
    have H := H1
    clear H1
    obtain rfl := Option.some.inj H
    go_enter Tryd.func44, Tryd.ntmps44
    go_wp2_with (first | ((with_reducible refine gate_callee (f := 45) rfl ?_); refine goesL_ (some 4) rfl rfl Tryd.func45 (by kernel_rfl) rfl #[.int .i64 a0] rfl (by (try simp only [List.map_toArray, List.map_cons, List.map_nil]); first | done | rfl | (simp only [List.length_drop, List.length_take]; rfl)) ?_; (with_reducible refine (spec_begins.calls a0 true _ A2.out).mono ?_); rintro e w' ⟨rfl, ⟨nd, rfl⟩⟩; refine ⟨_, rfl, ?_⟩))
    go_ret
    exact ⟨by first | rfl | (simp; done) | (simp [*]; done), by repeat (first | exact Drawn0.refl _ | apply Drawn0.step)⟩
  · replace c3 := Bool.eq_false_iff.mpr c3
    subst c3
    have H1 : (if a0 ≥ 48 then (if a0 ≤ 57 then (some true) else (if a0 = 45 then (some true) else (if a0 = 46 then (some true) else (some (a0 == 183))))) else (if a0 = 45 then (some true) else (if a0 = 46 then (some true) else (some (a0 == 183))))) = some r := by rw [if_neg (show ¬ (false = true) by decide)] at H; exact H
    clear H
    have H := H1
    clear H1
    by_cases c4 : a0 ≥ 48
    · rw [if_pos c4] at H
      have c4b0 : decide (48 ≤ a0) = true := decide_eq_true c4
      clear c4
      by_cases c5 : a0 ≤ 57
      · rw [if_pos c5] at H
        have c5b0 : decide (a0 ≤ 57) = true := decide_eq_true c5
        clear c5
        obtain rfl := Option.some.inj H
        go_enter Tryd.func44, Tryd.ntmps44
        go_wp2_with (first | ((with_reducible refine gate_callee (f := 45) rfl ?_); refine goesL_ (some 4) rfl rfl Tryd.func45 (by kernel_rfl) rfl #[.int .i64 a0] rfl (by (try simp only [List.map_toArray, List.map_cons, List.map_nil]); first | done | rfl | (simp only [List.length_drop, List.length_take]; rfl)) ?_; (with_reducible refine (spec_begins.calls a0 false _ A2.out).mono ?_); rintro e w' ⟨rfl, ⟨nd, rfl⟩⟩; refine ⟨_, rfl, ?_⟩))
        go_ret
        exact ⟨by first | rfl | (simp; done) | (simp [*]; done), by repeat (first | exact Drawn0.refl _ | apply Drawn0.step)⟩
      · rw [if_neg c5] at H
        have c5b0 : decide (a0 ≤ 57) = false := decide_eq_false c5
        clear c5
        by_cases c6 : a0 = 45
        · rw [if_pos c6] at H
          have c6b0 : (a0 == 45) = true := beq_iff_eq.mpr c6
          have c6b1 : (a0 != 45) = false := bne_eq_false_iff_eq.mpr c6
          clear c6
          obtain rfl := Option.some.inj H
          go_enter Tryd.func44, Tryd.ntmps44
          go_wp2_with (first | ((with_reducible refine gate_callee (f := 45) rfl ?_); refine goesL_ (some 4) rfl rfl Tryd.func45 (by kernel_rfl) rfl #[.int .i64 a0] rfl (by (try simp only [List.map_toArray, List.map_cons, List.map_nil]); first | done | rfl | (simp only [List.length_drop, List.length_take]; rfl)) ?_; (with_reducible refine (spec_begins.calls a0 false _ A2.out).mono ?_); rintro e w' ⟨rfl, ⟨nd, rfl⟩⟩; refine ⟨_, rfl, ?_⟩))
          go_ret
          exact ⟨by first | rfl | (simp; done) | (simp [*]; done), by repeat (first | exact Drawn0.refl _ | apply Drawn0.step)⟩
        · rw [if_neg c6] at H
          have c6b0 : (a0 == 45) = false := beq_eq_false_iff_ne.mpr c6
          have c6b1 : (a0 != 45) = true := bne_iff_ne.mpr c6
          by_cases c7 : a0 = 46
          · rw [if_pos c7] at H
            have c7b0 : (a0 == 46) = true := beq_iff_eq.mpr c7
            have c7b1 : (a0 != 46) = false := bne_eq_false_iff_eq.mpr c7
            clear c7
            obtain rfl := Option.some.inj H
            go_enter Tryd.func44, Tryd.ntmps44
            go_wp2_with (first | ((with_reducible refine gate_callee (f := 45) rfl ?_); refine goesL_ (some 4) rfl rfl Tryd.func45 (by kernel_rfl) rfl #[.int .i64 a0] rfl (by (try simp only [List.map_toArray, List.map_cons, List.map_nil]); first | done | rfl | (simp only [List.length_drop, List.length_take]; rfl)) ?_; (with_reducible refine (spec_begins.calls a0 false _ A2.out).mono ?_); rintro e w' ⟨rfl, ⟨nd, rfl⟩⟩; refine ⟨_, rfl, ?_⟩))
            go_ret
            exact ⟨by first | rfl | (simp; done) | (simp [*]; done), by repeat (first | exact Drawn0.refl _ | apply Drawn0.step)⟩
          · rw [if_neg c7] at H
            have c7b0 : (a0 == 46) = false := beq_eq_false_iff_ne.mpr c7
            have c7b1 : (a0 != 46) = true := bne_iff_ne.mpr c7
            obtain rfl := Option.some.inj H
            go_enter Tryd.func44, Tryd.ntmps44
            go_wp2_with (first | ((with_reducible refine gate_callee (f := 45) rfl ?_); refine goesL_ (some 4) rfl rfl Tryd.func45 (by kernel_rfl) rfl #[.int .i64 a0] rfl (by (try simp only [List.map_toArray, List.map_cons, List.map_nil]); first | done | rfl | (simp only [List.length_drop, List.length_take]; rfl)) ?_; (with_reducible refine (spec_begins.calls a0 false _ A2.out).mono ?_); rintro e w' ⟨rfl, ⟨nd, rfl⟩⟩; refine ⟨_, rfl, ?_⟩))
            go_ret
            exact ⟨by first | rfl | (simp; done) | (simp [*]; done), by repeat (first | exact Drawn0.refl _ | apply Drawn0.step)⟩
    · rw [if_neg c4] at H
      have c4b0 : decide (48 ≤ a0) = false := decide_eq_false c4
      clear c4
      by_cases c8 : a0 = 45
      · rw [if_pos c8] at H
        have c8b0 : (a0 == 45) = true := beq_iff_eq.mpr c8
        have c8b1 : (a0 != 45) = false := bne_eq_false_iff_eq.mpr c8
        clear c8
        obtain rfl := Option.some.inj H
        go_enter Tryd.func44, Tryd.ntmps44
        go_wp2_with (first | ((with_reducible refine gate_callee (f := 45) rfl ?_); refine goesL_ (some 4) rfl rfl Tryd.func45 (by kernel_rfl) rfl #[.int .i64 a0] rfl (by (try simp only [List.map_toArray, List.map_cons, List.map_nil]); first | done | rfl | (simp only [List.length_drop, List.length_take]; rfl)) ?_; (with_reducible refine (spec_begins.calls a0 false _ A2.out).mono ?_); rintro e w' ⟨rfl, ⟨nd, rfl⟩⟩; refine ⟨_, rfl, ?_⟩))
        go_ret
        exact ⟨by first | rfl | (simp; done) | (simp [*]; done), by repeat (first | exact Drawn0.refl _ | apply Drawn0.step)⟩
      · rw [if_neg c8] at H
        have c8b0 : (a0 == 45) = false := beq_eq_false_iff_ne.mpr c8
        have c8b1 : (a0 != 45) = true := bne_iff_ne.mpr c8
        by_cases c9 : a0 = 46
        · rw [if_pos c9] at H
          have c9b0 : (a0 == 46) = true := beq_iff_eq.mpr c9
          have c9b1 : (a0 != 46) = false := bne_eq_false_iff_eq.mpr c9
          clear c9
          obtain rfl := Option.some.inj H
          go_enter Tryd.func44, Tryd.ntmps44
          go_wp2_with (first | ((with_reducible refine gate_callee (f := 45) rfl ?_); refine goesL_ (some 4) rfl rfl Tryd.func45 (by kernel_rfl) rfl #[.int .i64 a0] rfl (by (try simp only [List.map_toArray, List.map_cons, List.map_nil]); first | done | rfl | (simp only [List.length_drop, List.length_take]; rfl)) ?_; (with_reducible refine (spec_begins.calls a0 false _ A2.out).mono ?_); rintro e w' ⟨rfl, ⟨nd, rfl⟩⟩; refine ⟨_, rfl, ?_⟩))
          go_ret
          exact ⟨by first | rfl | (simp; done) | (simp [*]; done), by repeat (first | exact Drawn0.refl _ | apply Drawn0.step)⟩
        · rw [if_neg c9] at H
          have c9b0 : (a0 == 46) = false := beq_eq_false_iff_ne.mpr c9
          have c9b1 : (a0 != 46) = true := bne_iff_ne.mpr c9
          obtain rfl := Option.some.inj H
          go_enter Tryd.func44, Tryd.ntmps44
          go_wp2_with (first | ((with_reducible refine gate_callee (f := 45) rfl ?_); refine goesL_ (some 4) rfl rfl Tryd.func45 (by kernel_rfl) rfl #[.int .i64 a0] rfl (by (try simp only [List.map_toArray, List.map_cons, List.map_nil]); first | done | rfl | (simp only [List.length_drop, List.length_take]; rfl)) ?_; (with_reducible refine (spec_begins.calls a0 false _ A2.out).mono ?_); rintro e w' ⟨rfl, ⟨nd, rfl⟩⟩; refine ⟨_, rfl, ?_⟩))
          go_ret
          exact ⟨by first | rfl | (simp; done) | (simp [*]; done), by repeat (first | exact Drawn0.refl _ | apply Drawn0.step)⟩

end Go.Proofs.YtfchmbhbkhgfnaaDoor.PFnEscapePlain
