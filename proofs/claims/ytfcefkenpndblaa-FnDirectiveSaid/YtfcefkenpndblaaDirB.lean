/- What is proved here: the Go functions that the statement on directives reaches come to what the Lean functions below tell (first printed by the kit's print.sh, then turned by hand where the print fell); the conditions stand in each theorem. -/
import Derived.Test.YtfcefkenpndblaaPFnDirectivex0
import Derived.Test.YtfcefkenpndblaaDirA
namespace Go.Proofs.Ytfcefkenpndblaa.DirF
open Go.RowKit Go.Proofs.Ytfcefkenpndblaa.PFnDirective Go.Proofs.YtfcefkenpndblaaW.PrintWords Go.Proofs.YtfcefkenpndblaaW.PrintLast Go.Proofs.YtfcefkenpndblaaW.PrintMore
attribute [local go_sem] max2_int min2_int max_two min_two max_three min_three max_four min_four   -- for this text's walks alone
set_option linter.unusedVariables false
set_option linter.unusedSimpArgs false

/-! ### spec_Matched: function 10 -/
mutual
def spec_Matched.l0 : Nat → ByteArray → Int → Int → Option (Bool)
  | 0, _, _, _ => none
  | k + 1, x0, x3, x4 => if x4 < (x0.size : Int) then (if 0 ≤ x4 then (if (bt x0 x4) = 34 then (spec_Matched.j1 k x0 x3 x4 true) else (spec_Matched.j1 k x0 x3 x4 ((bt x0 x4) == 39))) else (none)) else (some (x3 == 0))
def spec_Matched.j1 : Nat → ByteArray → Int → Int → Bool → Option (Bool)
  | 0, _, _, _, _ => none
  | k + 1, x0, x3, x4, x13 => if x13 = true then (if 0 ≤ x4 then (if x4 ≤ (wrap64 (x4 + 1)) then (if (wrap64 (x4 + 1)) ≤ (x0.size : Int) then ((spec_find.f k x0 (wrap64 (x4 + 1)) (x0.extract (x4 : Int).toNat ((wrap64 (x4 + 1)) : Int).toNat)).bind fun t106 => (if t106 < 0 then (some false) else (spec_Matched.l0 k x0 x3 (wrap64 (t106 + 1))))) else (none)) else (none)) else (none)) else (if (wrap64 (x4 + 4)) ≤ (x0.size : Int) then (if 0 ≤ x4 then (if x4 ≤ (wrap64 (x4 + 4)) then (spec_Matched.j2 k x0 x3 x4 ((x0.extract (x4 : Int).toNat ((wrap64 (x4 + 4)) : Int).toNat).toList == ([60, 33, 45, 45] : List UInt8))) else (none)) else (none)) else (spec_Matched.j2 k x0 x3 x4 false))
def spec_Matched.j2 : Nat → ByteArray → Int → Int → Bool → Option (Bool)
  | 0, _, _, _, _ => none
  | k + 1, x0, x3, x4, x36 => if x36 = true then ((spec_find.f k x0 (wrap64 (x4 + 4)) (⟨#[45, 45, 62]⟩ : ByteArray)).bind fun t107 => (if t107 < 0 then (some false) else (spec_Matched.l0 k x0 x3 (wrap64 ((wrap64 (t107 + 2)) + 1))))) else (if 0 ≤ x4 then (if x4 < (x0.size : Int) then (if (bt x0 x4) = 60 then (spec_Matched.l0 k x0 (wrap64 (x3 + 1)) (wrap64 (x4 + 1))) else (if (bt x0 x4) = 62 then (if (wrap64 (x3 - 1)) < 0 then (some false) else (spec_Matched.l0 k x0 (wrap64 (x3 - 1)) (wrap64 (x4 + 1)))) else (spec_Matched.l0 k x0 x3 (wrap64 (x4 + 1))))) else (none)) else (none))
end
def spec_Matched.f (k : Nat) (a0 : ByteArray) : Option (Bool) := spec_Matched.l0 k a0 0 0
theorem spec_Matched.mono_l : ∀ k, (∀ y0 y1 y2, LeO (spec_Matched.l0 k y0 y1 y2) (spec_Matched.l0 (k + 1) y0 y1 y2)) ∧ (∀ y0 y1 y2 y3, LeO (spec_Matched.j1 k y0 y1 y2 y3) (spec_Matched.j1 (k + 1) y0 y1 y2 y3)) ∧ (∀ y0 y1 y2 y3, LeO (spec_Matched.j2 k y0 y1 y2 y3) (spec_Matched.j2 (k + 1) y0 y1 y2 y3))
  | 0 => ⟨fun _ _ _ r h => by simp [spec_Matched.l0] at h, fun _ _ _ _ r h => by simp [spec_Matched.j1] at h, fun _ _ _ _ r h => by simp [spec_Matched.j2] at h⟩
  | k + 1 => by
    obtain ⟨ih0, ih1, ih2⟩ := spec_Matched.mono_l k
    refine ⟨?_, ?_, ?_⟩
    · intro y0 y1 y2
      unfold spec_Matched.l0
      repeat' first
      | (with_reducible exact ih0 _ _ _)
      | (with_reducible exact ih1 _ _ _ _)
      | (with_reducible exact ih2 _ _ _ _)
      | (with_reducible exact spec_find.mono _ _ _ _)
      | (with_reducible exact LeO.refl _)
      | (with_reducible exact LeO.none _)
      | (with_reducible refine LeO.ite ?_ ?_)
      | (with_reducible refine LeO.bind ?_ (fun _ => ?_))
      | exact ih0 _ _ _
      | exact ih1 _ _ _ _
      | exact ih2 _ _ _ _
      | exact spec_find.mono _ _ _ _
      | exact LeO.none _
      | refine LeO.ite ?_ ?_
      | refine LeO.bind ?_ (fun _ => ?_)
    · intro y0 y1 y2 y3
      unfold spec_Matched.j1
      repeat' first
      | (with_reducible exact ih0 _ _ _)
      | (with_reducible exact ih1 _ _ _ _)
      | (with_reducible exact ih2 _ _ _ _)
      | (with_reducible exact spec_find.mono _ _ _ _)
      | (with_reducible exact LeO.refl _)
      | (with_reducible exact LeO.none _)
      | (with_reducible refine LeO.ite ?_ ?_)
      | (with_reducible refine LeO.bind ?_ (fun _ => ?_))
      | exact ih0 _ _ _
      | exact ih1 _ _ _ _
      | exact ih2 _ _ _ _
      | exact spec_find.mono _ _ _ _
      | exact LeO.none _
      | refine LeO.ite ?_ ?_
      | refine LeO.bind ?_ (fun _ => ?_)
    · intro y0 y1 y2 y3
      unfold spec_Matched.j2
      repeat' first
      | (with_reducible exact ih0 _ _ _)
      | (with_reducible exact ih1 _ _ _ _)
      | (with_reducible exact ih2 _ _ _ _)
      | (with_reducible exact spec_find.mono _ _ _ _)
      | (with_reducible exact LeO.refl _)
      | (with_reducible exact LeO.none _)
      | (with_reducible refine LeO.ite ?_ ?_)
      | (with_reducible refine LeO.bind ?_ (fun _ => ?_))
      | exact ih0 _ _ _
      | exact ih1 _ _ _ _
      | exact ih2 _ _ _ _
      | exact spec_find.mono _ _ _ _
      | exact LeO.none _
      | refine LeO.ite ?_ ?_
      | refine LeO.bind ?_ (fun _ => ?_)
theorem spec_Matched.mono : ∀ a0 k, LeO (spec_Matched.f k a0) (spec_Matched.f (k + 1) a0) := by
  intro a0 k
  obtain ⟨ih0, ih1, ih2⟩ := spec_Matched.mono_l k
  unfold spec_Matched.f
  repeat' first
      | (with_reducible exact ih0 _ _ _)
      | (with_reducible exact ih1 _ _ _ _)
      | (with_reducible exact ih2 _ _ _ _)
      | (with_reducible exact spec_find.mono _ _ _ _)
      | (with_reducible exact LeO.refl _)
      | (with_reducible exact LeO.none _)
      | (with_reducible refine LeO.ite ?_ ?_)
      | (with_reducible refine LeO.bind ?_ (fun _ => ?_))
      | exact ih0 _ _ _
      | exact ih1 _ _ _ _
      | exact ih2 _ _ _ _
      | exact spec_find.mono _ _ _ _
      | exact LeO.none _
      | refine LeO.ite ?_ ?_
      | refine LeO.bind ?_ (fun _ => ?_)
set_option maxHeartbeats 8000000 in
set_option maxRecDepth 100000 in
theorem spec_Matched.calls (k : Nat) (a0 : ByteArray) (r : Bool) (w : World) (h : spec_Matched.f k a0 = some r) :
    Calls Try.prog 10 #[.string a0] w fun e w' => e = .returned (.bool r) ∧ Drawn0 w w' := by
  have H : (spec_Matched.l0 k a0 0 0) = some r := h
  clear h
  have H' := Aside0.mk H
  clear H
  go_enter Try.func10, Try.ntmps10
  go_wp2
  go_loopg [3, 4] k (fun kq v3 v4 w' => ∃ (x3_1 : Int) (x4_1 : Int), v3 = .int .i64 x3_1 ∧ v4 = .int .i64 x4_1 ∧ Aside0 (spec_Matched.l0 kq a0 x3_1 x4_1 = some r) ∧ Aside0 (kq ≤ k) ∧ Drawn0 w w')
  case atStart => exact ⟨(0), (0), (by first | rfl | (simp; done) | (simp [*]; done)), (by first | rfl | (simp; done) | (simp [*]; done)), H', ⟨Nat.le_refl _⟩, by repeat (first | exact Drawn0.refl _ | apply Drawn0.step)⟩
  case round =>
    clear H'
    try clear c1
    obtain ⟨x3_1, x4_1, rfl, rfl, HA, HK1, ⟨m1, rfl⟩⟩ := hrel
    cases gk with
    | zero => exact absurd HA.out (by simp [spec_Matched.l0])
    | succ k1 =>
      have H := HA.out
      clear HA
      simp only [spec_Matched.l0] at H
      by_cases c2 : x4_1 < (a0.size : Int)
      · rw [if_pos c2] at H
        have c2b0 : decide (x4_1 < (a0.size : Int)) = true := decide_eq_true c2
        clear c2
        have HC3 := Aside0.mk H
        clear H
        go_upto_region 5 with (fail)
        go_cut [13] (fun v13 wc => ∃ (kq : Nat) (x13_2 : Bool), v13 = .bool x13_2 ∧ Aside0 (spec_Matched.j1 kq a0 x3_1 x4_1 x13_2 = some r) ∧ Aside0 (kq ≤ k1) ∧ Drawn0 w wc)
        case first =>
          have H := HC3.out
          clear HC3
          by_cases c4 : 0 ≤ x4_1
          · rw [if_pos c4] at H
            have c4b0 : decide (0 ≤ x4_1) = true := decide_eq_true c4
            clear c4
            (first | rw [c4b0] | (simp only [i64_w, i32_w]; rw [c4b0]) | skip)
            by_cases c6 : (bt a0 x4_1) = 34
            · rw [if_pos c6] at H
              have c6b0 : ((bt a0 x4_1) == 34) = true := beq_iff_eq.mpr c6
              have c6b1 : ((bt a0 x4_1) != 34) = false := bne_eq_false_iff_eq.mpr c6
              clear c6
              have H' := Aside0.mk H
              clear H
              have p5 : 0 ≤ (x4_1 : Int) := of_decide_eq_true (by first | (with_reducible assumption) | assumption)
              have q5 : x4_1 < (a0.size : Int) := of_decide_eq_true (by first | (with_reducible assumption) | assumption)
              have hx5 := bt_at a0 x4_1
              replace p5 := eq_true p5
              replace q5 := eq_true q5
              go_wp2
              go_meet
              case rel => exact ⟨_, (true), (by first | rfl | (simp; done) | (simp [*]; done)), H', ⟨by have := HK1.out; first | omega | exact Nat.le_refl _⟩, by repeat (first | exact Drawn0.refl _ | apply Drawn0.step)⟩
            · rw [if_neg c6] at H
              have c6b0 : ((bt a0 x4_1) == 34) = false := beq_eq_false_iff_ne.mpr c6
              have c6b1 : ((bt a0 x4_1) != 34) = true := bne_iff_ne.mpr c6
              have H' := Aside0.mk H
              clear H
              have p5 : 0 ≤ (x4_1 : Int) := of_decide_eq_true (by first | (with_reducible assumption) | assumption)
              have q5 : x4_1 < (a0.size : Int) := of_decide_eq_true (by first | (with_reducible assumption) | assumption)
              have hx5 := bt_at a0 x4_1
              replace p5 := eq_true p5
              replace q5 := eq_true q5
              have p7 : 0 ≤ (x4_1 : Int) := of_decide_eq_true (by first | (with_reducible assumption) | assumption)
              have q7 : x4_1 < (a0.size : Int) := of_decide_eq_true (by first | (with_reducible assumption) | assumption)
              have hx7 := bt_at a0 x4_1
              replace p7 := eq_true p7
              replace q7 := eq_true q7
              go_wp2
              go_meet
              case rel => exact ⟨_, (((bt a0 x4_1) == 39)), (by first | rfl | (simp; done) | (simp [*]; done)), H', ⟨by have := HK1.out; first | omega | exact Nat.le_refl _⟩, by repeat (first | exact Drawn0.refl _ | apply Drawn0.step)⟩
          · rw [if_neg c4] at H
            exact absurd H (by simp)
        case rest =>
          clear HC3
          try clear c1
          try clear c2
          try clear c2b0
          try clear p2
          try clear c4
          try clear c4b0
          try clear p5
          try clear q5
          try clear hx5
          try clear c6
          try clear c6b0
          try clear c6b1
          try clear p7
          try clear q7
          try clear hx7
          try clear p5
          try clear p7
          try clear q5
          try clear q7
          obtain ⟨kq, x13_2, rfl, HA, HJ2, ⟨mc2, rfl⟩⟩ := hcut
          cases kq with
          | zero => exact absurd HA.out (by simp [spec_Matched.j1])
          | succ kj2 =>
            have H := HA.out
            clear HA
            simp only [spec_Matched.j1] at H
            by_cases c8 : x13_2 = true
            · subst c8
              have H1 : (if 0 ≤ x4_1 then (if x4_1 ≤ (wrap64 (x4_1 + 1)) then (if (wrap64 (x4_1 + 1)) ≤ (a0.size : Int) then ((spec_find.f kj2 a0 (wrap64 (x4_1 + 1)) (a0.extract (x4_1 : Int).toNat ((wrap64 (x4_1 + 1)) : Int).toNat)).bind fun t106 => (if t106 < 0 then (some false) else (spec_Matched.l0 kj2 a0 x3_1 (wrap64 (t106 + 1))))) else (none)) else (none)) else (none)) = some r := by rw [if_pos rfl] at H; exact H
              clear H
              have H := H1
              clear H1
              by_cases c9 : 0 ≤ x4_1
              · rw [if_pos c9] at H
                have c9b0 := eq_true c9
                have c9b1 : decide (0 ≤ x4_1) = true := decide_eq_true c9
                clear c9
                by_cases c10 : x4_1 ≤ (wrap64 (x4_1 + 1))
                · rw [if_pos c10] at H
                  have c10b0 := eq_true c10
                  have c10b1 : decide (x4_1 ≤ (wrap64 (x4_1 + 1))) = true := decide_eq_true c10
                  by_cases c11 : (wrap64 (x4_1 + 1)) ≤ (a0.size : Int)
                  · rw [if_pos c11] at H
                    have c11b0 := eq_true c11
                    have c11b1 : decide ((wrap64 (x4_1 + 1)) ≤ (a0.size : Int)) = true := decide_eq_true c11
                    replace H := Option.bind_eq_some_iff.mp H
                    obtain ⟨t106, A120, H⟩ := H
                    replace H : (if t106 < 0 then (some false) else (spec_Matched.l0 kj2 a0 x3_1 (wrap64 (t106 + 1)))) = some r := H
                    have A12 := Aside0.mk A120
                    clear A120
                    by_cases c13 : t106 < 0
                    · rw [if_pos c13] at H
                      have c13b0 : decide (t106 < 0) = true := decide_eq_true c13
                      clear c13
                      obtain rfl := Option.some.inj H
                      go_wp2_with (first | ((with_reducible refine gate_callee (f := 18) rfl ?_); refine goesL_ (some 32) rfl rfl Try.func18 (by kernel_rfl) rfl #[.string a0, .int .i64 (wrap64 (x4_1 + 1)), .string (a0.extract (x4_1 : Int).toNat ((wrap64 (x4_1 + 1)) : Int).toNat)] rfl (by (try simp only [List.map_toArray, List.map_cons, List.map_nil]); first | done | rfl | (simp only [List.length_drop, List.length_take]; rfl)) ?_; (with_reducible refine (spec_find.calls kj2 a0 (wrap64 (x4_1 + 1)) (a0.extract (x4_1 : Int).toNat ((wrap64 (x4_1 + 1)) : Int).toNat) t106 _ A12.out).mono ?_); rintro e w' ⟨rfl, ⟨nd, rfl⟩⟩; refine ⟨_, rfl, ?_⟩))
                      go_ret
                      exact ⟨by first | rfl | (simp; done) | (simp [*]; done), by repeat (first | exact Drawn0.refl _ | apply Drawn0.step)⟩
                    · rw [if_neg c13] at H
                      have c13b0 : decide (t106 < 0) = false := decide_eq_false c13
                      clear c13
                      have H' := Aside0.mk H
                      clear H
                      go_wp2_with (first | ((with_reducible refine gate_callee (f := 18) rfl ?_); refine goesL_ (some 32) rfl rfl Try.func18 (by kernel_rfl) rfl #[.string a0, .int .i64 (wrap64 (x4_1 + 1)), .string (a0.extract (x4_1 : Int).toNat ((wrap64 (x4_1 + 1)) : Int).toNat)] rfl (by (try simp only [List.map_toArray, List.map_cons, List.map_nil]); first | done | rfl | (simp only [List.length_drop, List.length_take]; rfl)) ?_; (with_reducible refine (spec_find.calls kj2 a0 (wrap64 (x4_1 + 1)) (a0.extract (x4_1 : Int).toNat ((wrap64 (x4_1 + 1)) : Int).toNat) t106 _ A12.out).mono ?_); rintro e w' ⟨rfl, ⟨nd, rfl⟩⟩; refine ⟨_, rfl, ?_⟩))
                      go_roundg kj2
                      case measure => have := HK1.out; have := HJ2.out; omega
                      case rel => exact ⟨(x3_1), (wrap64 (t106 + 1)), (by first | rfl | (simp; done) | (simp [*]; done)), (by first | rfl | (simp; done) | (simp [*]; done)), H', ⟨by have := HK1.out; have := HJ2.out; omega⟩, by repeat (first | exact Drawn0.refl _ | apply Drawn0.step)⟩
                  · rw [if_neg c11] at H
                    exact absurd H (by simp)
                · rw [if_neg c10] at H
                  exact absurd H (by simp)
              · rw [if_neg c9] at H
                exact absurd H (by simp)
            · replace c8 := Bool.eq_false_iff.mpr c8
              subst c8
              have H1 : (if (wrap64 (x4_1 + 4)) ≤ (a0.size : Int) then (if 0 ≤ x4_1 then (if x4_1 ≤ (wrap64 (x4_1 + 4)) then (spec_Matched.j2 kj2 a0 x3_1 x4_1 ((a0.extract (x4_1 : Int).toNat ((wrap64 (x4_1 + 4)) : Int).toNat).toList == ([60, 33, 45, 45] : List UInt8))) else (none)) else (none)) else (spec_Matched.j2 kj2 a0 x3_1 x4_1 false)) = some r := by rw [if_neg (show ¬ (false = true) by decide)] at H; exact H
              clear H
              have H := H1
              clear H1
              have HC14 := Aside0.mk H
              clear H
              go_upto_region 10 with (fail)
              go_cut [36] (fun v36 wc => ∃ (kq : Nat) (x36_13 : Bool), v36 = .bool x36_13 ∧ Aside0 (spec_Matched.j2 kq a0 x3_1 x4_1 x36_13 = some r) ∧ Aside0 (kq ≤ kj2) ∧ Drawn0 w wc)
              case first =>
                have H := HC14.out
                clear HC14
                by_cases c15 : (wrap64 (x4_1 + 4)) ≤ (a0.size : Int)
                · rw [if_pos c15] at H
                  have c15b0 : decide ((wrap64 (x4_1 + 4)) ≤ (a0.size : Int)) = true := decide_eq_true c15
                  clear c15
                  (first | rw [c15b0] | (simp only [i64_w, i32_w]; rw [c15b0]) | skip)
                  by_cases c16 : 0 ≤ x4_1
                  · rw [if_pos c16] at H
                    have c16b0 := eq_true c16
                    have c16b1 : decide (0 ≤ x4_1) = true := decide_eq_true c16
                    clear c16
                    by_cases c17 : x4_1 ≤ (wrap64 (x4_1 + 4))
                    · rw [if_pos c17] at H
                      have c17b0 := eq_true c17
                      have c17b1 : decide (x4_1 ≤ (wrap64 (x4_1 + 4))) = true := decide_eq_true c17
                      have c18b0 := eq_true (of_decide_eq_true (by first | (with_reducible assumption) | assumption) : (wrap64 (x4_1 + 4)) ≤ (a0.size : Int))
                      have H' := Aside0.mk H
                      clear H
                      go_wp2
                      go_meet
                      case rel => exact ⟨_, (((a0.extract (x4_1 : Int).toNat ((wrap64 (x4_1 + 4)) : Int).toNat).toList == ([60, 33, 45, 45] : List UInt8))), (by first | rfl | (simp; done) | (simp [*]; done)), H', ⟨by have := HK1.out; have := HJ2.out; first | omega | exact Nat.le_refl _⟩, by repeat (first | exact Drawn0.refl _ | apply Drawn0.step)⟩
                    · rw [if_neg c17] at H
                      exact absurd H (by simp)
                  · rw [if_neg c16] at H
                    exact absurd H (by simp)
                · rw [if_neg c15] at H
                  have c15b0 : decide ((wrap64 (x4_1 + 4)) ≤ (a0.size : Int)) = false := decide_eq_false c15
                  clear c15
                  (first | rw [c15b0] | (simp only [i64_w, i32_w]; rw [c15b0]) | skip)
                  have H' := Aside0.mk H
                  clear H
                  go_wp2
                  go_meet
                  case rel => exact ⟨_, (false), (by first | rfl | (simp; done) | (simp [*]; done)), H', ⟨by have := HK1.out; have := HJ2.out; first | omega | exact Nat.le_refl _⟩, by repeat (first | exact Drawn0.refl _ | apply Drawn0.step)⟩
              case rest =>
                clear HC14
                try clear c1
                try clear c2
                try clear c2b0
                try clear p2
                try clear c4
                try clear c4b0
                try clear p5
                try clear q5
                try clear hx5
                try clear c6
                try clear c6b0
                try clear c6b1
                try clear p6
                try clear p7
                try clear q7
                try clear hx7
                try clear c8
                try clear c9
                try clear c9b0
                try clear c9b1
                try clear c10
                try clear c10b0
                try clear c10b1
                try clear c11
                try clear c11b0
                try clear c11b1
                try clear c13
                try clear c13b0
                try clear c15
                try clear c15b0
                try clear c16
                try clear c16b0
                try clear c16b1
                try clear c17
                try clear c17b0
                try clear c17b1
                try clear c18
                try clear c18b0
                try clear p2
                try clear p5
                try clear p7
                try clear q5
                try clear q7
                obtain ⟨kq, x36_13, rfl, HA, HJ13, ⟨mc13, rfl⟩⟩ := hcut
                cases kq with
                | zero => exact absurd HA.out (by simp [spec_Matched.j2])
                | succ kj13 =>
                  have H := HA.out
                  clear HA
                  simp only [spec_Matched.j2] at H
                  by_cases c19 : x36_13 = true
                  · subst c19
                    have H1 : ((spec_find.f kj13 a0 (wrap64 (x4_1 + 4)) (⟨#[45, 45, 62]⟩ : ByteArray)).bind fun t107 => (if t107 < 0 then (some false) else (spec_Matched.l0 kj13 a0 x3_1 (wrap64 ((wrap64 (t107 + 2)) + 1))))) = some r := by rw [if_pos rfl] at H; exact H
                    clear H
                    have H := H1
                    clear H1
                    replace H := Option.bind_eq_some_iff.mp H
                    obtain ⟨t107, A200, H⟩ := H
                    replace H : (if t107 < 0 then (some false) else (spec_Matched.l0 kj13 a0 x3_1 (wrap64 ((wrap64 (t107 + 2)) + 1)))) = some r := H
                    have A20 := Aside0.mk A200
                    clear A200
                    by_cases c21 : t107 < 0
                    · rw [if_pos c21] at H
                      have c21b0 : decide (t107 < 0) = true := decide_eq_true c21
                      clear c21
                      obtain rfl := Option.some.inj H
                      go_wp2_with (first | ((with_reducible refine gate_callee (f := 18) rfl ?_); refine goesL_ (some 53) rfl rfl Try.func18 (by kernel_rfl) rfl #[.string a0, .int .i64 (wrap64 (x4_1 + 4)), .string (⟨#[45, 45, 62]⟩ : ByteArray)] rfl (by (try simp only [List.map_toArray, List.map_cons, List.map_nil]); first | done | rfl | (simp only [List.length_drop, List.length_take]; rfl)) ?_; (with_reducible refine (spec_find.calls kj13 a0 (wrap64 (x4_1 + 4)) (⟨#[45, 45, 62]⟩ : ByteArray) t107 _ A20.out).mono ?_); rintro e w' ⟨rfl, ⟨nd, rfl⟩⟩; refine ⟨_, rfl, ?_⟩))
                      go_ret
                      exact ⟨by first | rfl | (simp; done) | (simp [*]; done), by repeat (first | exact Drawn0.refl _ | apply Drawn0.step)⟩
                    · rw [if_neg c21] at H
                      have c21b0 : decide (t107 < 0) = false := decide_eq_false c21
                      clear c21
                      have H' := Aside0.mk H
                      clear H
                      go_wp2_with (first | ((with_reducible refine gate_callee (f := 18) rfl ?_); refine goesL_ (some 53) rfl rfl Try.func18 (by kernel_rfl) rfl #[.string a0, .int .i64 (wrap64 (x4_1 + 4)), .string (⟨#[45, 45, 62]⟩ : ByteArray)] rfl (by (try simp only [List.map_toArray, List.map_cons, List.map_nil]); first | done | rfl | (simp only [List.length_drop, List.length_take]; rfl)) ?_; (with_reducible refine (spec_find.calls kj13 a0 (wrap64 (x4_1 + 4)) (⟨#[45, 45, 62]⟩ : ByteArray) t107 _ A20.out).mono ?_); rintro e w' ⟨rfl, ⟨nd, rfl⟩⟩; refine ⟨_, rfl, ?_⟩))
                      go_roundg kj13
                      case measure => have := HK1.out; have := HJ2.out; have := HJ13.out; omega
                      case rel => exact ⟨(x3_1), (wrap64 ((wrap64 (t107 + 2)) + 1)), (by first | rfl | (simp; done) | (simp [*]; done)), (by first | rfl | (simp; done) | (simp [*]; done)), H', ⟨by have := HK1.out; have := HJ2.out; have := HJ13.out; omega⟩, by repeat (first | exact Drawn0.refl _ | apply Drawn0.step)⟩
                  · replace c19 := Bool.eq_false_iff.mpr c19
                    subst c19
                    have H1 : (if 0 ≤ x4_1 then (if x4_1 < (a0.size : Int) then (if (bt a0 x4_1) = 60 then (spec_Matched.l0 kj13 a0 (wrap64 (x3_1 + 1)) (wrap64 (x4_1 + 1))) else (if (bt a0 x4_1) = 62 then (if (wrap64 (x3_1 - 1)) < 0 then (some false) else (spec_Matched.l0 kj13 a0 (wrap64 (x3_1 - 1)) (wrap64 (x4_1 + 1)))) else (spec_Matched.l0 kj13 a0 x3_1 (wrap64 (x4_1 + 1))))) else (none)) else (none)) = some r := by rw [if_neg (show ¬ (false = true) by decide)] at H; exact H
                    clear H
                    have H := H1
                    clear H1
                    by_cases c22 : 0 ≤ x4_1
                    · rw [if_pos c22] at H
                      have c22b0 : decide (0 ≤ x4_1) = true := decide_eq_true c22
                      clear c22
                      by_cases c23 : x4_1 < (a0.size : Int)
                      · rw [if_pos c23] at H
                        have c23b0 : decide (x4_1 < (a0.size : Int)) = true := decide_eq_true c23
                        clear c23
                        by_cases c25 : (bt a0 x4_1) = 60
                        · rw [if_pos c25] at H
                          have c25b0 : ((bt a0 x4_1) == 60) = true := beq_iff_eq.mpr c25
                          have c25b1 : ((bt a0 x4_1) != 60) = false := bne_eq_false_iff_eq.mpr c25
                          clear c25
                          have H' := Aside0.mk H
                          clear H
                          have p24 : 0 ≤ (x4_1 : Int) := of_decide_eq_true (by first | (with_reducible assumption) | assumption)
                          have q24 : x4_1 < (a0.size : Int) := of_decide_eq_true (by first | (with_reducible assumption) | assumption)
                          have hx24 := bt_at a0 x4_1
                          replace p24 := eq_true p24
                          replace q24 := eq_true q24
                          go_wp2
                          go_roundg kj13
                          case measure => have := HK1.out; have := HJ2.out; have := HJ13.out; omega
                          case rel => exact ⟨(wrap64 (x3_1 + 1)), (wrap64 (x4_1 + 1)), (by first | rfl | (simp; done) | (simp [*]; done)), (by first | rfl | (simp; done) | (simp [*]; done)), H', ⟨by have := HK1.out; have := HJ2.out; have := HJ13.out; omega⟩, by repeat (first | exact Drawn0.refl _ | apply Drawn0.step)⟩
                        · rw [if_neg c25] at H
                          have c25b0 : ((bt a0 x4_1) == 60) = false := beq_eq_false_iff_ne.mpr c25
                          have c25b1 : ((bt a0 x4_1) != 60) = true := bne_iff_ne.mpr c25
                          by_cases c27 : (bt a0 x4_1) = 62
                          · rw [if_pos c27] at H
                            have c27b0 : ((bt a0 x4_1) == 62) = true := beq_iff_eq.mpr c27
                            have c27b1 : ((bt a0 x4_1) != 62) = false := bne_eq_false_iff_eq.mpr c27
                            clear c27
                            by_cases c28 : (wrap64 (x3_1 - 1)) < 0
                            · rw [if_pos c28] at H
                              have c28b0 : decide ((wrap64 (x3_1 - 1)) < 0) = true := decide_eq_true c28
                              clear c28
                              obtain rfl := Option.some.inj H
                              have p24 : 0 ≤ (x4_1 : Int) := of_decide_eq_true (by first | (with_reducible assumption) | assumption)
                              have q24 : x4_1 < (a0.size : Int) := of_decide_eq_true (by first | (with_reducible assumption) | assumption)
                              have hx24 := bt_at a0 x4_1
                              replace p24 := eq_true p24
                              replace q24 := eq_true q24
                              have p26 : 0 ≤ (x4_1 : Int) := of_decide_eq_true (by first | (with_reducible assumption) | assumption)
                              have q26 : x4_1 < (a0.size : Int) := of_decide_eq_true (by first | (with_reducible assumption) | assumption)
                              have hx26 := bt_at a0 x4_1
                              replace p26 := eq_true p26
                              replace q26 := eq_true q26
                              go_wp2
                              go_ret
                              exact ⟨by first | rfl | (simp; done) | (simp [*]; done), by repeat (first | exact Drawn0.refl _ | apply Drawn0.step)⟩
                            · rw [if_neg c28] at H
                              have c28b0 : decide ((wrap64 (x3_1 - 1)) < 0) = false := decide_eq_false c28
                              clear c28
                              have H' := Aside0.mk H
                              clear H
                              have p24 : 0 ≤ (x4_1 : Int) := of_decide_eq_true (by first | (with_reducible assumption) | assumption)
                              have q24 : x4_1 < (a0.size : Int) := of_decide_eq_true (by first | (with_reducible assumption) | assumption)
                              have hx24 := bt_at a0 x4_1
                              replace p24 := eq_true p24
                              replace q24 := eq_true q24
                              have p26 : 0 ≤ (x4_1 : Int) := of_decide_eq_true (by first | (with_reducible assumption) | assumption)
                              have q26 : x4_1 < (a0.size : Int) := of_decide_eq_true (by first | (with_reducible assumption) | assumption)
                              have hx26 := bt_at a0 x4_1
                              replace p26 := eq_true p26
                              replace q26 := eq_true q26
                              go_wp2
                              go_roundg kj13
                              case measure => have := HK1.out; have := HJ2.out; have := HJ13.out; omega
                              case rel => exact ⟨(wrap64 (x3_1 - 1)), (wrap64 (x4_1 + 1)), (by first | rfl | (simp; done) | (simp [*]; done)), (by first | rfl | (simp; done) | (simp [*]; done)), H', ⟨by have := HK1.out; have := HJ2.out; have := HJ13.out; omega⟩, by repeat (first | exact Drawn0.refl _ | apply Drawn0.step)⟩
                          · rw [if_neg c27] at H
                            have c27b0 : ((bt a0 x4_1) == 62) = false := beq_eq_false_iff_ne.mpr c27
                            have c27b1 : ((bt a0 x4_1) != 62) = true := bne_iff_ne.mpr c27
                            have H' := Aside0.mk H
                            clear H
                            have p24 : 0 ≤ (x4_1 : Int) := of_decide_eq_true (by first | (with_reducible assumption) | assumption)
                            have q24 : x4_1 < (a0.size : Int) := of_decide_eq_true (by first | (with_reducible assumption) | assumption)
                            have hx24 := bt_at a0 x4_1
                            replace p24 := eq_true p24
                            replace q24 := eq_true q24
                            have p26 : 0 ≤ (x4_1 : Int) := of_decide_eq_true (by first | (with_reducible assumption) | assumption)
                            have q26 : x4_1 < (a0.size : Int) := of_decide_eq_true (by first | (with_reducible assumption) | assumption)
                            have hx26 := bt_at a0 x4_1
                            replace p26 := eq_true p26
                            replace q26 := eq_true q26
                            go_wp2
                            go_roundg kj13
                            case measure => have := HK1.out; have := HJ2.out; have := HJ13.out; omega
                            case rel => exact ⟨(x3_1), (wrap64 (x4_1 + 1)), (by first | rfl | (simp; done) | (simp [*]; done)), (by first | rfl | (simp; done) | (simp [*]; done)), H', ⟨by have := HK1.out; have := HJ2.out; have := HJ13.out; omega⟩, by repeat (first | exact Drawn0.refl _ | apply Drawn0.step)⟩
                      · rw [if_neg c23] at H
                        exact absurd H (by simp)
                    · rw [if_neg c22] at H
                      exact absurd H (by simp)
      · rw [if_neg c2] at H
        have c2b0 : decide (x4_1 < (a0.size : Int)) = false := decide_eq_false c2
        clear c2
        obtain rfl := Option.some.inj H
        go_wp2
        go_ret
        exact ⟨by first | rfl | (simp; done) | (simp [*]; done), by repeat (first | exact Drawn0.refl _ | apply Drawn0.step)⟩

-- NOT PRINTED: function 4 (laws_FnDirective)

end Go.Proofs.Ytfcefkenpndblaa.DirF
