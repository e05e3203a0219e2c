/- What is proved here: the Go functions that the statement on directives reaches come to what the Lean functions below tell (first printed by the kit's print.sh, then turned by hand where the print fell); the conditions stand in each theorem. -/
import Derived.Test.YtfcefkenpndblaaPFnDirectivex0
namespace Go.Proofs.Ytfcefkenpndblaa.DirF
open Go.RowKit Go.Proofs.Ytfcefkenpndblaa.PFnDirective Go.Proofs.YtfcefkenpndblaaW.PrintWords Go.Proofs.YtfcefkenpndblaaW.PrintLast Go.Proofs.YtfcefkenpndblaaW.PrintMore
attribute [local go_sem] max2_int min2_int max_two min_two max_three min_three max_four min_four   -- for this text's walks alone
set_option linter.unusedVariables false
set_option linter.unusedSimpArgs false

theorem Aid.len_to {w W : World} {A : Option Addr} {n m : Nat} {xs : List Int} (h : n = m) (hr : (Kd.int .u8).C w A n xs) (hw : ∀ a, W.cell? a = w.cell? a := by intro a; rfl) : (Kd.int .u8).C W A m xs := by
  subst h
  have h1 := Kd.reads_of_C (enc := Value.int .u8) (d := (0 : Int)) (h1 := fun _ => rfl) hr
  refine Kd.C_of_reads (d := (0 : Int)) ⟨h1.1, h1.2.1, fun hp => ?_⟩
  obtain ⟨ad, e, hc⟩ := h1.2.2 hp
  exact ⟨ad, e, fun j hj => (hw _).trans (hc j hj)⟩

/-! ### spec_holds: function 16 -/
def spec_holds.l0 : Nat → ByteArray → ByteArray → Int → Option (Bool)
  | 0, _, _, _ => none
  | k + 1, x0, x1, x5 => if (wrap64 (x5 + (x1.size : Int))) ≤ (x0.size : Int) then (if 0 ≤ x5 then (if x5 ≤ (wrap64 (x5 + (x1.size : Int))) then (if (x0.extract (x5 : Int).toNat ((wrap64 (x5 + (x1.size : Int))) : Int).toNat).toList = x1.toList then (some true) else (spec_holds.l0 k x0 x1 (wrap64 (x5 + 1)))) else (none)) else (none)) else (some false)
def spec_holds.f (k : Nat) (a0 : ByteArray) (a1 : ByteArray) : Option (Bool) := spec_holds.l0 k a0 a1 0
theorem spec_holds.mono_l : ∀ k, (∀ y0 y1 y2, LeO (spec_holds.l0 k y0 y1 y2) (spec_holds.l0 (k + 1) y0 y1 y2))
  | 0 => fun _ _ _ r h => by simp [spec_holds.l0] at h
  | k + 1 => by
    have ih0 := spec_holds.mono_l k
    · intro y0 y1 y2
      unfold spec_holds.l0
      repeat' first
      | (with_reducible exact ih0 _ _ _)
      | (with_reducible exact LeO.refl _)
      | (with_reducible exact LeO.none _)
      | (with_reducible refine LeO.ite ?_ ?_)
      | (with_reducible refine LeO.bind ?_ (fun _ => ?_))
      | exact ih0 _ _ _
      | exact LeO.none _
      | refine LeO.ite ?_ ?_
      | refine LeO.bind ?_ (fun _ => ?_)
theorem spec_holds.mono : ∀ a0 a1 k, LeO (spec_holds.f k a0 a1) (spec_holds.f (k + 1) a0 a1) := by
  intro a0 a1 k
  have ih0 := spec_holds.mono_l k
  unfold spec_holds.f
  repeat' first
      | (with_reducible exact ih0 _ _ _)
      | (with_reducible exact LeO.refl _)
      | (with_reducible exact LeO.none _)
      | (with_reducible refine LeO.ite ?_ ?_)
      | (with_reducible refine LeO.bind ?_ (fun _ => ?_))
      | exact ih0 _ _ _
      | exact LeO.none _
      | refine LeO.ite ?_ ?_
      | refine LeO.bind ?_ (fun _ => ?_)
set_option maxHeartbeats 8000000 in
set_option maxRecDepth 100000 in
theorem spec_holds.calls (k : Nat) (a0 : ByteArray) (a1 : ByteArray) (r : Bool) (w : World) (h : spec_holds.f k a0 a1 = some r) :
    Calls Try.prog 16 #[.string a0, .string a1] w fun e w' => e = .returned (.bool r) ∧ Drawn0 w w' := by
  have H : (spec_holds.l0 k a0 a1 0) = some r := h
  clear h
  have H' := Aside0.mk H
  clear H
  go_enter Try.func16, Try.ntmps16
  go_wp2
  go_loopg [5] k (fun kq v5 w' => ∃ (x5_1 : Int), v5 = .int .i64 x5_1 ∧ Aside0 (spec_holds.l0 kq a0 a1 x5_1 = some r) ∧ Aside0 (kq ≤ k) ∧ Drawn0 w w')
  case atStart => exact ⟨(0), (by first | rfl | (simp; done) | (simp [*]; done)), H', ⟨Nat.le_refl _⟩, by repeat (first | exact Drawn0.refl _ | apply Drawn0.step)⟩
  case round =>
    clear H'
    try clear c1
    try clear p2
    obtain ⟨x5_1, rfl, HA, HK1, ⟨m1, rfl⟩⟩ := hrel
    cases gk with
    | zero => exact absurd HA.out (by simp [spec_holds.l0])
    | succ k1 =>
      have H := HA.out
      clear HA
      simp only [spec_holds.l0] at H
      by_cases c3 : (wrap64 (x5_1 + (a1.size : Int))) ≤ (a0.size : Int)
      · rw [if_pos c3] at H
        have c3b0 : decide ((wrap64 (x5_1 + (a1.size : Int))) ≤ (a0.size : Int)) = true := decide_eq_true c3
        clear c3
        by_cases c4 : 0 ≤ x5_1
        · rw [if_pos c4] at H
          have c4b0 := eq_true c4
          have c4b1 : decide (0 ≤ x5_1) = true := decide_eq_true c4
          clear c4
          by_cases c5 : x5_1 ≤ (wrap64 (x5_1 + (a1.size : Int)))
          · rw [if_pos c5] at H
            have c5b0 := eq_true c5
            have c5b1 : decide (x5_1 ≤ (wrap64 (x5_1 + (a1.size : Int)))) = true := decide_eq_true c5
            have c6b0 := eq_true (of_decide_eq_true (by first | (with_reducible assumption) | assumption) : (wrap64 (x5_1 + (a1.size : Int))) ≤ (a0.size : Int))
            by_cases c7 : (a0.extract (x5_1 : Int).toNat ((wrap64 (x5_1 + (a1.size : Int))) : Int).toNat).toList = a1.toList
            · rw [if_pos c7] at H
              have c7b0 : ((a0.extract (x5_1 : Int).toNat ((wrap64 (x5_1 + (a1.size : Int))) : Int).toNat).toList == a1.toList) = true := beq_iff_eq.mpr c7
              have c7b1 : ((a0.extract (x5_1 : Int).toNat ((wrap64 (x5_1 + (a1.size : Int))) : Int).toNat).toList != a1.toList) = false := bne_eq_false_iff_eq.mpr c7
              clear c7
              obtain rfl := Option.some.inj H
              go_wp2
              go_ret
              exact ⟨by first | rfl | (simp; done) | (simp [*]; done), by repeat (first | exact Drawn0.refl _ | apply Drawn0.step)⟩
            · rw [if_neg c7] at H
              have c7b0 : ((a0.extract (x5_1 : Int).toNat ((wrap64 (x5_1 + (a1.size : Int))) : Int).toNat).toList == a1.toList) = false := beq_eq_false_iff_ne.mpr c7
              have c7b1 : ((a0.extract (x5_1 : Int).toNat ((wrap64 (x5_1 + (a1.size : Int))) : Int).toNat).toList != a1.toList) = true := bne_iff_ne.mpr c7
              have H' := Aside0.mk H
              clear H
              go_wp2
              go_roundg k1
              case measure => have := HK1.out; omega
              case rel => exact ⟨(wrap64 (x5_1 + 1)), (by first | rfl | (simp; done) | (simp [*]; done)), H', ⟨by have := HK1.out; omega⟩, by repeat (first | exact Drawn0.refl _ | apply Drawn0.step)⟩
          · rw [if_neg c5] at H
            exact absurd H (by simp)
        · rw [if_neg c4] at H
          exact absurd H (by simp)
      · rw [if_neg c3] at H
        have c3b0 : decide ((wrap64 (x5_1 + (a1.size : Int))) ≤ (a0.size : Int)) = false := decide_eq_false c3
        clear c3
        obtain rfl := Option.some.inj H
        go_wp2
        go_ret
        exact ⟨by first | rfl | (simp; done) | (simp [*]; done), by repeat (first | exact Drawn0.refl _ | apply Drawn0.step)⟩

/-! ### spec_Short: function 8 -/
def spec_Short.f (k : Nat) (a0 : ByteArray) : Option (Bool) := (spec_holds.f k a0 (⟨#[60, 33, 45, 45, 62]⟩ : ByteArray)).bind fun t101 => (if t101 = true then (some true) else ((spec_holds.f k a0 (⟨#[60, 33, 45, 45, 45, 62]⟩ : ByteArray)).bind fun t102 => (some t102)))
theorem spec_Short.mono : ∀ a0 k, LeO (spec_Short.f k a0) (spec_Short.f (k + 1) a0) := by
  intro a0 k
  unfold spec_Short.f
  repeat' first
      | (with_reducible exact spec_holds.mono _ _ _)
      | (with_reducible exact LeO.refl _)
      | (with_reducible exact LeO.none _)
      | (with_reducible refine LeO.ite ?_ ?_)
      | (with_reducible refine LeO.bind ?_ (fun _ => ?_))
      | exact spec_holds.mono _ _ _
      | exact LeO.none _
      | refine LeO.ite ?_ ?_
      | refine LeO.bind ?_ (fun _ => ?_)
set_option maxHeartbeats 8000000 in
set_option maxRecDepth 100000 in
theorem spec_Short.calls (k : Nat) (a0 : ByteArray) (r : Bool) (w : World) (h : spec_Short.f k a0 = some r) :
    Calls Try.prog 8 #[.string a0] w fun e w' => e = .returned (.bool r) ∧ Drawn0 w w' := by
  have H : ((spec_holds.f k a0 (⟨#[60, 33, 45, 45, 62]⟩ : ByteArray)).bind fun t101 => (if t101 = true then (some true) else ((spec_holds.f k a0 (⟨#[60, 33, 45, 45, 45, 62]⟩ : ByteArray)).bind fun t102 => (some t102)))) = some r := h
  clear h
  replace H := Option.bind_eq_some_iff.mp H
  obtain ⟨t101, A20, H⟩ := H
  replace H : (if t101 = true then (some true) else ((spec_holds.f k a0 (⟨#[60, 33, 45, 45, 45, 62]⟩ : ByteArray)).bind fun t102 => (some t102))) = some r := H
  have A2 := Aside0.mk A20
  clear A20
  by_cases c3 : t101 = true
  · subst c3
    have H1 : (some true) = some r := by rw [if_pos rfl] at H; exact H
    clear H
    have H := H1
    clear H1
    obtain rfl := Option.some.inj H
    go_enter Try.func8, Try.ntmps8
    go_wp2_with (first | ((with_reducible refine gate_callee (f := 16) rfl ?_); refine goesL_ (some 4) rfl rfl Try.func16 (by kernel_rfl) rfl #[.string a0, .string (⟨#[60, 33, 45, 45, 62]⟩ : ByteArray)] rfl (by (try simp only [List.map_toArray, List.map_cons, List.map_nil]); first | done | rfl | (simp only [List.length_drop, List.length_take]; rfl)) ?_; (with_reducible refine (spec_holds.calls k a0 (⟨#[60, 33, 45, 45, 62]⟩ : ByteArray) true _ A2.out).mono ?_); rintro e w' ⟨rfl, ⟨nd, rfl⟩⟩; refine ⟨_, rfl, ?_⟩))
    go_ret
    exact ⟨by first | rfl | (simp; done) | (simp [*]; done), by repeat (first | exact Drawn0.refl _ | apply Drawn0.step)⟩
  · replace c3 := Bool.eq_false_iff.mpr c3
    subst c3
    have H1 : ((spec_holds.f k a0 (⟨#[60, 33, 45, 45, 45, 62]⟩ : ByteArray)).bind fun t102 => (some t102)) = some r := by rw [if_neg (show ¬ (false = true) by decide)] at H; exact H
    clear H
    have H := H1
    clear H1
    replace H := Option.bind_eq_some_iff.mp H
    obtain ⟨t102, A40, H⟩ := H
    replace H : (some t102) = some r := H
    have A4 := Aside0.mk A40
    clear A40
    obtain rfl := Option.some.inj H
    go_enter Try.func8, Try.ntmps8
    go_wp2_with (first | ((with_reducible refine gate_callee (f := 16) rfl ?_); refine goesL_ (some 4) rfl rfl Try.func16 (by kernel_rfl) rfl #[.string a0, .string (⟨#[60, 33, 45, 45, 62]⟩ : ByteArray)] rfl (by (try simp only [List.map_toArray, List.map_cons, List.map_nil]); first | done | rfl | (simp only [List.length_drop, List.length_take]; rfl)) ?_; (with_reducible refine (spec_holds.calls k a0 (⟨#[60, 33, 45, 45, 62]⟩ : ByteArray) false _ A2.out).mono ?_); rintro e w' ⟨rfl, ⟨nd, rfl⟩⟩; refine ⟨_, rfl, ?_⟩) | (go_at_call 16; (with_reducible refine (spec_holds.calls k a0 (⟨#[60, 33, 45, 45, 45, 62]⟩ : ByteArray) t102 _ A4.out).mono ?_); rintro e w' ⟨rfl, ⟨nd, rfl⟩⟩))
    go_ret
    exact ⟨by first | rfl | (simp; done) | (simp [*]; done), by repeat (first | exact Drawn0.refl _ | apply Drawn0.step)⟩

/-! ### xml_isValidDirective: function 23 -/
mutual
def xml_isValidDirective.l0 : Nat → List Int → Int → Int → Bool → List Int → Int → Int → Option (Bool)
  | 0, _, _, _, _, _, _, _ => none
  | k + 1, x0, x3, x4, x5, x9, x10, x11 => if x11 < x10 then (if 0 ≤ x11 then (if x11 < (x9.length : Int) then (if x5 = true then (if (rd x9 x11) = 62 then (if (wrap64 ((wrap64 (1 + x11)) - 3)) ≥ 0 then (if 0 ≤ (wrap64 ((wrap64 (1 + x11)) - 3)) then (if (wrap64 ((wrap64 (1 + x11)) - 3)) ≤ (wrap64 (x11 + 1)) then (if (wrap64 (x11 + 1)) ≤ (x0.length : Int) then (if (strOfNums ((x0.take ((wrap64 (x11 + 1)) : Int).toNat).drop ((wrap64 ((wrap64 (1 + x11)) - 3)) : Int).toNat)).toList = ([45, 45, 62] : List UInt8) then (xml_isValidDirective.l0 k x0 x3 x4 false x9 x10 (wrap64 (x11 + 1))) else (xml_isValidDirective.l0 k x0 x3 x4 x5 x9 x10 (wrap64 (x11 + 1)))) else (none)) else (none)) else (none)) else (xml_isValidDirective.l0 k x0 x3 x4 x5 x9 x10 (wrap64 (x11 + 1)))) else (xml_isValidDirective.l0 k x0 x3 x4 x5 x9 x10 (wrap64 (x11 + 1)))) else (if x4 = 0 then (if (rd x9 x11) = 39 then (xml_isValidDirective.j1 k x0 x3 x4 x5 x11 (rd x9 x11) x9 x10 x11 true) else (xml_isValidDirective.j1 k x0 x3 x4 x5 x11 (rd x9 x11) x9 x10 x11 ((rd x9 x11) == 34))) else (if (rd x9 x11) = x4 then (xml_isValidDirective.l0 k x0 x3 0 x5 x9 x10 (wrap64 (x11 + 1))) else (xml_isValidDirective.l0 k x0 x3 x4 x5 x9 x10 (wrap64 (x11 + 1)))))) else (none)) else (none)) else (if x3 = 0 then (if x4 = 0 then (some (!x5)) else (some false)) else (some false))
def xml_isValidDirective.j1 : Nat → List Int → Int → Int → Bool → Int → Int → List Int → Int → Int → Bool → Option (Bool)
  | 0, _, _, _, _, _, _, _, _, _, _ => none
  | k + 1, x0, x3, x4, x5, x6, x7, x9, x10, x11, x40 => if x40 = true then (xml_isValidDirective.l0 k x0 x3 x7 x5 x9 x10 (wrap64 (x11 + 1))) else (if x7 = 60 then (if (wrap64 (x6 + 4)) < (x0.length : Int) then (if 0 ≤ x6 then (if x6 ≤ (wrap64 (x6 + 4)) then (if (wrap64 (x6 + 4)) ≤ (x0.length : Int) then (if (strOfNums ((x0.take ((wrap64 (x6 + 4)) : Int).toNat).drop (x6 : Int).toNat)).toList = ([60, 33, 45, 45] : List UInt8) then (xml_isValidDirective.l0 k x0 x3 x4 true x9 x10 (wrap64 (x11 + 1))) else (xml_isValidDirective.l0 k x0 (wrap64 (x3 + 1)) x4 x5 x9 x10 (wrap64 (x11 + 1)))) else (none)) else (none)) else (none)) else (xml_isValidDirective.l0 k x0 (wrap64 (x3 + 1)) x4 x5 x9 x10 (wrap64 (x11 + 1)))) else (if x7 = 62 then (if x3 = 0 then (some false) else (xml_isValidDirective.l0 k x0 (wrap64 (x3 - 1)) x4 x5 x9 x10 (wrap64 (x11 + 1)))) else (xml_isValidDirective.l0 k x0 x3 x4 x5 x9 x10 (wrap64 (x11 + 1)))))
end
def xml_isValidDirective.f (k : Nat) (l0 : List Int) : Option (Bool) := xml_isValidDirective.l0 k l0 0 0 false l0 (l0.length : Int) 0
theorem xml_isValidDirective.mono_l : ∀ k, (∀ y0 y1 y2 y3 y4 y5 y6, LeO (xml_isValidDirective.l0 k y0 y1 y2 y3 y4 y5 y6) (xml_isValidDirective.l0 (k + 1) y0 y1 y2 y3 y4 y5 y6)) ∧ (∀ y0 y1 y2 y3 y4 y5 y6 y7 y8 y9, LeO (xml_isValidDirective.j1 k y0 y1 y2 y3 y4 y5 y6 y7 y8 y9) (xml_isValidDirective.j1 (k + 1) y0 y1 y2 y3 y4 y5 y6 y7 y8 y9))
  | 0 => ⟨fun _ _ _ _ _ _ _ r h => by simp [xml_isValidDirective.l0] at h, fun _ _ _ _ _ _ _ _ _ _ r h => by simp [xml_isValidDirective.j1] at h⟩
  | k + 1 => by
    obtain ⟨ih0, ih1⟩ := xml_isValidDirective.mono_l k
    refine ⟨?_, ?_⟩
    · intro y0 y1 y2 y3 y4 y5 y6
      unfold xml_isValidDirective.l0
      repeat' first
      | (with_reducible exact ih0 _ _ _ _ _ _ _)
      | (with_reducible exact ih1 _ _ _ _ _ _ _ _ _ _)
      | (with_reducible exact LeO.refl _)
      | (with_reducible exact LeO.none _)
      | (with_reducible refine LeO.ite ?_ ?_)
      | (with_reducible refine LeO.bind ?_ (fun _ => ?_))
      | exact ih0 _ _ _ _ _ _ _
      | exact ih1 _ _ _ _ _ _ _ _ _ _
      | exact LeO.none _
      | refine LeO.ite ?_ ?_
      | refine LeO.bind ?_ (fun _ => ?_)
    · intro y0 y1 y2 y3 y4 y5 y6 y7 y8 y9
      unfold xml_isValidDirective.j1
      repeat' first
      | (with_reducible exact ih0 _ _ _ _ _ _ _)
      | (with_reducible exact ih1 _ _ _ _ _ _ _ _ _ _)
      | (with_reducible exact LeO.refl _)
      | (with_reducible exact LeO.none _)
      | (with_reducible refine LeO.ite ?_ ?_)
      | (with_reducible refine LeO.bind ?_ (fun _ => ?_))
      | exact ih0 _ _ _ _ _ _ _
      | exact ih1 _ _ _ _ _ _ _ _ _ _
      | exact LeO.none _
      | refine LeO.ite ?_ ?_
      | refine LeO.bind ?_ (fun _ => ?_)
theorem xml_isValidDirective.mono : ∀ a0 k, LeO (xml_isValidDirective.f k a0) (xml_isValidDirective.f (k + 1) a0) := by
  intro a0 k
  obtain ⟨ih0, ih1⟩ := xml_isValidDirective.mono_l k
  unfold xml_isValidDirective.f
  repeat' first
      | (with_reducible exact ih0 _ _ _ _ _ _ _)
      | (with_reducible exact ih1 _ _ _ _ _ _ _ _ _ _)
      | (with_reducible exact LeO.refl _)
      | (with_reducible exact LeO.none _)
      | (with_reducible refine LeO.ite ?_ ?_)
      | (with_reducible refine LeO.bind ?_ (fun _ => ?_))
      | exact ih0 _ _ _ _ _ _ _
      | exact ih1 _ _ _ _ _ _ _ _ _ _
      | exact LeO.none _
      | refine LeO.ite ?_ ?_
      | refine LeO.bind ?_ (fun _ => ?_)
set_option maxHeartbeats 8000000 in
set_option maxRecDepth 100000 in
theorem xml_isValidDirective.calls (k : Nat) (A0 : Option Addr) (c0 : Nat) (l0 : List Int) (r : Bool) (w : World) (hr0 : Kd.C (Kd.int .u8) w A0 l0.length l0) (hc0 : l0.length ≤ c0) (h : xml_isValidDirective.f k l0 = some r) :
    Calls Try.prog 23 #[.slice A0 l0.length c0] w fun e w' => e = .returned (.bool r) ∧ Drawn0 w w' := by
  have HR0 := Aside0.mk hr0
  have HC0 := Aside0.mk hc0
  clear hr0 hc0
  have H : (xml_isValidDirective.l0 k l0 0 0 false l0 (l0.length : Int) 0) = some r := h
  clear h
  have H' := Aside0.mk H
  clear H
  go_enter Try.func23, Try.ntmps23
  go_wp2
  go_loopg [3, 4, 5, 11] k (fun kq v3 v4 v5 v11 w' => ∃ (x3_1 : Int) (x4_1 : Int) (x5_1 : Bool) (x11_1 : Int), v3 = .int .i64 x3_1 ∧ v4 = .int .u8 x4_1 ∧ v5 = .bool x5_1 ∧ v11 = .int .i64 x11_1 ∧ Aside0 (xml_isValidDirective.l0 kq l0 x3_1 x4_1 x5_1 l0 (l0.length : Int) x11_1 = some r) ∧ Aside0 (kq ≤ k) ∧ Drawn0 w w')
  case atStart => exact ⟨(0), (0), (false), (0), (by first | rfl | (simp; done) | (simp [*]; done)), (by first | rfl | (simp; done) | (simp [*]; done)), (by first | rfl | (simp; done) | (simp [*]; done)), (by first | rfl | (simp; done) | (simp [*]; done)), H', ⟨Nat.le_refl _⟩, by repeat (first | exact Drawn0.refl _ | apply Drawn0.step)⟩
  case round =>
    clear H'
    obtain ⟨x3_1, x4_1, x5_1, x11_1, rfl, rfl, rfl, rfl, HA, HK1, ⟨m1, rfl⟩⟩ := hrel
    cases gk with
    | zero => exact absurd HA.out (by simp [xml_isValidDirective.l0])
    | succ k1 =>
      have H := HA.out
      clear HA
      simp only [xml_isValidDirective.l0] at H
      by_cases c2 : x11_1 < (l0.length : Int)
      · rw [if_pos c2] at H
        have c2b0 : decide (x11_1 < (l0.length : Int)) = true := decide_eq_true c2
        clear c2
        by_cases c3 : 0 ≤ x11_1
        · rw [if_pos c3] at H
          have c3b0 : decide (0 ≤ x11_1) = true := decide_eq_true c3
          clear c3
          by_cases c4 : x11_1 < (l0.length : Int)
          · rw [if_pos c4] at H
            have c4b0 : decide (x11_1 < (l0.length : Int)) = true := decide_eq_true c4
            clear c4
            by_cases c5 : x5_1 = true
            · subst c5
              have H1 : (if (rd l0 x11_1) = 62 then (if (wrap64 ((wrap64 (1 + x11_1)) - 3)) ≥ 0 then (if 0 ≤ (wrap64 ((wrap64 (1 + x11_1)) - 3)) then (if (wrap64 ((wrap64 (1 + x11_1)) - 3)) ≤ (wrap64 (x11_1 + 1)) then (if (wrap64 (x11_1 + 1)) ≤ (l0.length : Int) then (if (strOfNums ((l0.take ((wrap64 (x11_1 + 1)) : Int).toNat).drop ((wrap64 ((wrap64 (1 + x11_1)) - 3)) : Int).toNat)).toList = ([45, 45, 62] : List UInt8) then (xml_isValidDirective.l0 k1 l0 x3_1 x4_1 false l0 (l0.length : Int) (wrap64 (x11_1 + 1))) else (xml_isValidDirective.l0 k1 l0 x3_1 x4_1 true l0 (l0.length : Int) (wrap64 (x11_1 + 1)))) else (none)) else (none)) else (none)) else (xml_isValidDirective.l0 k1 l0 x3_1 x4_1 true l0 (l0.length : Int) (wrap64 (x11_1 + 1)))) else (xml_isValidDirective.l0 k1 l0 x3_1 x4_1 true l0 (l0.length : Int) (wrap64 (x11_1 + 1)))) = some r := by rw [if_pos rfl] at H; exact H
              clear H
              have H := H1
              clear H1
              by_cases c6 : (rd l0 x11_1) = 62
              · rw [if_pos c6] at H
                have c6b0 : ((rd l0 x11_1) == 62) = true := beq_iff_eq.mpr c6
                have c6b1 : ((rd l0 x11_1) != 62) = false := bne_eq_false_iff_eq.mpr c6
                clear c6
                by_cases c7 : (wrap64 ((wrap64 (1 + x11_1)) - 3)) ≥ 0
                · rw [if_pos c7] at H
                  have c7b0 : decide (0 ≤ (wrap64 ((wrap64 (1 + x11_1)) - 3))) = true := decide_eq_true c7
                  clear c7
                  obtain ⟨ji8, hji8⟩ : ∃ j_ : Int, (wrap64 ((wrap64 (1 + x11_1)) - 3)) = j_ := ⟨_, rfl⟩
                  replace H : (if 0 ≤ (ji8) then (if (ji8) ≤ (wrap64 (x11_1 + 1)) then (if (wrap64 (x11_1 + 1)) ≤ (l0.length : Int) then (if (strOfNums ((l0.take ((wrap64 (x11_1 + 1)) : Int).toNat).drop ((ji8) : Int).toNat)).toList = ([45, 45, 62] : List UInt8) then (xml_isValidDirective.l0 k1 l0 x3_1 x4_1 false l0 (l0.length : Int) (wrap64 (x11_1 + 1))) else (xml_isValidDirective.l0 k1 l0 x3_1 x4_1 true l0 (l0.length : Int) (wrap64 (x11_1 + 1)))) else (none)) else (none)) else (none)) = some r := by first | (rw [hji8] at H; exact H) | (simp only [hji8] at H ⊢; exact H)
                  (try rw [hji8] at c7b0)
                  have hji8w : (IntKind.i64.wrap ((wrap64 (1 + x11_1)) - 3)) = ji8 := (i64_w _).trans hji8
                  by_cases c9 : 0 ≤ (ji8)
                  · rw [if_pos c9] at H
                    have c9b0 := eq_true c9
                    have c9b1 : decide (0 ≤ (ji8)) = true := decide_eq_true c9
                    clear c9
                    by_cases c10 : (ji8) ≤ (wrap64 (x11_1 + 1))
                    · rw [if_pos c10] at H
                      have c10b0 := eq_true c10
                      have c10b1 : decide ((ji8) ≤ (wrap64 (x11_1 + 1))) = true := decide_eq_true c10
                      by_cases c11 : (wrap64 (x11_1 + 1)) ≤ (l0.length : Int)
                      · rw [if_pos c11] at H
                        have c11b0 := eq_true c11
                        have c11b1 : decide ((wrap64 (x11_1 + 1)) ≤ (l0.length : Int)) = true := decide_eq_true c11
                        by_cases c12 : (strOfNums ((l0.take ((wrap64 (x11_1 + 1)) : Int).toNat).drop ((ji8) : Int).toNat)).toList = ([45, 45, 62] : List UInt8)
                        · rw [if_pos c12] at H
                          have c12b0 : ((strOfNums ((l0.take ((wrap64 (x11_1 + 1)) : Int).toNat).drop ((ji8) : Int).toNat)).toList == ([45, 45, 62] : List UInt8)) = true := beq_iff_eq.mpr c12
                          have c12b1 : ((strOfNums ((l0.take ((wrap64 (x11_1 + 1)) : Int).toNat).drop ((ji8) : Int).toNat)).toList != ([45, 45, 62] : List UInt8)) = false := bne_eq_false_iff_eq.mpr c12
                          clear c12
                          have H' := Aside0.mk H
                          clear H
                          have p103 : 0 ≤ (x11_1 : Int) := of_decide_eq_true (by first | (with_reducible assumption) | assumption)
                          have q103 : x11_1 < (l0.length : Int) := of_decide_eq_true (by first | (with_reducible assumption) | assumption)
                          obtain ⟨ad103, e103, hx103_0⟩ := Kd.at_int HR0.out x11_1 p103 q103
                          cases e103
                          replace p103 := eq_true p103
                          replace q103 := eq_true q103
                          obtain ⟨i013, hi013, _, hsz13, _⟩ := info_parts info5
                          obtain ⟨A13, hcut13, hA13, hC13⟩ := print_mid_of (P := Try.prog) (Value.int .u8) 0 39 5 .i64 .i64 Try.underlying39 hi013 hsz13 (some ad103) c0 l0 (ji8) (wrap64 (x11_1 + 1)) (of_decide_eq_true (by first | (with_reducible assumption) | assumption)) (by first | omega | exact of_decide_eq_true (by first | (with_reducible assumption) | assumption)) (of_decide_eq_true (by first | (with_reducible assumption) | assumption)) HC0.out
                          have HR104 := Aside0.mk (Kd.C_of_reads (h1 := fun _ => rfl) (hA13 _ (Kd.reads_of_C HR0.out)))
                          have HC104 := Aside0.mk hC13
                          clear hA13 hC13 hi013 hsz13
                          have hlv14 : ((l0.take (wrap64 (x11_1 + 1)).toNat).drop ji8.toNat).length = (wrap64 (x11_1 + 1)).toNat - ji8.toNat := by rw [List.length_drop, List.length_take]; omega
                          have hcv14 := fun (m : Nat) => Kd.C_string (P := Try.prog) (w := w.drewN m) (A := A13) (n := (wrap64 (x11_1 + 1)).toNat - ji8.toNat) (c := (c0 - (ji8).toNat)) Try.underlying39 Try.underlying5 Try.underlying9 (by exact Aid.len_to hlv14 HR104.out)
                          have hcw14 := fun (m m' : Nat) => Kd.C_string (P := Try.prog) (w := (w.drewN m).drewN m') (A := A13) (n := (wrap64 (x11_1 + 1)).toNat - ji8.toNat) (c := (c0 - (ji8).toNat)) Try.underlying39 Try.underlying5 Try.underlying9 (by exact Aid.len_to hlv14 HR104.out)
                          clear hlv14
                          go_wp2
                          go_roundg k1
                          case measure => have := HK1.out; omega
                          case rel => exact ⟨(x3_1), (x4_1), (false), (wrap64 (x11_1 + 1)), (by first | rfl | (simp; done) | (simp [*]; done)), (by first | rfl | (simp; done) | (simp [*]; done)), (by first | rfl | (simp; done) | (simp [*]; done)), (by first | rfl | (simp; done) | (simp [*]; done)), H', ⟨by have := HK1.out; omega⟩, by repeat (first | exact Drawn0.refl _ | apply Drawn0.step)⟩
                        · rw [if_neg c12] at H
                          have c12b0 : ((strOfNums ((l0.take ((wrap64 (x11_1 + 1)) : Int).toNat).drop ((ji8) : Int).toNat)).toList == ([45, 45, 62] : List UInt8)) = false := beq_eq_false_iff_ne.mpr c12
                          have c12b1 : ((strOfNums ((l0.take ((wrap64 (x11_1 + 1)) : Int).toNat).drop ((ji8) : Int).toNat)).toList != ([45, 45, 62] : List UInt8)) = true := bne_iff_ne.mpr c12
                          have H' := Aside0.mk H
                          clear H
                          have p103 : 0 ≤ (x11_1 : Int) := of_decide_eq_true (by first | (with_reducible assumption) | assumption)
                          have q103 : x11_1 < (l0.length : Int) := of_decide_eq_true (by first | (with_reducible assumption) | assumption)
                          obtain ⟨ad103, e103, hx103_0⟩ := Kd.at_int HR0.out x11_1 p103 q103
                          cases e103
                          replace p103 := eq_true p103
                          replace q103 := eq_true q103
                          obtain ⟨i015, hi015, _, hsz15, _⟩ := info_parts info5
                          obtain ⟨A15, hcut15, hA15, hC15⟩ := print_mid_of (P := Try.prog) (Value.int .u8) 0 39 5 .i64 .i64 Try.underlying39 hi015 hsz15 (some ad103) c0 l0 (ji8) (wrap64 (x11_1 + 1)) (of_decide_eq_true (by first | (with_reducible assumption) | assumption)) (by first | omega | exact of_decide_eq_true (by first | (with_reducible assumption) | assumption)) (of_decide_eq_true (by first | (with_reducible assumption) | assumption)) HC0.out
                          have HR104 := Aside0.mk (Kd.C_of_reads (h1 := fun _ => rfl) (hA15 _ (Kd.reads_of_C HR0.out)))
                          have HC104 := Aside0.mk hC15
                          clear hA15 hC15 hi015 hsz15
                          have hlv16 : ((l0.take (wrap64 (x11_1 + 1)).toNat).drop ji8.toNat).length = (wrap64 (x11_1 + 1)).toNat - ji8.toNat := by rw [List.length_drop, List.length_take]; omega
                          have hcv16 := fun (m : Nat) => Kd.C_string (P := Try.prog) (w := w.drewN m) (A := A15) (n := (wrap64 (x11_1 + 1)).toNat - ji8.toNat) (c := (c0 - (ji8).toNat)) Try.underlying39 Try.underlying5 Try.underlying9 (by exact Aid.len_to hlv16 HR104.out)
                          have hcw16 := fun (m m' : Nat) => Kd.C_string (P := Try.prog) (w := (w.drewN m).drewN m') (A := A15) (n := (wrap64 (x11_1 + 1)).toNat - ji8.toNat) (c := (c0 - (ji8).toNat)) Try.underlying39 Try.underlying5 Try.underlying9 (by exact Aid.len_to hlv16 HR104.out)
                          clear hlv16
                          go_wp2
                          go_roundg k1
                          case measure => have := HK1.out; omega
                          case rel => exact ⟨(x3_1), (x4_1), (true), (wrap64 (x11_1 + 1)), (by first | rfl | (simp; done) | (simp [*]; done)), (by first | rfl | (simp; done) | (simp [*]; done)), (by first | rfl | (simp; done) | (simp [*]; done)), (by first | rfl | (simp; done) | (simp [*]; done)), H', ⟨by have := HK1.out; omega⟩, by repeat (first | exact Drawn0.refl _ | apply Drawn0.step)⟩
                      · rw [if_neg c11] at H
                        exact absurd H (by simp)
                    · rw [if_neg c10] at H
                      exact absurd H (by simp)
                  · rw [if_neg c9] at H
                    exact absurd H (by simp)
                · rw [if_neg c7] at H
                  have c7b0 : decide (0 ≤ (wrap64 ((wrap64 (1 + x11_1)) - 3))) = false := decide_eq_false c7
                  clear c7
                  have H' := Aside0.mk H
                  clear H
                  have p103 : 0 ≤ (x11_1 : Int) := of_decide_eq_true (by first | (with_reducible assumption) | assumption)
                  have q103 : x11_1 < (l0.length : Int) := of_decide_eq_true (by first | (with_reducible assumption) | assumption)
                  obtain ⟨ad103, e103, hx103_0⟩ := Kd.at_int HR0.out x11_1 p103 q103
                  cases e103
                  replace p103 := eq_true p103
                  replace q103 := eq_true q103
                  go_wp2
                  go_roundg k1
                  case measure => have := HK1.out; omega
                  case rel => exact ⟨(x3_1), (x4_1), (true), (wrap64 (x11_1 + 1)), (by first | rfl | (simp; done) | (simp [*]; done)), (by first | rfl | (simp; done) | (simp [*]; done)), (by first | rfl | (simp; done) | (simp [*]; done)), (by first | rfl | (simp; done) | (simp [*]; done)), H', ⟨by have := HK1.out; omega⟩, by repeat (first | exact Drawn0.refl _ | apply Drawn0.step)⟩
              · rw [if_neg c6] at H
                have c6b0 : ((rd l0 x11_1) == 62) = false := beq_eq_false_iff_ne.mpr c6
                have c6b1 : ((rd l0 x11_1) != 62) = true := bne_iff_ne.mpr c6
                have H' := Aside0.mk H
                clear H
                have p103 : 0 ≤ (x11_1 : Int) := of_decide_eq_true (by first | (with_reducible assumption) | assumption)
                have q103 : x11_1 < (l0.length : Int) := of_decide_eq_true (by first | (with_reducible assumption) | assumption)
                obtain ⟨ad103, e103, hx103_0⟩ := Kd.at_int HR0.out x11_1 p103 q103
                cases e103
                replace p103 := eq_true p103
                replace q103 := eq_true q103
                go_wp2
                go_roundg k1
                case measure => have := HK1.out; omega
                case rel => exact ⟨(x3_1), (x4_1), (true), (wrap64 (x11_1 + 1)), (by first | rfl | (simp; done) | (simp [*]; done)), (by first | rfl | (simp; done) | (simp [*]; done)), (by first | rfl | (simp; done) | (simp [*]; done)), (by first | rfl | (simp; done) | (simp [*]; done)), H', ⟨by have := HK1.out; omega⟩, by repeat (first | exact Drawn0.refl _ | apply Drawn0.step)⟩
            · replace c5 := Bool.eq_false_iff.mpr c5
              subst c5
              have H1 : (if x4_1 = 0 then (if (rd l0 x11_1) = 39 then (xml_isValidDirective.j1 k1 l0 x3_1 x4_1 false x11_1 (rd l0 x11_1) l0 (l0.length : Int) x11_1 true) else (xml_isValidDirective.j1 k1 l0 x3_1 x4_1 false x11_1 (rd l0 x11_1) l0 (l0.length : Int) x11_1 ((rd l0 x11_1) == 34))) else (if (rd l0 x11_1) = x4_1 then (xml_isValidDirective.l0 k1 l0 x3_1 0 false l0 (l0.length : Int) (wrap64 (x11_1 + 1))) else (xml_isValidDirective.l0 k1 l0 x3_1 x4_1 false l0 (l0.length : Int) (wrap64 (x11_1 + 1))))) = some r := by rw [if_neg (show ¬ (false = true) by decide)] at H; exact H
              clear H
              have H := H1
              clear H1
              by_cases c17 : x4_1 = 0
              · rw [if_pos c17] at H
                have c17b0 : (x4_1 == 0) = true := beq_iff_eq.mpr c17
                have c17b1 : (x4_1 != 0) = false := bne_eq_false_iff_eq.mpr c17
                clear c17
                have HC18 := Aside0.mk H
                clear H
                have p103 : 0 ≤ (x11_1 : Int) := of_decide_eq_true (by first | (with_reducible assumption) | assumption)
                have q103 : x11_1 < (l0.length : Int) := of_decide_eq_true (by first | (with_reducible assumption) | assumption)
                obtain ⟨ad103, e103, hx103_0⟩ := Kd.at_int HR0.out x11_1 p103 q103
                cases e103
                replace p103 := eq_true p103
                replace q103 := eq_true q103
                go_upto_region 15 with (fail)
                go_cut [40] (fun v40 wc => ∃ (kq : Nat) (x40_17 : Bool), v40 = .bool x40_17 ∧ Aside0 (xml_isValidDirective.j1 kq l0 x3_1 x4_1 false x11_1 (rd l0 x11_1) l0 (l0.length : Int) x11_1 x40_17 = some r) ∧ Aside0 (kq ≤ k1) ∧ Drawn0 w wc)
                case first =>
                  have H := HC18.out
                  clear HC18
                  by_cases c19 : (rd l0 x11_1) = 39
                  · rw [if_pos c19] at H
                    have c19b0 : ((rd l0 x11_1) == 39) = true := beq_iff_eq.mpr c19
                    have c19b1 : ((rd l0 x11_1) != 39) = false := bne_eq_false_iff_eq.mpr c19
                    clear c19
                    (first | rw [c19b0] | (simp only [i64_w, i32_w]; rw [c19b0]) | skip)
                    have H' := Aside0.mk H
                    clear H
                    go_wp2
                    go_meet
                    case rel => exact ⟨_, (true), (by first | rfl | (simp; done) | (simp [*]; done)), H', ⟨by have := HK1.out; first | omega | exact Nat.le_refl _⟩, by repeat (first | exact Drawn0.refl _ | apply Drawn0.step)⟩
                  · rw [if_neg c19] at H
                    have c19b0 : ((rd l0 x11_1) == 39) = false := beq_eq_false_iff_ne.mpr c19
                    have c19b1 : ((rd l0 x11_1) != 39) = true := bne_iff_ne.mpr c19
                    (first | rw [c19b0] | (simp only [i64_w, i32_w]; rw [c19b0]) | skip)
                    have H' := Aside0.mk H
                    clear H
                    go_wp2
                    go_meet
                    case rel => exact ⟨_, (((rd l0 x11_1) == 34)), (by first | rfl | (simp; done) | (simp [*]; done)), H', ⟨by have := HK1.out; first | omega | exact Nat.le_refl _⟩, by repeat (first | exact Drawn0.refl _ | apply Drawn0.step)⟩
                case rest =>
                  clear HC18
                  try clear c1
                  try clear p1
                  try clear q1
                  try clear hx1
                  try clear hcv1
                  try clear hcw1
                  try clear c2
                  try clear c2b0
                  try clear p2
                  try clear c3
                  try clear c3b0
                  try clear c4
                  try clear c4b0
                  try clear c5
                  try clear c6
                  try clear c6b0
                  try clear c6b1
                  try clear p6
                  try clear c7
                  try clear c7b0
                  try clear c9
                  try clear c9b0
                  try clear c9b1
                  try clear c10
                  try clear c10b0
                  try clear c10b1
                  try clear p10
                  try clear q10
                  try clear hx10
                  try clear c11
                  try clear c11b0
                  try clear c11b1
                  try clear c12
                  try clear c12b0
                  try clear c12b1
                  try clear hcv14
                  try clear hcw14
                  try clear hcv16
                  try clear hcw16
                  try clear c17
                  try clear c17b0
                  try clear c17b1
                  try clear c19
                  try clear c19b0
                  try clear c19b1
                  try clear hx103_0
                  try clear p103
                  try clear q103
                  obtain ⟨kq, x40_17, rfl, HA, HJ17, ⟨mc17, rfl⟩⟩ := hcut
                  cases kq with
                  | zero => exact absurd HA.out (by simp [xml_isValidDirective.j1])
                  | succ kj17 =>
                    have H := HA.out
                    clear HA
                    simp only [xml_isValidDirective.j1] at H
                    by_cases c20 : x40_17 = true
                    · subst c20
                      have H1 : (xml_isValidDirective.l0 kj17 l0 x3_1 (rd l0 x11_1) false l0 (l0.length : Int) (wrap64 (x11_1 + 1))) = some r := by rw [if_pos rfl] at H; exact H
                      clear H
                      have H := H1
                      clear H1
                      have H' := Aside0.mk H
                      clear H
                      go_wp2
                      go_roundg kj17
                      case measure => have := HK1.out; have := HJ17.out; omega
                      case rel => exact ⟨(x3_1), ((rd l0 x11_1)), (false), (wrap64 (x11_1 + 1)), (by first | rfl | (simp; done) | (simp [*]; done)), (by first | rfl | (simp; done) | (simp [*]; done)), (by first | rfl | (simp; done) | (simp [*]; done)), (by first | rfl | (simp; done) | (simp [*]; done)), H', ⟨by have := HK1.out; have := HJ17.out; omega⟩, by repeat (first | exact Drawn0.refl _ | apply Drawn0.step)⟩
                    · replace c20 := Bool.eq_false_iff.mpr c20
                      subst c20
                      have H1 : (if (rd l0 x11_1) = 60 then (if (wrap64 (x11_1 + 4)) < (l0.length : Int) then (if 0 ≤ x11_1 then (if x11_1 ≤ (wrap64 (x11_1 + 4)) then (if (wrap64 (x11_1 + 4)) ≤ (l0.length : Int) then (if (strOfNums ((l0.take ((wrap64 (x11_1 + 4)) : Int).toNat).drop (x11_1 : Int).toNat)).toList = ([60, 33, 45, 45] : List UInt8) then (xml_isValidDirective.l0 kj17 l0 x3_1 x4_1 true l0 (l0.length : Int) (wrap64 (x11_1 + 1))) else (xml_isValidDirective.l0 kj17 l0 (wrap64 (x3_1 + 1)) x4_1 false l0 (l0.length : Int) (wrap64 (x11_1 + 1)))) else (none)) else (none)) else (none)) else (xml_isValidDirective.l0 kj17 l0 (wrap64 (x3_1 + 1)) x4_1 false l0 (l0.length : Int) (wrap64 (x11_1 + 1)))) else (if (rd l0 x11_1) = 62 then (if x3_1 = 0 then (some false) else (xml_isValidDirective.l0 kj17 l0 (wrap64 (x3_1 - 1)) x4_1 false l0 (l0.length : Int) (wrap64 (x11_1 + 1)))) else (xml_isValidDirective.l0 kj17 l0 x3_1 x4_1 false l0 (l0.length : Int) (wrap64 (x11_1 + 1))))) = some r := by rw [if_neg (show ¬ (false = true) by decide)] at H; exact H
                      clear H
                      have H := H1
                      clear H1
                      by_cases c21 : (rd l0 x11_1) = 60
                      · rw [if_pos c21] at H
                        have c21b0 : ((rd l0 x11_1) == 60) = true := beq_iff_eq.mpr c21
                        have c21b1 : ((rd l0 x11_1) != 60) = false := bne_eq_false_iff_eq.mpr c21
                        clear c21
                        by_cases c22 : (wrap64 (x11_1 + 4)) < (l0.length : Int)
                        · rw [if_pos c22] at H
                          have c22b0 : decide ((wrap64 (x11_1 + 4)) < (l0.length : Int)) = true := decide_eq_true c22
                          clear c22
                          by_cases c23 : 0 ≤ x11_1
                          · rw [if_pos c23] at H
                            have c23b0 := eq_true c23
                            have c23b1 : decide (0 ≤ x11_1) = true := decide_eq_true c23
                            clear c23
                            by_cases c24 : x11_1 ≤ (wrap64 (x11_1 + 4))
                            · rw [if_pos c24] at H
                              have c24b0 := eq_true c24
                              have c24b1 : decide (x11_1 ≤ (wrap64 (x11_1 + 4))) = true := decide_eq_true c24
                              by_cases c25 : (wrap64 (x11_1 + 4)) ≤ (l0.length : Int)
                              · rw [if_pos c25] at H
                                have c25b0 := eq_true c25
                                have c25b1 : decide ((wrap64 (x11_1 + 4)) ≤ (l0.length : Int)) = true := decide_eq_true c25
                                by_cases c26 : (strOfNums ((l0.take ((wrap64 (x11_1 + 4)) : Int).toNat).drop (x11_1 : Int).toNat)).toList = ([60, 33, 45, 45] : List UInt8)
                                · rw [if_pos c26] at H
                                  have c26b0 : ((strOfNums ((l0.take ((wrap64 (x11_1 + 4)) : Int).toNat).drop (x11_1 : Int).toNat)).toList == ([60, 33, 45, 45] : List UInt8)) = true := beq_iff_eq.mpr c26
                                  have c26b1 : ((strOfNums ((l0.take ((wrap64 (x11_1 + 4)) : Int).toNat).drop (x11_1 : Int).toNat)).toList != ([60, 33, 45, 45] : List UInt8)) = false := bne_eq_false_iff_eq.mpr c26
                                  clear c26
                                  have H' := Aside0.mk H
                                  clear H
                                  obtain ⟨i027, hi027, _, hsz27, _⟩ := info_parts info5
                                  obtain ⟨A27, hcut27, hA27, hC27⟩ := print_mid_of (P := Try.prog) (Value.int .u8) 0 39 5 .i64 .i64 Try.underlying39 hi027 hsz27 (some ad103) c0 l0 x11_1 (wrap64 (x11_1 + 4)) (of_decide_eq_true (by first | (with_reducible assumption) | assumption)) (by first | omega | exact of_decide_eq_true (by first | (with_reducible assumption) | assumption)) (of_decide_eq_true (by first | (with_reducible assumption) | assumption)) HC0.out
                                  have HR105 := Aside0.mk (Kd.C_of_reads (h1 := fun _ => rfl) (hA27 _ (Kd.reads_of_C HR0.out)))
                                  have HC105 := Aside0.mk hC27
                                  clear hA27 hC27 hi027 hsz27
                                  have hlv28 : ((l0.take (wrap64 (x11_1 + 4)).toNat).drop x11_1.toNat).length = (wrap64 (x11_1 + 4)).toNat - x11_1.toNat := by rw [List.length_drop, List.length_take]; omega
                                  have hcv28 := fun (m : Nat) => Kd.C_string (P := Try.prog) (w := w.drewN m) (A := A27) (n := (wrap64 (x11_1 + 4)).toNat - x11_1.toNat) (c := (c0 - x11_1.toNat)) Try.underlying39 Try.underlying5 Try.underlying9 (by exact Aid.len_to hlv28 HR105.out)
                                  have hcw28 := fun (m m' : Nat) => Kd.C_string (P := Try.prog) (w := (w.drewN m).drewN m') (A := A27) (n := (wrap64 (x11_1 + 4)).toNat - x11_1.toNat) (c := (c0 - x11_1.toNat)) Try.underlying39 Try.underlying5 Try.underlying9 (by exact Aid.len_to hlv28 HR105.out)
                                  clear hlv28
                                  go_wp2
                                  go_roundg kj17
                                  case measure => have := HK1.out; have := HJ17.out; omega
                                  case rel => exact ⟨(x3_1), (x4_1), (true), (wrap64 (x11_1 + 1)), (by first | rfl | (simp; done) | (simp [*]; done)), (by first | rfl | (simp; done) | (simp [*]; done)), (by first | rfl | (simp; done) | (simp [*]; done)), (by first | rfl | (simp; done) | (simp [*]; done)), H', ⟨by have := HK1.out; have := HJ17.out; omega⟩, by repeat (first | exact Drawn0.refl _ | apply Drawn0.step)⟩
                                · rw [if_neg c26] at H
                                  have c26b0 : ((strOfNums ((l0.take ((wrap64 (x11_1 + 4)) : Int).toNat).drop (x11_1 : Int).toNat)).toList == ([60, 33, 45, 45] : List UInt8)) = false := beq_eq_false_iff_ne.mpr c26
                                  have c26b1 : ((strOfNums ((l0.take ((wrap64 (x11_1 + 4)) : Int).toNat).drop (x11_1 : Int).toNat)).toList != ([60, 33, 45, 45] : List UInt8)) = true := bne_iff_ne.mpr c26
                                  have H' := Aside0.mk H
                                  clear H
                                  obtain ⟨i029, hi029, _, hsz29, _⟩ := info_parts info5
                                  obtain ⟨A29, hcut29, hA29, hC29⟩ := print_mid_of (P := Try.prog) (Value.int .u8) 0 39 5 .i64 .i64 Try.underlying39 hi029 hsz29 (some ad103) c0 l0 x11_1 (wrap64 (x11_1 + 4)) (of_decide_eq_true (by first | (with_reducible assumption) | assumption)) (by first | omega | exact of_decide_eq_true (by first | (with_reducible assumption) | assumption)) (of_decide_eq_true (by first | (with_reducible assumption) | assumption)) HC0.out
                                  have HR105 := Aside0.mk (Kd.C_of_reads (h1 := fun _ => rfl) (hA29 _ (Kd.reads_of_C HR0.out)))
                                  have HC105 := Aside0.mk hC29
                                  clear hA29 hC29 hi029 hsz29
                                  have hlv30 : ((l0.take (wrap64 (x11_1 + 4)).toNat).drop x11_1.toNat).length = (wrap64 (x11_1 + 4)).toNat - x11_1.toNat := by rw [List.length_drop, List.length_take]; omega
                                  have hcv30 := fun (m : Nat) => Kd.C_string (P := Try.prog) (w := w.drewN m) (A := A29) (n := (wrap64 (x11_1 + 4)).toNat - x11_1.toNat) (c := (c0 - x11_1.toNat)) Try.underlying39 Try.underlying5 Try.underlying9 (by exact Aid.len_to hlv30 HR105.out)
                                  have hcw30 := fun (m m' : Nat) => Kd.C_string (P := Try.prog) (w := (w.drewN m).drewN m') (A := A29) (n := (wrap64 (x11_1 + 4)).toNat - x11_1.toNat) (c := (c0 - x11_1.toNat)) Try.underlying39 Try.underlying5 Try.underlying9 (by exact Aid.len_to hlv30 HR105.out)
                                  clear hlv30
                                  go_wp2
                                  go_roundg kj17
                                  case measure => have := HK1.out; have := HJ17.out; omega
                                  case rel => exact ⟨(wrap64 (x3_1 + 1)), (x4_1), (false), (wrap64 (x11_1 + 1)), (by first | rfl | (simp; done) | (simp [*]; done)), (by first | rfl | (simp; done) | (simp [*]; done)), (by first | rfl | (simp; done) | (simp [*]; done)), (by first | rfl | (simp; done) | (simp [*]; done)), H', ⟨by have := HK1.out; have := HJ17.out; omega⟩, by repeat (first | exact Drawn0.refl _ | apply Drawn0.step)⟩
                              · rw [if_neg c25] at H
                                exact absurd H (by simp)
                            · rw [if_neg c24] at H
                              exact absurd H (by simp)
                          · rw [if_neg c23] at H
                            exact absurd H (by simp)
                        · rw [if_neg c22] at H
                          have c22b0 : decide ((wrap64 (x11_1 + 4)) < (l0.length : Int)) = false := decide_eq_false c22
                          clear c22
                          have H' := Aside0.mk H
                          clear H
                          go_wp2
                          go_roundg kj17
                          case measure => have := HK1.out; have := HJ17.out; omega
                          case rel => exact ⟨(wrap64 (x3_1 + 1)), (x4_1), (false), (wrap64 (x11_1 + 1)), (by first | rfl | (simp; done) | (simp [*]; done)), (by first | rfl | (simp; done) | (simp [*]; done)), (by first | rfl | (simp; done) | (simp [*]; done)), (by first | rfl | (simp; done) | (simp [*]; done)), H', ⟨by have := HK1.out; have := HJ17.out; omega⟩, by repeat (first | exact Drawn0.refl _ | apply Drawn0.step)⟩
                      · rw [if_neg c21] at H
                        have c21b0 : ((rd l0 x11_1) == 60) = false := beq_eq_false_iff_ne.mpr c21
                        have c21b1 : ((rd l0 x11_1) != 60) = true := bne_iff_ne.mpr c21
                        by_cases c31 : (rd l0 x11_1) = 62
                        · rw [if_pos c31] at H
                          have c31b0 : ((rd l0 x11_1) == 62) = true := beq_iff_eq.mpr c31
                          have c31b1 : ((rd l0 x11_1) != 62) = false := bne_eq_false_iff_eq.mpr c31
                          clear c31
                          by_cases c32 : x3_1 = 0
                          · rw [if_pos c32] at H
                            have c32b0 : (x3_1 == 0) = true := beq_iff_eq.mpr c32
                            have c32b1 : (x3_1 != 0) = false := bne_eq_false_iff_eq.mpr c32
                            clear c32
                            obtain rfl := Option.some.inj H
                            go_wp2
                            go_ret
                            exact ⟨by first | rfl | (simp; done) | (simp [*]; done), by repeat (first | exact Drawn0.refl _ | apply Drawn0.step)⟩
                          · rw [if_neg c32] at H
                            have c32b0 : (x3_1 == 0) = false := beq_eq_false_iff_ne.mpr c32
                            have c32b1 : (x3_1 != 0) = true := bne_iff_ne.mpr c32
                            have H' := Aside0.mk H
                            clear H
                            go_wp2
                            go_roundg kj17
                            case measure => have := HK1.out; have := HJ17.out; omega
                            case rel => exact ⟨(wrap64 (x3_1 - 1)), (x4_1), (false), (wrap64 (x11_1 + 1)), (by first | rfl | (simp; done) | (simp [*]; done)), (by first | rfl | (simp; done) | (simp [*]; done)), (by first | rfl | (simp; done) | (simp [*]; done)), (by first | rfl | (simp; done) | (simp [*]; done)), H', ⟨by have := HK1.out; have := HJ17.out; omega⟩, by repeat (first | exact Drawn0.refl _ | apply Drawn0.step)⟩
                        · rw [if_neg c31] at H
                          have c31b0 : ((rd l0 x11_1) == 62) = false := beq_eq_false_iff_ne.mpr c31
                          have c31b1 : ((rd l0 x11_1) != 62) = true := bne_iff_ne.mpr c31
                          have H' := Aside0.mk H
                          clear H
                          go_wp2
                          go_roundg kj17
                          case measure => have := HK1.out; have := HJ17.out; omega
                          case rel => exact ⟨(x3_1), (x4_1), (false), (wrap64 (x11_1 + 1)), (by first | rfl | (simp; done) | (simp [*]; done)), (by first | rfl | (simp; done) | (simp [*]; done)), (by first | rfl | (simp; done) | (simp [*]; done)), (by first | rfl | (simp; done) | (simp [*]; done)), H', ⟨by have := HK1.out; have := HJ17.out; omega⟩, by repeat (first | exact Drawn0.refl _ | apply Drawn0.step)⟩
              · rw [if_neg c17] at H
                have c17b0 : (x4_1 == 0) = false := beq_eq_false_iff_ne.mpr c17
                have c17b1 : (x4_1 != 0) = true := bne_iff_ne.mpr c17
                by_cases c33 : (rd l0 x11_1) = x4_1
                · rw [if_pos c33] at H
                  have c33b0 : ((rd l0 x11_1) == x4_1) = true := beq_iff_eq.mpr c33
                  have c33b1 : ((rd l0 x11_1) != x4_1) = false := bne_eq_false_iff_eq.mpr c33
                  clear c33
                  have H' := Aside0.mk H
                  clear H
                  have p103 : 0 ≤ (x11_1 : Int) := of_decide_eq_true (by first | (with_reducible assumption) | assumption)
                  have q103 : x11_1 < (l0.length : Int) := of_decide_eq_true (by first | (with_reducible assumption) | assumption)
                  obtain ⟨ad103, e103, hx103_0⟩ := Kd.at_int HR0.out x11_1 p103 q103
                  cases e103
                  replace p103 := eq_true p103
                  replace q103 := eq_true q103
                  go_wp2
                  go_roundg k1
                  case measure => have := HK1.out; omega
                  case rel => exact ⟨(x3_1), (0), (false), (wrap64 (x11_1 + 1)), (by first | rfl | (simp; done) | (simp [*]; done)), (by first | rfl | (simp; done) | (simp [*]; done)), (by first | rfl | (simp; done) | (simp [*]; done)), (by first | rfl | (simp; done) | (simp [*]; done)), H', ⟨by have := HK1.out; omega⟩, by repeat (first | exact Drawn0.refl _ | apply Drawn0.step)⟩
                · rw [if_neg c33] at H
                  have c33b0 : ((rd l0 x11_1) == x4_1) = false := beq_eq_false_iff_ne.mpr c33
                  have c33b1 : ((rd l0 x11_1) != x4_1) = true := bne_iff_ne.mpr c33
                  have H' := Aside0.mk H
                  clear H
                  have p103 : 0 ≤ (x11_1 : Int) := of_decide_eq_true (by first | (with_reducible assumption) | assumption)
                  have q103 : x11_1 < (l0.length : Int) := of_decide_eq_true (by first | (with_reducible assumption) | assumption)
                  obtain ⟨ad103, e103, hx103_0⟩ := Kd.at_int HR0.out x11_1 p103 q103
                  cases e103
                  replace p103 := eq_true p103
                  replace q103 := eq_true q103
                  go_wp2
                  go_roundg k1
                  case measure => have := HK1.out; omega
                  case rel => exact ⟨(x3_1), (x4_1), (false), (wrap64 (x11_1 + 1)), (by first | rfl | (simp; done) | (simp [*]; done)), (by first | rfl | (simp; done) | (simp [*]; done)), (by first | rfl | (simp; done) | (simp [*]; done)), (by first | rfl | (simp; done) | (simp [*]; done)), H', ⟨by have := HK1.out; omega⟩, by repeat (first | exact Drawn0.refl _ | apply Drawn0.step)⟩
          · rw [if_neg c4] at H
            exact absurd H (by simp)
        · rw [if_neg c3] at H
          exact absurd H (by simp)
      · rw [if_neg c2] at H
        have c2b0 : decide (x11_1 < (l0.length : Int)) = false := decide_eq_false c2
        clear c2
        by_cases c34 : x3_1 = 0
        · rw [if_pos c34] at H
          have c34b0 : (x3_1 == 0) = true := beq_iff_eq.mpr c34
          have c34b1 : (x3_1 != 0) = false := bne_eq_false_iff_eq.mpr c34
          clear c34
          by_cases c35 : x4_1 = 0
          · rw [if_pos c35] at H
            have c35b0 : (x4_1 == 0) = true := beq_iff_eq.mpr c35
            have c35b1 : (x4_1 != 0) = false := bne_eq_false_iff_eq.mpr c35
            clear c35
            obtain rfl := Option.some.inj H
            go_wp2
            go_ret
            exact ⟨by first | rfl | (simp; done) | (simp [*]; done), by repeat (first | exact Drawn0.refl _ | apply Drawn0.step)⟩
          · rw [if_neg c35] at H
            have c35b0 : (x4_1 == 0) = false := beq_eq_false_iff_ne.mpr c35
            have c35b1 : (x4_1 != 0) = true := bne_iff_ne.mpr c35
            obtain rfl := Option.some.inj H
            go_wp2
            go_ret
            exact ⟨by first | rfl | (simp; done) | (simp [*]; done), by repeat (first | exact Drawn0.refl _ | apply Drawn0.step)⟩
        · rw [if_neg c34] at H
          have c34b0 : (x3_1 == 0) = false := beq_eq_false_iff_ne.mpr c34
          have c34b1 : (x3_1 != 0) = true := bne_iff_ne.mpr c34
          obtain rfl := Option.some.inj H
          go_wp2
          go_ret
          exact ⟨by first | rfl | (simp; done) | (simp [*]; done), by repeat (first | exact Drawn0.refl _ | apply Drawn0.step)⟩

-- NOT PRINTED: function 17 (xml_ZZValidDirective)

-- NOT PRINTED: function 9 (impl_ValidDirective)

/-! ### spec_find: function 18 -/
def spec_find.l0 : Nat → ByteArray → Int → ByteArray → Option (Int)
  | 0, _, _, _ => none
  | k + 1, x0, x1, x2 => if (wrap64 (x1 + (x2.size : Int))) ≤ (x0.size : Int) then (if 0 ≤ x1 then (if x1 ≤ (wrap64 (x1 + (x2.size : Int))) then (if (x0.extract (x1 : Int).toNat ((wrap64 (x1 + (x2.size : Int))) : Int).toNat).toList = x2.toList then (some x1) else (spec_find.l0 k x0 (wrap64 (x1 + 1)) x2)) else (none)) else (none)) else (some (-1))
def spec_find.f (k : Nat) (a0 : ByteArray) (a1 : Int) (a2 : ByteArray) : Option (Int) := spec_find.l0 k a0 a1 a2
theorem spec_find.mono_l : ∀ k, (∀ y0 y1 y2, LeO (spec_find.l0 k y0 y1 y2) (spec_find.l0 (k + 1) y0 y1 y2))
  | 0 => fun _ _ _ r h => by simp [spec_find.l0] at h
  | k + 1 => by
    have ih0 := spec_find.mono_l k
    · intro y0 y1 y2
      unfold spec_find.l0
      repeat' first
      | (with_reducible exact ih0 _ _ _)
      | (with_reducible exact LeO.refl _)
      | (with_reducible exact LeO.none _)
      | (with_reducible refine LeO.ite ?_ ?_)
      | (with_reducible refine LeO.bind ?_ (fun _ => ?_))
      | exact ih0 _ _ _
      | exact LeO.none _
      | refine LeO.ite ?_ ?_
      | refine LeO.bind ?_ (fun _ => ?_)
theorem spec_find.mono : ∀ a0 a1 a2 k, LeO (spec_find.f k a0 a1 a2) (spec_find.f (k + 1) a0 a1 a2) := by
  intro a0 a1 a2 k
  have ih0 := spec_find.mono_l k
  unfold spec_find.f
  repeat' first
      | (with_reducible exact ih0 _ _ _)
      | (with_reducible exact LeO.refl _)
      | (with_reducible exact LeO.none _)
      | (with_reducible refine LeO.ite ?_ ?_)
      | (with_reducible refine LeO.bind ?_ (fun _ => ?_))
      | exact ih0 _ _ _
      | exact LeO.none _
      | refine LeO.ite ?_ ?_
      | refine LeO.bind ?_ (fun _ => ?_)
set_option maxHeartbeats 8000000 in
set_option maxRecDepth 100000 in
theorem spec_find.calls (k : Nat) (a0 : ByteArray) (a1 : Int) (a2 : ByteArray) (r : Int) (w : World) (h : spec_find.f k a0 a1 a2 = some r) :
    Calls Try.prog 18 #[.string a0, .int .i64 a1, .string a2] w fun e w' => e = .returned (.int .i64 r) ∧ Drawn0 w w' := by
  have H : (spec_find.l0 k a0 a1 a2) = some r := h
  clear h
  have H' := Aside0.mk H
  clear H
  go_enter Try.func18, Try.ntmps18
  go_wp2
  go_loopg [1] k (fun kq v1 w' => ∃ (x1_1 : Int), v1 = .int .i64 x1_1 ∧ Aside0 (spec_find.l0 kq a0 x1_1 a2 = some r) ∧ Aside0 (kq ≤ k) ∧ Drawn0 w w')
  case atStart => exact ⟨(a1), (by first | rfl | (simp; done) | (simp [*]; done)), H', ⟨Nat.le_refl _⟩, by repeat (first | exact Drawn0.refl _ | apply Drawn0.step)⟩
  case round =>
    clear H'
    try clear c1
    try clear p2
    obtain ⟨x1_1, rfl, HA, HK1, ⟨m1, rfl⟩⟩ := hrel
    cases gk with
    | zero => exact absurd HA.out (by simp [spec_find.l0])
    | succ k1 =>
      have H := HA.out
      clear HA
      simp only [spec_find.l0] at H
      by_cases c4 : (wrap64 (x1_1 + (a2.size : Int))) ≤ (a0.size : Int)
      · rw [if_pos c4] at H
        have c4b0 : decide ((wrap64 (x1_1 + (a2.size : Int))) ≤ (a0.size : Int)) = true := decide_eq_true c4
        clear c4
        by_cases c5 : 0 ≤ x1_1
        · rw [if_pos c5] at H
          have c5b0 := eq_true c5
          have c5b1 : decide (0 ≤ x1_1) = true := decide_eq_true c5
          clear c5
          by_cases c6 : x1_1 ≤ (wrap64 (x1_1 + (a2.size : Int)))
          · rw [if_pos c6] at H
            have c6b0 := eq_true c6
            have c6b1 : decide (x1_1 ≤ (wrap64 (x1_1 + (a2.size : Int)))) = true := decide_eq_true c6
            have c7b0 := eq_true (of_decide_eq_true (by first | (with_reducible assumption) | assumption) : (wrap64 (x1_1 + (a2.size : Int))) ≤ (a0.size : Int))
            by_cases c8 : (a0.extract (x1_1 : Int).toNat ((wrap64 (x1_1 + (a2.size : Int))) : Int).toNat).toList = a2.toList
            · rw [if_pos c8] at H
              have c8b0 : ((a0.extract (x1_1 : Int).toNat ((wrap64 (x1_1 + (a2.size : Int))) : Int).toNat).toList == a2.toList) = true := beq_iff_eq.mpr c8
              have c8b1 : ((a0.extract (x1_1 : Int).toNat ((wrap64 (x1_1 + (a2.size : Int))) : Int).toNat).toList != a2.toList) = false := bne_eq_false_iff_eq.mpr c8
              clear c8
              obtain rfl := Option.some.inj H
              go_wp2
              go_ret
              exact ⟨by first | rfl | (simp; done) | (simp [*]; done), by repeat (first | exact Drawn0.refl _ | apply Drawn0.step)⟩
            · rw [if_neg c8] at H
              have c8b0 : ((a0.extract (x1_1 : Int).toNat ((wrap64 (x1_1 + (a2.size : Int))) : Int).toNat).toList == a2.toList) = false := beq_eq_false_iff_ne.mpr c8
              have c8b1 : ((a0.extract (x1_1 : Int).toNat ((wrap64 (x1_1 + (a2.size : Int))) : Int).toNat).toList != a2.toList) = true := bne_iff_ne.mpr c8
              have H' := Aside0.mk H
              clear H
              go_wp2
              go_roundg k1
              case measure => have := HK1.out; omega
              case rel => exact ⟨(wrap64 (x1_1 + 1)), (by first | rfl | (simp; done) | (simp [*]; done)), H', ⟨by have := HK1.out; omega⟩, by repeat (first | exact Drawn0.refl _ | apply Drawn0.step)⟩
          · rw [if_neg c6] at H
            exact absurd H (by simp)
        · rw [if_neg c5] at H
          exact absurd H (by simp)
      · rw [if_neg c4] at H
        have c4b0 : decide ((wrap64 (x1_1 + (a2.size : Int))) ≤ (a0.size : Int)) = false := decide_eq_false c4
        clear c4
        obtain rfl := Option.some.inj H
        go_wp2
        go_ret
        exact ⟨by first | rfl | (simp; done) | (simp [*]; done), by repeat (first | exact Drawn0.refl _ | apply Drawn0.step)⟩

end Go.Proofs.Ytfcefkenpndblaa.DirF
