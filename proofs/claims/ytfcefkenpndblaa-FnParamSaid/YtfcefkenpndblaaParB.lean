/- What is proved here: the call of the package's search for a pseudo-attribute, in the cases in which the name is not there and in which it is; conditions: a name of at most 1000 bytes, a text of at most 10^12. -/
import Derived.Test.YtfcefkenpndblaaPFnParamx
import Derived.RegionTactic
import Derived.Test.YtfcefkenpndblaaParShelf
namespace Go.Proofs.Ytfcefkenpndblaa.ParB
open Go.RowKit Go.Proofs.YtfcefkenpndblaaW.PrintWords Go.Proofs.YtfcefkenpndblaaW.PrintLast Go.Proofs.YtfcefkenpndblaaW.PrintMore Go.Proofs.Ytfcefkenpndblaa.PFnParam
set_option linter.unusedVariables false
set_option linter.unusedSimpArgs false

set_option maxHeartbeats 1600000 in
theorem proc_zero (p : ByteArray) (s : ByteArray) (w : World) (hp : p.size ≤ 1000) (hs : s.size ≤ 0) :
    Calls Try.prog 25 #[.string p, .string s] w fun e w' => e = .returned (.string ⟨#[]⟩) ∧ Drawn0 w w' := by
  have hb : decide ((0 : Int) < (s.size : Int)) = false := decide_eq_false (by omega)
  have hb1 : decide (0 < s.size) = false := decide_eq_false (by omega)
  go_enter Try.func25, Try.ntmps25
  go_wp2_with fail
  go_loopw [6, 7] (fun v6 v7 W => v6 = .int .i64 0 ∧ v7 = .int .u8 0 ∧ Aside0 (Drawn0 w W)) (fun _ _ _ => 0)
  case atStart => exact ⟨rfl, rfl, ⟨Drawn0.refl _⟩⟩
  case round =>
    obtain ⟨rfl, rfl, HD⟩ := hrel
    go_wp2_with fail
    go_ret
    exact ⟨rfl, HD.out⟩

set_option maxHeartbeats 1600000 in
theorem proc_none (k : Nat) (p : ByteArray) (s : ByteArray) (w : World) (hp : p.size ≤ 1000) (hs : 0 < s.size) (hs1 : s.size ≤ 1000000000000) (h : xml_zzIndex.f k s (p ++ ⟨#[61]⟩) = some (-1)) :
    Calls Try.prog 25 #[.string p, .string s] w fun e w' => e = .returned (.string ⟨#[]⟩) ∧ Drawn0 w w' := by
  have HF := Aside0.mk h
  clear h
  go_enter Try.func25, Try.ntmps25
  go_wp2_with fail
  go_loopw [6, 7] (fun v6 v7 W => v6 = .int .i64 0 ∧ v7 = .int .u8 0 ∧ Aside0 (Drawn0 w W)) (fun _ _ _ => 0)
  case atStart => exact ⟨rfl, rfl, ⟨Drawn0.refl _⟩⟩
  case round =>
    obtain ⟨rfl, rfl, HD⟩ := hrel
    go_wp2_with fail
    refine (xml_zzIndex.calls k s (p ++ ⟨#[61]⟩) (-1) _ HF.out).mono ?_
    rintro e w1 ⟨rfl, hd⟩
    have HD1 := Aside0.mk (show Drawn0 w w1 by
      obtain ⟨a, rfl⟩ := HD.out
      obtain ⟨b, rfl⟩ := hd
      exact ⟨⟨a + b, by simp⟩⟩)
    clear hd HD
    go_wp2_with fail
    go_ret
    exact ⟨rfl, HD1.out⟩

theorem slice_is (s : ByteArray) (a b : Nat) (h1 : a ≤ b) (h2 : b ≤ s.size) (W : World) :
    (Instr.slice 9 (.string s) (some (.int .i64 (a : Int))) (some (.int .i64 (b : Int))) none).run Try.prog W = .ok (.string (s.extract a b)) W := by
  rw [run_slice_string W 9 s .i64 .i64 (a : Int) (b : Int) Try.underlying9 (by omega) (by omega) (by omega), Int.toNat_natCast, Int.toNat_natCast]

theorem index_is (s : ByteArray) (c : Int) (j : Int) (w : World) (h : Lib.indexByte s.data.toList c.toNat.toUInt8 = j) :
    Calls Try.prog 27 #[.string s, .int .u8 c] w fun e w' => e = .returned (.int .i64 j) ∧ w' = w :=
  (ParShelf.strings_IndexByte s c w).mono fun e w' ⟨h1, h2⟩ => ⟨by rw [h1, h], h2⟩

set_option maxHeartbeats 1600000 in
theorem proc_found34 (k : Nat) (p : ByteArray) (s : ByteArray) (m j : Nat) (w : World) (hp : p.size ≤ 1000) (hs1 : s.size ≤ 1000000000000) (h : xml_zzIndex.f k s (p ++ ⟨#[61]⟩) = some (m : Int))
    (hm : p.size + 1 + m < s.size) (hq : bt s ((p.size + 1 + m : Nat) : Int) = 34) (hj : Lib.indexByte (s.extract (p.size + 1 + m + 1) s.size).data.toList 34 = (j : Int)) (hjl : p.size + 1 + m + 1 + j ≤ s.size) :
    Calls Try.prog 25 #[.string p, .string s] w fun e w' => e = .returned (.string (s.extract (p.size + 1 + m + 1) (p.size + 1 + m + 1 + j))) ∧ Drawn0 w w' := by
  have HF := Aside0.mk h
  have HJ := Aside0.mk hj
  have hx := bt_at s ((p.size + 1 + m : Nat) : Int)
  rw [Int.toNat_natCast, hq] at hx
  clear h hj hq
  have hsl := slice_is s (p.size + 1 + m + 1) (p.size + 1 + m + 1 + j) (by omega) hjl
  simp only [Int.natCast_add, Int.cast_ofNat_Int] at hsl
  go_enter Try.func25, Try.ntmps25
  go_wp2_with fail
  go_loopw [6, 7] (fun v6 v7 W => v6 = .int .i64 0 ∧ v7 = .int .u8 0 ∧ Aside0 (Drawn0 w W)) (fun _ _ _ => 0)
  case atStart => exact ⟨rfl, rfl, ⟨Drawn0.refl _⟩⟩
  case round =>
    obtain ⟨rfl, rfl, HD⟩ := hrel
    go_wp2_with fail
    with_reducible refine (xml_zzIndex.calls k s (p ++ (⟨#[61]⟩ : ByteArray)) (m : Int) wr HF.out).mono ?_
    rintro e w1 ⟨rfl, hd⟩
    have HD1 := Aside0.mk (show Drawn0 w w1 by
      obtain ⟨a, rfl⟩ := HD.out
      obtain ⟨b, rfl⟩ := hd
      exact ⟨⟨a + b, by simp⟩⟩)
    clear hd HD
    go_wp2_with fail
    with_reducible refine (index_is _ 34 (j : Int) w1 HJ.out).mono ?_
    rintro e w2 ⟨rfl, rfl⟩
    go_wp2_with fail
    go_ret
    exact ⟨rfl, HD1.out⟩

set_option maxHeartbeats 1600000 in
theorem proc_found39 (k : Nat) (p : ByteArray) (s : ByteArray) (m j : Nat) (w : World) (hp : p.size ≤ 1000) (hs1 : s.size ≤ 1000000000000) (h : xml_zzIndex.f k s (p ++ ⟨#[61]⟩) = some (m : Int))
    (hm : p.size + 1 + m < s.size) (hq : bt s ((p.size + 1 + m : Nat) : Int) = 39) (hj : Lib.indexByte (s.extract (p.size + 1 + m + 1) s.size).data.toList 39 = (j : Int)) (hjl : p.size + 1 + m + 1 + j ≤ s.size) :
    Calls Try.prog 25 #[.string p, .string s] w fun e w' => e = .returned (.string (s.extract (p.size + 1 + m + 1) (p.size + 1 + m + 1 + j))) ∧ Drawn0 w w' := by
  have HF := Aside0.mk h
  have HJ := Aside0.mk hj
  have hx := bt_at s ((p.size + 1 + m : Nat) : Int)
  rw [Int.toNat_natCast, hq] at hx
  clear h hj hq
  have hsl := slice_is s (p.size + 1 + m + 1) (p.size + 1 + m + 1 + j) (by omega) hjl
  simp only [Int.natCast_add, Int.cast_ofNat_Int] at hsl
  go_enter Try.func25, Try.ntmps25
  go_wp2_with fail
  go_loopw [6, 7] (fun v6 v7 W => v6 = .int .i64 0 ∧ v7 = .int .u8 0 ∧ Aside0 (Drawn0 w W)) (fun _ _ _ => 0)
  case atStart => exact ⟨rfl, rfl, ⟨Drawn0.refl _⟩⟩
  case round =>
    obtain ⟨rfl, rfl, HD⟩ := hrel
    go_wp2_with fail
    with_reducible refine (xml_zzIndex.calls k s (p ++ (⟨#[61]⟩ : ByteArray)) (m : Int) wr HF.out).mono ?_
    rintro e w1 ⟨rfl, hd⟩
    have HD1 := Aside0.mk (show Drawn0 w w1 by
      obtain ⟨a, rfl⟩ := HD.out
      obtain ⟨b, rfl⟩ := hd
      exact ⟨⟨a + b, by simp⟩⟩)
    clear hd HD
    go_wp2_with fail
    with_reducible refine (index_is _ 39 (j : Int) w1 HJ.out).mono ?_
    rintro e w2 ⟨rfl, rfl⟩
    go_wp2_with fail
    go_ret
    exact ⟨rfl, HD1.out⟩


theorem zz_any (p s r : ByteArray) (w : World) (h : Calls Try.prog 25 #[.string p, .string s] w fun e w' => e = .returned (.string r) ∧ Drawn0 w w') :
    Calls Try.prog 21 #[.string p, .string s] w fun e w' => e = .returned (.string r) ∧ Drawn0 w w' := by
  have HF := Aside0.mk h
  clear h
  go_enter Try.func21, Try.ntmps21
  go_wp2_with fail
  refine HF.out.mono ?_
  rintro e w' ⟨rfl, hd⟩
  go_wp2_with fail
  go_ret
  exact ⟨rfl, hd⟩

theorem impl_any (p s r : ByteArray) (w : World) (h : Calls Try.prog 25 #[.string p, .string s] w fun e w' => e = .returned (.string r) ∧ Drawn0 w w') :
    Calls Try.prog 13 #[.string p, .string s] w fun e w' => e = .returned (.string r) ∧ Drawn0 w w' := by
  have HF := Aside0.mk (zz_any p s r w h)
  clear h
  go_enter Try.func13, Try.ntmps13
  go_wp2_with fail
  refine HF.out.mono ?_
  rintro e w' ⟨rfl, hd⟩
  go_wp2_with fail
  go_ret
  exact ⟨rfl, hd⟩

end Go.Proofs.Ytfcefkenpndblaa.ParB
