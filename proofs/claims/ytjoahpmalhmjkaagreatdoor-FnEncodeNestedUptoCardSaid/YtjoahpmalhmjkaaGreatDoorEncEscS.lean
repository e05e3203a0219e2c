/- What is proved here: the printer's EscapeString writes no more than six bytes a byte, and keeps the encoder's state; conditions: those that each theorem names. -/
import Derived.Test.YtjoahpmalhmjkaaGreatDoorEncSA
import Derived.Test.YtjoahpmalhmjkaaGreatDoorEncShelf
import Derived.Test.YtjoahpmalhmjkaaGreatDoorEscPure
import Derived.Test.YtjoahpmalhmjkaaGreatDoorEncX6
namespace Go.Proofs.YtjoahpmalhmjkaaGreatDoor.EncSt
open Go.RowKit Go.Proofs.YtjoahpmalhmjkaaGreatDoorW.PrintWords Go.Proofs.YtjoahpmalhmjkaaGreatDoorW.PrintLast Go.Proofs.YtjoahpmalhmjkaaGreatDoorW.PrintMore Go.Lib
open Go.Proofs.YtjoahpmalhmjkaaGreatDoor.EscPure Go.Proofs.YtjoahpmalhmjkaaGreatDoor.PFnEncodeNested
set_option linter.unusedVariables false
set_option linter.unusedSimpArgs false

theorem inRange_is (r : Nat) (W : World) (hr : r ≤ 1114111) : Calls Tryz.prog 62 #[.int .i32 (r : Int)] W fun e w' => e = .returned (.bool (isChar r)) ∧ Drawn0 W w' := by
  refine xml_isInCharacterRange.calls (r : Int) (isChar r) W ?_
  unfold xml_isInCharacterRange.f isChar
  have hd : decide ((r : Int) ≤ 1114111) = true := decide_eq_true (by omega)
  have e1 : ∀ a b : Nat, (a == b) = decide (a = b) := fun a b => by rw [Bool.eq_iff_iff]; simp
  simp only [hd, e1]
  repeat' split
  all_goals
    congr 1
    simp
    omega

theorem rune_call (s : ByteArray) (i : Nat) (W : World) (hT : Lib.Utf8Tabs 3 4 W) (hi : i < s.size) :
    Calls Tryz.prog 66 #[.string (s.extract i s.size)] W fun e W' => e = .returned (.tuple #[.int .i32 (rune s i : Nat), .int .i64 (width s i : Nat)]) ∧ Below W.heap.size W W' := by
  have hsz : (s.extract i s.size).size = s.size - i := Lib.tail_size s i
  have hd : Lib.decodeGo (s.extract i s.size) = Utf8.decode s i := by
    unfold Lib.decodeGo
    rw [if_neg (by omega), Lib.tail_decode]
    rfl
  have := EncShelf.utf8_DecodeRuneInString (s.extract i s.size) W hT
  rw [hd] at this
  exact this

section
variable {K : Nat → Prop} {w0 W W' : World} {q b p g T : Nat} {tags : List ByteArray} {np : Nat} {cl : Bool}

set_option maxHeartbeats 40000000 in
set_option maxRecDepth 100000 in
theorem escs_any (h : SA K w0 q b p g T tags np false W) (G : Glob K w0) (s : ByteArray) (hl : T + 6 * s.size ≤ 70368744177664) :
    Calls Tryz.prog 58 #[.pointer (some ⟨g, 0, none⟩), .string s] W fun e W' => e = .returned (.tuple #[]) ∧ SA K w0 q b p g (T + 6 * s.size) tags np false W' := by
  have H := Aside0.mk h
  have HG := Aside0.mk G
  clear h G
  go_enter Tryz.func58, Tryz.ntmps58
  go_wp2_with fail
  go_loopw [4, 5, 6] (fun v4 v5 v6 W1 => ∃ (i last : Nat) (es : ByteArray), v6 = .int .i64 i ∧ v5 = .int .i64 last ∧ v4 = .string es ∧ Aside0 (last ≤ i ∧ i ≤ s.size) ∧ Aside0 (SA K w0 q b p g (T + 5 * i + last) tags np false W1)) (fun _ _ v6 _ => s.size - (intOf v6).toNat)
  case atStart => exact ⟨0, 0, _, rfl, rfl, rfl, ⟨Nat.le_refl _, Nat.zero_le _⟩, H⟩
  case round =>
    obtain ⟨i, last, es, rfl, rfl, rfl, HI, HW⟩ := hrel
    have hli := HI.out.1
    have his := HI.out.2
    by_cases hi : i < s.size
    · go_wp2_with fail
      refine (rune_call s i _ (HG.out.tabs_at HW.out.ks) hi).mono ?_
      rintro e w1 ⟨rfl, hb⟩
      have HW1 := Aside0.mk (HW.out.below hb)
      clear hb HW
      have HW := HW1
      clear HW1
      have hwd := width_pos s i hi
      have hrl := EscPure.rune_le s i
      generalize rune s i = r at hrl ⊢
      generalize width s i = n at hwd ⊢
      have hsum : ((i : Int) + (n : Int) - (n : Int)) = (i : Int) := by omega
      have hsz : (s.extract last i).size = i - last := by rw [ByteArray.size_extract]; omega
      go_wp2_with (go_at_call 62; with_reducible refine (inRange_is r _ hrl).mono ?_; rintro e w4 ⟨rfl, hd⟩; have HW2 := Aside0.mk (HW.out.drawn hd); clear hd)
      all_goals first
        | (with_reducible refine (sa_string HW2.out (s.extract last i) (by omega)).mono ?_)
        | (with_reducible refine (sa_string HW.out (s.extract last i) (by omega)).mono ?_)
        | skip
      all_goals first
        | (rintro e w5 ⟨_, rfl, hw5⟩
           have HW5 := Aside0.mk hw5
           clear hw5
           go_wp2_with fail
           with_reducible refine (sa_string HW5.out _ ?_).mono ?_
           · exact Nat.le_trans (Nat.add_le_add_left (show _ ≤ 5 by decide) _) (by omega)
           rintro e w6 ⟨_, rfl, hw6⟩
           have HW6 := Aside0.mk (hw6.mono (show _ ≤ T + 5 * (i + n) + (i + n) from Nat.le_trans (Nat.add_le_add_left (show _ ≤ 5 by decide) _) (by omega)))
           clear hw6
           go_wp2_with fail
           go_roundw
           case rel =>
             go_light
             exact ⟨i + n, i + n, _, by go_num, by go_num, rfl, ⟨Nat.le_refl _, by omega⟩, HW6⟩
           case measure =>
             go_light
             simp [intOf]
             omega)
        | (have HW7 := Aside0.mk (HW2.out.mono (show _ ≤ T + 5 * (i + n) + last by omega))
           go_roundw
           case rel =>
             go_light
             exact ⟨i + n, last, _, by go_num, rfl, rfl, ⟨by omega, by omega⟩, HW7⟩
           case measure =>
             go_light
             simp [intOf]
             omega)
    · have hsz : (s.extract last s.size).size = s.size - last := by rw [ByteArray.size_extract]; omega
      go_wp2_with fail
      with_reducible refine (sa_string HW.out (s.extract last s.size) (by omega)).mono ?_
      rintro e w5 ⟨_, rfl, hw5⟩
      have HW5 := Aside0.mk (hw5.mono (show _ ≤ T + 6 * s.size by omega))
      clear hw5
      go_wp2_with fail
      go_end0
      exact ⟨rfl, HW5.out⟩

end
end Go.Proofs.YtjoahpmalhmjkaaGreatDoor.EncSt
