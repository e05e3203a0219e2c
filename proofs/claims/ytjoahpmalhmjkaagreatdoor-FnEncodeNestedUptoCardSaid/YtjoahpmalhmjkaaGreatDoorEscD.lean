/- What is proved here: plain facts on UTF-8 read strictly (D), on texts of characters, and that escaping a text of characters with another one behind it is escaping both; no condition but those named. -/
import Derived.Test.YtjoahpmalhmjkaaGreatDoorEscPure
namespace Go.Proofs.YtjoahpmalhmjkaaGreatDoor.EscPure
set_option linter.unusedVariables false

/-- The first character of n bytes that begin b0 b1 b2 b3, and its length; (0, 0): there is none. -/
def D (n b0 b1 b2 b3 : Nat) : Nat × Nat :=
  if n = 0 then (0, 0)
  else if b0 < 128 then (b0, 1)
  else if 194 ≤ b0 ∧ b0 < 224 then (if 2 ≤ n ∧ b1 / 64 = 2 then (b0 % 32 * 64 + b1 % 64, 2) else (0, 0))
  else if 224 ≤ b0 ∧ b0 < 240 then
    (if (3 ≤ n ∧ b1 / 64 = 2 ∧ b2 / 64 = 2) ∧ 2048 ≤ (b0 % 16 * 64 + b1 % 64) * 64 + b2 % 64 ∧ ((b0 % 16 * 64 + b1 % 64) * 64 + b2 % 64 < 55296 ∨ 57344 ≤ (b0 % 16 * 64 + b1 % 64) * 64 + b2 % 64)
     then ((b0 % 16 * 64 + b1 % 64) * 64 + b2 % 64, 3) else (0, 0))
  else if 240 ≤ b0 ∧ b0 < 245 then
    (if (4 ≤ n ∧ b1 / 64 = 2 ∧ b2 / 64 = 2 ∧ b3 / 64 = 2) ∧ 65536 ≤ ((b0 % 8 * 64 + b1 % 64) * 64 + b2 % 64) * 64 + b3 % 64 ∧ ((b0 % 8 * 64 + b1 % 64) * 64 + b2 % 64) * 64 + b3 % 64 ≤ 1114111
     then (((b0 % 8 * 64 + b1 % 64) * 64 + b2 % 64) * 64 + b3 % 64, 4) else (0, 0))
  else (0, 0)

set_option maxHeartbeats 4000000 in
/-- Go's decoder is the strict one, with U+FFFD and one byte where there is no character. -/
theorem decodeN_D (n b0 b1 b2 b3 : Nat) (hn : 0 < n) (h0 : b0 < 256) (h1 : b1 < 256) (h2 : b2 < 256) (h3 : b3 < 256) :
    Lib.decodeN n b0 b1 b2 b3 = if (D n b0 b1 b2 b3).2 = 0 then (65533, 1) else D n b0 b1 b2 b3 := by
  unfold D
  rw [if_neg (by omega : ¬ n = 0)]
  by_cases c0 : b0 < 128
  · unfold Lib.decodeN
    rw [if_pos c0, if_pos c0]
    simp
  rw [if_neg c0]
  by_cases c1 : 194 ≤ b0 ∧ b0 < 224
  · rw [if_pos c1]
    by_cases d1 : 2 ≤ n ∧ b1 / 64 = 2
    · rw [if_pos d1]
      unfold Lib.decodeN
      rw [if_neg c0, if_pos (by omega), if_pos (by omega)]
      simp
    · rw [if_neg d1]
      unfold Lib.decodeN
      rw [if_neg c0, if_neg (by omega), if_neg (by omega), if_neg (by omega)]
      simp
  rw [if_neg c1]
  by_cases c2 : 224 ≤ b0 ∧ b0 < 240
  · rw [if_pos c2]
    have e : (b0 % 16 * 64 + b1 % 64) * 64 + b2 % 64 = b0 % 16 * 4096 + b1 % 64 * 64 + b2 % 64 := by omega
    rw [e]
    by_cases dd : (3 ≤ n ∧ b1 / 64 = 2 ∧ b2 / 64 = 2) ∧ 2048 ≤ b0 % 16 * 4096 + b1 % 64 * 64 + b2 % 64 ∧ (b0 % 16 * 4096 + b1 % 64 * 64 + b2 % 64 < 55296 ∨ 57344 ≤ b0 % 16 * 4096 + b1 % 64 * 64 + b2 % 64)
    · rw [if_pos dd]
      unfold Lib.decodeN
      rw [if_neg c0, if_neg (by omega), if_pos (by omega), if_pos (by omega)]
      simp
    · rw [if_neg dd]
      unfold Lib.decodeN
      rw [if_neg c0, if_neg (by omega)]
      by_cases d1 : 3 ≤ n ∧ b1 / 64 = 2 ∧ b2 / 64 = 2
      · rw [if_pos (by omega), if_neg (by omega)]
        simp
      · rw [if_neg (by omega), if_neg (by omega)]
        simp
  rw [if_neg c2]
  by_cases c3 : 240 ≤ b0 ∧ b0 < 245
  · rw [if_pos c3]
    have e : ((b0 % 8 * 64 + b1 % 64) * 64 + b2 % 64) * 64 + b3 % 64 = b0 % 8 * 262144 + b1 % 64 * 4096 + b2 % 64 * 64 + b3 % 64 := by omega
    rw [e]
    by_cases dd : (4 ≤ n ∧ b1 / 64 = 2 ∧ b2 / 64 = 2 ∧ b3 / 64 = 2) ∧ 65536 ≤ b0 % 8 * 262144 + b1 % 64 * 4096 + b2 % 64 * 64 + b3 % 64 ∧ b0 % 8 * 262144 + b1 % 64 * 4096 + b2 % 64 * 64 + b3 % 64 ≤ 1114111
    · rw [if_pos dd]
      unfold Lib.decodeN
      rw [if_neg c0, if_neg (by omega), if_neg (by omega), if_pos (by omega), if_pos (by omega)]
      simp
    · rw [if_neg dd]
      unfold Lib.decodeN
      rw [if_neg c0, if_neg (by omega), if_neg (by omega)]
      by_cases d1 : 4 ≤ n ∧ b1 / 64 = 2 ∧ b2 / 64 = 2 ∧ b3 / 64 = 2
      · rw [if_pos (by omega), if_neg (by omega)]
        simp
      · rw [if_neg (by omega)]
        simp
  · rw [if_neg c3]
    unfold Lib.decodeN
    rw [if_neg c0]
    by_cases e1 : b0 / 32 = 6 ∧ (1 < n ∧ b1 / 64 = 2)
    · rw [if_pos e1, if_neg (by omega)]
      simp
    · rw [if_neg e1, if_neg (by omega)]
      by_cases e2 : b0 / 8 = 30 ∧ (1 < n ∧ b1 / 64 = 2) ∧ (2 < n ∧ b2 / 64 = 2) ∧ (3 < n ∧ b3 / 64 = 2)
      · rw [if_pos e2, if_neg (by omega)]
        simp
      · rw [if_neg e2]
        simp

/-- The strict decoder at a place. -/
def dec (s : ByteArray) (i : Nat) : Nat × Nat := D (s.size - i) (s.get! i).toNat (s.get! (i + 1)).toNat (s.get! (i + 2)).toNat (s.get! (i + 3)).toNat

theorem decode_dec (s : ByteArray) (i : Nat) (hi : i < s.size) : Utf8.decode s i = if (dec s i).2 = 0 then (65533, 1) else dec s i := by
  rw [Lib.decode_at]
  exact decodeN_D _ _ _ _ _ (by omega) (byte_lt s _) (byte_lt s _) (byte_lt s _) (byte_lt s _)

set_option maxHeartbeats 4000000 in
/-- What more stands behind a character, and what stood there, is nothing to it. -/
theorem D_local (n n' b0 b1 b2 b3 c1 c2 c3 : Nat) (h : (D n b0 b1 b2 b3).2 ≠ 0) (hn : n ≤ n') (h1 : 1 < n → c1 = b1) (h2 : 2 < n → c2 = b2) (h3 : 3 < n → c3 = b3) : D n' b0 c1 c2 c3 = D n b0 b1 b2 b3 := by
  unfold D at h ⊢
  by_cases c0 : n = 0
  · rw [if_pos c0] at h
    exact absurd rfl h
  rw [if_neg c0] at h ⊢
  rw [if_neg (by omega : ¬ n' = 0)]
  by_cases a0 : b0 < 128
  · rw [if_pos a0, if_pos a0]
  rw [if_neg a0] at h ⊢
  rw [if_neg a0]
  by_cases a1 : 194 ≤ b0 ∧ b0 < 224
  · rw [if_pos a1] at h ⊢
    rw [if_pos a1]
    by_cases d : 2 ≤ n ∧ b1 / 64 = 2
    · obtain rfl := h1 (by omega)
      rw [if_pos d, if_pos (by omega)]
    · rw [if_neg d] at h
      exact absurd rfl h
  rw [if_neg a1] at h ⊢
  rw [if_neg a1]
  by_cases a2 : 224 ≤ b0 ∧ b0 < 240
  · rw [if_pos a2] at h ⊢
    rw [if_pos a2]
    split at h
    · rename_i d
      obtain rfl := h1 (by omega)
      obtain rfl := h2 (by omega)
      rw [if_pos d, if_pos (by omega)]
    · exact absurd rfl h
  rw [if_neg a2] at h ⊢
  rw [if_neg a2]
  by_cases a3 : 240 ≤ b0 ∧ b0 < 245
  · rw [if_pos a3] at h ⊢
    rw [if_pos a3]
    split at h
    · rename_i d
      obtain rfl := h1 (by omega)
      obtain rfl := h2 (by omega)
      obtain rfl := h3 (by omega)
      rw [if_pos d, if_pos (by omega)]
    · exact absurd rfl h
  · rw [if_neg a3] at h
    exact absurd rfl h

theorem D_width (n b0 b1 b2 b3 : Nat) : (D n b0 b1 b2 b3).2 ≤ n ∧ (D n b0 b1 b2 b3).2 ≤ 4 := by
  unfold D
  repeat' split
  all_goals simp only
  all_goals omega

theorem dec_width (s : ByteArray) (i : Nat) : (dec s i).2 ≤ s.size - i ∧ (dec s i).2 ≤ 4 := D_width _ _ _ _ _

/-! ### Texts of characters -/
/-- From a place on a text is of characters alone. -/
def chars (s : ByteArray) : Nat → Nat → Bool
  | 0, _ => true
  | f + 1, i => if i < s.size then (if (dec s i).2 = 0 then false else isChar (dec s i).1 && chars s f (i + (dec s i).2)) else true

theorem get_append_left (s t : ByteArray) (i : Nat) (h : i < s.size) : (s ++ t).get! i = s.get! i := by
  rw [← Lib.getD_get!', ← Lib.getD_get!', ByteArray.data_append, Array.toList_append, List.getD_eq_getElem?_getD, List.getD_eq_getElem?_getD, List.getElem?_append_left (by rw [← Lib.size_eq]; exact h)]

theorem get_append_right (s t : ByteArray) (i : Nat) : (s ++ t).get! (s.size + i) = t.get! i := by
  rw [← Lib.getD_get!', ← Lib.getD_get!', ByteArray.data_append, Array.toList_append, List.getD_eq_getElem?_getD, List.getD_eq_getElem?_getD, List.getElem?_append_right (by rw [← Lib.size_eq]; omega), ← Lib.size_eq, Nat.add_sub_cancel_left]

theorem dec_append (s t : ByteArray) (i : Nat) (hi : i < s.size) (h : (dec s i).2 ≠ 0) : dec (s ++ t) i = dec s i := by
  unfold dec at h ⊢
  rw [get_append_left s t i hi]
  refine D_local _ _ _ _ _ _ _ _ _ h (by rw [ByteArray.size_append]; omega) (fun _ => ?_) (fun _ => ?_) (fun _ => ?_)
  all_goals rw [get_append_left s t _ (by omega)]

theorem decode_append (s t : ByteArray) (i : Nat) (hi : i < s.size) (h : (dec s i).2 ≠ 0) : Utf8.decode (s ++ t) i = Utf8.decode s i := by
  rw [decode_dec _ _ (by rw [ByteArray.size_append]; omega), decode_dec _ _ hi, dec_append s t i hi h]

theorem decode_behind (s t : ByteArray) (i : Nat) : Utf8.decode (s ++ t) (s.size + i) = Utf8.decode t i := by
  rw [Lib.decode_at, Lib.decode_at, ByteArray.size_append, show s.size + t.size - (s.size + i) = t.size - i by omega, Nat.add_assoc, Nat.add_assoc, Nat.add_assoc, get_append_right, get_append_right, get_append_right, get_append_right]

theorem data_append (s t : ByteArray) : (s ++ t).data.toList = s.data.toList ++ t.data.toList := by
  rw [ByteArray.data_append, Array.toList_append]

theorem piece_append (s t : ByteArray) (i : Nat) (hi : i < s.size) (h : (dec s i).2 ≠ 0) : piece (s ++ t) i = piece s i ∧ width (s ++ t) i = width s i := by
  have e := decode_append s t i hi h
  have hw := width_pos s i hi
  have e2 : width (s ++ t) i = width s i := by unfold width; rw [e]
  have e1 : rune (s ++ t) i = rune s i := by unfold rune; rw [e]
  refine ⟨?_, e2⟩
  unfold piece
  rw [e1, e2, data_append, List.drop_append_of_le_length (by rw [← Lib.size_eq]; omega), List.take_append_of_le_length (by rw [List.length_drop, ← Lib.size_eq]; omega)]

theorem piece_behind (s t : ByteArray) (i : Nat) : piece (s ++ t) (s.size + i) = piece t i ∧ width (s ++ t) (s.size + i) = width t i := by
  have e := decode_behind s t i
  have e2 : width (s ++ t) (s.size + i) = width t i := by unfold width; rw [e]
  have e1 : rune (s ++ t) (s.size + i) = rune t i := by unfold rune; rw [e]
  refine ⟨?_, e2⟩
  unfold piece
  rw [e1, e2, data_append, Lib.size_eq s, List.drop_append, List.drop_eq_nil_of_le (by omega), Nat.add_sub_cancel_left]
  rfl

theorem escFrom_behind (s t : ByteArray) : ∀ f i, escFrom (s ++ t) f (s.size + i) = escFrom t f i
  | 0, _ => rfl
  | f + 1, i => by
    obtain ⟨e1, e2⟩ := piece_behind s t i
    unfold escFrom
    rw [ByteArray.size_append]
    by_cases h : i < t.size
    · rw [if_pos (by omega), if_pos h, e1, e2, Nat.add_assoc, escFrom_behind s t f]
    · rw [if_neg (by omega), if_neg h]

theorem escFrom_fuel (s : ByteArray) : ∀ f g i, s.size - i ≤ f → s.size - i ≤ g → escFrom s f i = escFrom s g i
  | 0, g, i, h, _ => by rw [escFrom_end s g i (by omega)]; rfl
  | f + 1, 0, i, _, h => by rw [escFrom_end s (f + 1) i (by omega)]; rfl
  | f + 1, g + 1, i, h1, h2 => by
    unfold escFrom
    by_cases h : i < s.size
    · have := width_pos s i h
      rw [if_pos h, if_pos h, escFrom_fuel s f g _ (by omega) (by omega)]
    · rw [if_neg h, if_neg h]

theorem width_dec (s : ByteArray) (i : Nat) (hi : i < s.size) (h : (dec s i).2 ≠ 0) : width s i = (dec s i).2 := by
  unfold width
  rw [decode_dec s i hi, if_neg h]

theorem esc_append_from (s t : ByteArray) : ∀ f i g, s.size - i ≤ f → i ≤ s.size → chars s f i = true → s.size + t.size - i ≤ g → escFrom (s ++ t) g i = escFrom s f i ++ esc t
  | 0, i, g, h1, h2, _, h4 => by
    obtain rfl : i = s.size := by omega
    have := escFrom_behind s t g 0
    rw [Nat.add_zero] at this
    rw [this]
    exact escFrom_fuel t g t.size 0 (by omega) (by omega)
  | f + 1, i, g, h1, h2, h3, h4 => by
    by_cases hi : i < s.size
    · unfold chars at h3
      rw [if_pos hi] at h3
      by_cases hd : (dec s i).2 = 0
      · rw [if_pos hd] at h3
        cases h3
      · rw [if_neg hd, Bool.and_eq_true] at h3
        obtain ⟨e1, e2⟩ := piece_append s t i hi hd
        have hw := width_pos s i hi
        have hwd := width_dec s i hi hd
        obtain ⟨g, rfl⟩ : ∃ m, g = m + 1 := ⟨g - 1, by omega⟩
        unfold escFrom
        rw [if_pos (by rw [ByteArray.size_append]; omega), if_pos hi, e1, e2, List.append_assoc]
        rw [esc_append_from s t f (i + width s i) g (by omega) (by omega) (by rw [hwd]; exact h3.2) (by omega)]
    · obtain rfl : i = s.size := by omega
      have := escFrom_behind s t g 0
      rw [Nat.add_zero] at this
      rw [this, escFrom_end s (f + 1) s.size (Nat.le_refl _)]
      exact escFrom_fuel t g t.size 0 (by omega) (by omega)

/-- A text of characters and another one behind it: escaped together, and each by itself. -/
theorem esc_append (s t : ByteArray) (h : chars s s.size 0 = true) : esc (s ++ t) = esc s ++ esc t := by
  unfold esc
  exact esc_append_from s t s.size 0 (s ++ t).size (by omega) (Nat.zero_le _) h (by rw [ByteArray.size_append]; omega)

end Go.Proofs.YtjoahpmalhmjkaaGreatDoor.EscPure
