/- What is proved here: plain facts on how a text is escaped, rune by rune; no condition but those that each theorem names. -/
import Derived.Lib.DecodeN
import Derived.Lib.Strings
import Derived.Lib.RuneCountTail
namespace Go.Proofs.YtjoahpmalhmjkaaGreatDoor.EscPure
set_option linter.unusedVariables false

/-- A character of XML. -/
def isChar (r : Nat) : Bool := r == 9 || r == 10 || r == 13 || (decide (32 ≤ r) && decide (r ≤ 55295)) || (decide (57344 ≤ r) && decide (r ≤ 65533)) || (decide (65536 ≤ r) && decide (r ≤ 1114111))

/-- What stands for a rune of n bytes; none: the bytes themselves. -/
def escOf (r n : Nat) : Option (List UInt8) :=
  if r = 34 then some [38, 35, 51, 52, 59] else if r = 39 then some [38, 35, 51, 57, 59] else if r = 38 then some [38, 97, 109, 112, 59]
  else if r = 60 then some [38, 108, 116, 59] else if r = 62 then some [38, 103, 116, 59] else if r = 9 then some [38, 35, 120, 57, 59]
  else if r = 10 then some [38, 35, 120, 65, 59] else if r = 13 then some [38, 35, 120, 68, 59]
  else if isChar r = false ∨ (r = 65533 ∧ n = 1) then some [239, 191, 189] else none

def rune (s : ByteArray) (i : Nat) : Nat := (Utf8.decode s i).1
def width (s : ByteArray) (i : Nat) : Nat := (Utf8.decode s i).2
def piece (s : ByteArray) (i : Nat) : List UInt8 := (escOf (rune s i) (width s i)).getD ((s.data.toList.drop i).take (width s i))

def escFrom (s : ByteArray) : Nat → Nat → List UInt8
  | 0, _ => []
  | f + 1, i => if i < s.size then piece s i ++ escFrom s f (i + width s i) else []
def esc (s : ByteArray) : List UInt8 := escFrom s s.size 0

theorem decodeN_width (n b0 b1 b2 b3 : Nat) (hn : 0 < n) : 1 ≤ (Lib.decodeN n b0 b1 b2 b3).2 ∧ (Lib.decodeN n b0 b1 b2 b3).2 ≤ n ∧ (Lib.decodeN n b0 b1 b2 b3).2 ≤ 4 := by
  unfold Lib.decodeN
  repeat' split
  all_goals simp only
  all_goals omega

theorem width_pos (s : ByteArray) (i : Nat) (h : i < s.size) : 1 ≤ width s i ∧ i + width s i ≤ s.size ∧ width s i ≤ 4 := by
  unfold width
  rw [Lib.decode_at]
  have := decodeN_width (s.size - i) (s.get! i).toNat (s.get! (i + 1)).toNat (s.get! (i + 2)).toNat (s.get! (i + 3)).toNat (by omega)
  omega

theorem decodeN_rune (n b0 b1 b2 b3 : Nat) (h0 : b0 < 256) : (Lib.decodeN n b0 b1 b2 b3).1 ≤ 1114111 := by
  unfold Lib.decodeN
  repeat' split
  all_goals simp only
  all_goals omega

theorem byte_lt (s : ByteArray) (i : Nat) : (s.get! i).toNat < 256 := (s.get! i).toNat_lt

theorem rune_le (s : ByteArray) (i : Nat) : rune s i ≤ 1114111 := by
  unfold rune
  rw [Lib.decode_at]
  exact decodeN_rune _ _ _ _ _ (byte_lt s i)

theorem escOf_length (r n : Nat) (e : List UInt8) (h : escOf r n = some e) : e.length ≤ 5 := by
  unfold escOf at h
  repeat' split at h
  all_goals first | (injection h with h; subst h; decide) | cases h

theorem piece_length (s : ByteArray) (i : Nat) (h : i < s.size) : (piece s i).length ≤ 5 := by
  unfold piece
  cases he : escOf (rune s i) (width s i) with
  | none =>
    have := width_pos s i h
    simp only [Option.getD_none, List.length_take]
    omega
  | some e => exact escOf_length _ _ _ he

theorem escFrom_length (s : ByteArray) : ∀ f i, (escFrom s f i).length ≤ 5 * f
  | 0, _ => by simp [escFrom]
  | f + 1, i => by
    unfold escFrom
    split
    · rename_i h
      have h1 := escFrom_length s f (i + width s i)
      have h2 := piece_length s i h
      rw [List.length_append]
      omega
    · simp

theorem escFrom_end (s : ByteArray) (f i : Nat) (h : s.size ≤ i) : escFrom s f i = [] := by
  cases f with
  | zero => rfl
  | succ f => unfold escFrom; rw [if_neg (by omega)]

/-- Bytes from a to b. -/
def sub (s : ByteArray) (a b : Nat) : List UInt8 := (s.data.toList.drop a).take (b - a)

theorem sub_self (s : ByteArray) (a : Nat) : sub s a a = [] := by
  unfold sub
  rw [Nat.sub_self]
  rfl

theorem sub_more (s : ByteArray) (a b c : Nat) (h1 : a ≤ b) (h2 : b ≤ c) : sub s a c = sub s a b ++ sub s b c := by
  unfold sub
  rw [show c - a = (b - a) + (c - b) by omega, List.take_add, List.drop_drop, show a + (b - a) = b by omega]

theorem sub_length (s : ByteArray) (a b : Nat) (h1 : a ≤ b) (h2 : b ≤ s.size) : (sub s a b).length = b - a := by
  unfold sub
  rw [List.length_take, List.length_drop, ← Lib.size_eq]
  omega

/-- What the loop holds: what is written, what waits, what is to come. -/
def Mid (s : ByteArray) (L : List UInt8) (last i : Nat) : Prop := ∃ f, s.size - i ≤ f ∧ L ++ sub s last i ++ escFrom s f i = esc s

theorem Mid.start (s : ByteArray) : Mid s [] 0 0 := ⟨s.size, by omega, by rw [sub_self]; rfl⟩

theorem Mid.step {s : ByteArray} {L : List UInt8} {last i : Nat} (h : Mid s L last i) (hi : i < s.size) : ∃ f, s.size - (i + width s i) ≤ f ∧ L ++ sub s last i ++ (piece s i ++ escFrom s f (i + width s i)) = esc s := by
  obtain ⟨f, hf, h⟩ := h
  obtain ⟨f, rfl⟩ : ∃ m, f = m + 1 := ⟨f - 1, by omega⟩
  have hw := width_pos s i hi
  refine ⟨f, by omega, ?_⟩
  rw [← h, escFrom, if_pos hi]

theorem Mid.put {s : ByteArray} {L : List UInt8} {last i : Nat} (h : Mid s L last i) (hi : i < s.size) {e : List UInt8} (he : escOf (rune s i) (width s i) = some e) : Mid s (L ++ sub s last i ++ e) (i + width s i) (i + width s i) := by
  obtain ⟨f, hf, h⟩ := h.step hi
  refine ⟨f, hf, ?_⟩
  rw [← h, sub_self]
  unfold piece
  rw [he]
  simp

theorem Mid.pass {s : ByteArray} {L : List UInt8} {last i : Nat} (h : Mid s L last i) (hli : last ≤ i) (hi : i < s.size) (he : escOf (rune s i) (width s i) = none) : Mid s L last (i + width s i) := by
  obtain ⟨f, hf, h⟩ := h.step hi
  refine ⟨f, hf, ?_⟩
  rw [← h, sub_more s last i (i + width s i) hli (by omega)]
  unfold piece
  rw [he]
  unfold sub
  simp

theorem Mid.length {s : ByteArray} {L : List UInt8} {last i : Nat} (h : Mid s L last i) : L.length + (sub s last i).length ≤ 5 * s.size := by
  obtain ⟨f, hf, h⟩ := h
  have h1 := congrArg List.length h
  have h2 := escFrom_length s s.size 0
  unfold esc at h1
  rw [List.length_append, List.length_append] at h1
  omega

theorem Mid.done {s : ByteArray} {L : List UInt8} {last i : Nat} (h : Mid s L last i) (hi : s.size ≤ i) : L ++ sub s last i = esc s := by
  obtain ⟨f, hf, h⟩ := h
  rw [escFrom_end s f i hi, List.append_nil] at h
  exact h

/-! ### The bytes as numbers -/
def nm (L : List UInt8) : List Int := L.map fun b => (b.toNat : Int)

theorem nm_append (L M : List UInt8) : nm (L ++ M) = nm L ++ nm M := by simp [nm]
theorem nm_length (L : List UInt8) : (nm L).length = L.length := by simp [nm]
theorem nm_sub (s : ByteArray) (a b : Nat) : ((s.data.toList.map fun b => (b.toNat : Int)).take b).drop a = nm (sub s a b) := by
  unfold nm sub
  rw [← List.map_take, ← List.map_drop, List.drop_take]

end Go.Proofs.YtjoahpmalhmjkaaGreatDoor.EscPure
