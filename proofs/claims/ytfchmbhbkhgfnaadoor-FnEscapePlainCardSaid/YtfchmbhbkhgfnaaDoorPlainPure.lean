/- What is proved here: plain facts on an escaped text: which bytes it has not, that it is characters and references in turn, how long it is; no condition but those named. -/
import Derived.Test.YtfchmbhbkhgfnaaDoorEscD
namespace Go.Proofs.YtfchmbhbkhgfnaaDoor.EscPure
set_option linter.unusedVariables false

theorem D_cut (n b0 b1 b2 b3 w c1 c2 c3 : Nat) (hw : (D n b0 b1 b2 b3).2 = w) (h : w ≠ 0) (h1 : 1 < w → c1 = b1) (h2 : 2 < w → c2 = b2) (h3 : 3 < w → c3 = b3) : D w b0 c1 c2 c3 = D n b0 b1 b2 b3 := by
  unfold D at hw ⊢
  by_cases c0 : n = 0
  · rw [if_pos c0] at hw
    exact absurd hw.symm h
  rw [if_neg c0] at hw ⊢
  rw [if_neg h]
  by_cases a0 : b0 < 128
  · rw [if_pos a0, if_pos a0]
  rw [if_neg a0] at hw ⊢
  rw [if_neg a0]
  by_cases a1 : 194 ≤ b0 ∧ b0 < 224
  · rw [if_pos a1] at hw ⊢
    rw [if_pos a1]
    by_cases d : 2 ≤ n ∧ b1 / 64 = 2
    · rw [if_pos d] at hw ⊢
      simp only at hw
      obtain rfl := h1 (by omega)
      rw [if_pos (by omega)]
    · rw [if_neg d] at hw
      exact absurd hw.symm h
  rw [if_neg a1] at hw ⊢
  rw [if_neg a1]
  by_cases a2 : 224 ≤ b0 ∧ b0 < 240
  · rw [if_pos a2] at hw ⊢
    rw [if_pos a2]
    split at hw
    · rename_i d
      simp only at hw
      obtain rfl := h1 (by omega)
      obtain rfl := h2 (by omega)
      rw [if_pos d, if_pos (by omega)]
    · exact absurd hw.symm h
  rw [if_neg a2] at hw ⊢
  rw [if_neg a2]
  by_cases a3 : 240 ≤ b0 ∧ b0 < 245
  · rw [if_pos a3] at hw ⊢
    rw [if_pos a3]
    split at hw
    · rename_i d
      simp only at hw
      obtain rfl := h1 (by omega)
      obtain rfl := h2 (by omega)
      obtain rfl := h3 (by omega)
      rw [if_pos d, if_pos (by omega)]
    · exact absurd hw.symm h
  · rw [if_neg a3] at hw
    exact absurd hw.symm h

/-- The bytes of a character: one below 128, or all above. -/
theorem D_bytes (n b0 b1 b2 b3 : Nat) (h : (D n b0 b1 b2 b3).2 ≠ 0) :
    ((D n b0 b1 b2 b3).2 = 1 → (D n b0 b1 b2 b3).1 = b0 ∧ b0 < 128) ∧ (2 ≤ (D n b0 b1 b2 b3).2 → 128 ≤ b0 ∧ 128 ≤ b1) ∧ (3 ≤ (D n b0 b1 b2 b3).2 → 128 ≤ b2) ∧ (4 ≤ (D n b0 b1 b2 b3).2 → 128 ≤ b3 ∧ isChar (D n b0 b1 b2 b3).1 = true) := by
  unfold D at h ⊢
  by_cases c0 : n = 0
  · rw [if_pos c0] at h
    exact absurd rfl h
  rw [if_neg c0] at h ⊢
  by_cases a0 : b0 < 128
  · rw [if_pos a0]
    exact ⟨fun _ => ⟨rfl, a0⟩, fun h => absurd h (by simp), fun h => absurd h (by simp), fun h => absurd h (by simp)⟩
  rw [if_neg a0] at h ⊢
  by_cases a1 : 194 ≤ b0 ∧ b0 < 224
  · rw [if_pos a1] at h ⊢
    by_cases d : 2 ≤ n ∧ b1 / 64 = 2
    · rw [if_pos d]
      exact ⟨fun h => absurd h (by simp), fun _ => by omega, fun h => absurd h (by simp), fun h => absurd h (by simp)⟩
    · rw [if_neg d] at h
      exact absurd rfl h
  rw [if_neg a1] at h ⊢
  by_cases a2 : 224 ≤ b0 ∧ b0 < 240
  · rw [if_pos a2] at h ⊢
    split at h
    · rename_i d
      rw [if_pos d]
      exact ⟨fun h => absurd h (by simp), fun _ => by omega, fun _ => by omega, fun h => absurd h (by simp)⟩
    · exact absurd rfl h
  rw [if_neg a2] at h ⊢
  by_cases a3 : 240 ≤ b0 ∧ b0 < 245
  · rw [if_pos a3] at h ⊢
    split at h
    · rename_i d
      rw [if_pos d]
      refine ⟨fun h => absurd h (by simp), fun _ => by omega, fun _ => by omega, fun _ => ⟨by omega, ?_⟩⟩
      have d2 := d.2
      unfold isChar
      simp only [Bool.or_eq_true, Bool.and_eq_true, decide_eq_true_eq]
      exact Or.inr d2
    · exact absurd rfl h
  · rw [if_neg a3] at h
    exact absurd rfl h

def refs : List (List UInt8) := [[38, 35, 51, 52, 59], [38, 35, 51, 57, 59], [38, 97, 109, 112, 59], [38, 108, 116, 59], [38, 103, 116, 59], [38, 35, 120, 57, 59], [38, 35, 120, 65, 59], [38, 35, 120, 68, 59]]
def bad : List UInt8 := [60, 62, 34, 39, 9, 10, 13]

def byte (p : List UInt8) (j : Nat) : Nat := (p.getD j 0).toNat

/-- A list of bytes is one character, that is no ampersand. -/
def One (p : List UInt8) : Prop := p ≠ [] ∧ p.length ≤ 4 ∧ byte p 0 ≠ 38 ∧ ∃ r, isChar r = true ∧ D p.length (byte p 0) (byte p 1) (byte p 2) (byte p 3) = (r, p.length)

theorem repl_one : One [239, 191, 189] := ⟨by decide, by decide, by decide, 65533, by decide, by decide⟩

theorem sub_byte (s : ByteArray) (i w j : Nat) (h : j < w) (hw : i + w ≤ s.size) : byte ((s.data.toList.drop i).take w) j = (s.get! (i + j)).toNat := by
  unfold byte
  rw [← Lib.getD_get!', List.getD_eq_getElem?_getD, List.getD_eq_getElem?_getD, List.getElem?_take_of_lt h, List.getElem?_drop]

theorem escOf_some (r n : Nat) (x : List UInt8) (h : escOf r n = some x) : x ∈ refs ∨ (x = [239, 191, 189] ∧ (isChar r = false ∨ (r = 65533 ∧ n = 1))) := by
  unfold escOf at h
  by_cases h1 : r = 34
  · rw [if_pos h1] at h; cases h; exact .inl (by decide)
  rw [if_neg h1] at h
  by_cases h2 : r = 39
  · rw [if_pos h2] at h; cases h; exact .inl (by decide)
  rw [if_neg h2] at h
  by_cases h3 : r = 38
  · rw [if_pos h3] at h; cases h; exact .inl (by decide)
  rw [if_neg h3] at h
  by_cases h4 : r = 60
  · rw [if_pos h4] at h; cases h; exact .inl (by decide)
  rw [if_neg h4] at h
  by_cases h5 : r = 62
  · rw [if_pos h5] at h; cases h; exact .inl (by decide)
  rw [if_neg h5] at h
  by_cases h6 : r = 9
  · rw [if_pos h6] at h; cases h; exact .inl (by decide)
  rw [if_neg h6] at h
  by_cases h7 : r = 10
  · rw [if_pos h7] at h; cases h; exact .inl (by decide)
  rw [if_neg h7] at h
  by_cases h8 : r = 13
  · rw [if_pos h8] at h; cases h; exact .inl (by decide)
  rw [if_neg h8] at h
  by_cases h9 : isChar r = false ∨ (r = 65533 ∧ n = 1)
  · rw [if_pos h9] at h; cases h; exact .inr ⟨rfl, h9⟩
  rw [if_neg h9] at h
  cases h

theorem escOf_none (r n : Nat) (h : escOf r n = none) : r ≠ 38 ∧ r ≠ 60 ∧ r ≠ 62 ∧ r ≠ 34 ∧ r ≠ 39 ∧ r ≠ 9 ∧ r ≠ 10 ∧ r ≠ 13 ∧ isChar r = true ∧ ¬ (r = 65533 ∧ n = 1) := by
  unfold escOf at h
  by_cases h1 : r = 34
  · rw [if_pos h1] at h; cases h
  rw [if_neg h1] at h
  by_cases h2 : r = 39
  · rw [if_pos h2] at h; cases h
  rw [if_neg h2] at h
  by_cases h3 : r = 38
  · rw [if_pos h3] at h; cases h
  rw [if_neg h3] at h
  by_cases h4 : r = 60
  · rw [if_pos h4] at h; cases h
  rw [if_neg h4] at h
  by_cases h5 : r = 62
  · rw [if_pos h5] at h; cases h
  rw [if_neg h5] at h
  by_cases h6 : r = 9
  · rw [if_pos h6] at h; cases h
  rw [if_neg h6] at h
  by_cases h7 : r = 10
  · rw [if_pos h7] at h; cases h
  rw [if_neg h7] at h
  by_cases h8 : r = 13
  · rw [if_pos h8] at h; cases h
  rw [if_neg h8] at h
  by_cases h9 : isChar r = false ∨ (r = 65533 ∧ n = 1)
  · rw [if_pos h9] at h; cases h
  refine ⟨h3, h4, h5, h1, h2, h6, h7, h8, ?_, fun h => h9 (.inr h)⟩
  cases hc : isChar r with
  | true => rfl
  | false => exact absurd (.inl hc) h9

/-- What stands for a rune: a reference, or a character; no bad byte; no shorter. -/
theorem piece_ok (s : ByteArray) (i : Nat) (hi : i < s.size) : (piece s i ∈ refs ∨ One (piece s i)) ∧ (∀ b ∈ piece s i, b ∉ bad) ∧ width s i ≤ (piece s i).length := by
  have hw := width_pos s i hi
  unfold piece
  cases he : escOf (rune s i) (width s i) with
  | some x =>
    simp only [Option.getD_some]
    have hx := escOf_some _ _ _ he
    refine ⟨?_, ?_, ?_⟩
    · rcases hx with h | ⟨rfl, _⟩
      · exact .inl h
      · exact .inr repl_one
    · rcases hx with h | ⟨rfl, _⟩
      · revert h
        have : ∀ y ∈ refs, ∀ b ∈ y, b ∉ bad := by decide
        exact this x
      · decide
    · rcases hx with h | ⟨rfl, hc⟩
      · have : ∀ y ∈ refs, 4 ≤ y.length := by decide
        have := this x h
        omega
      · show width s i ≤ 3
        rcases hc with hc | ⟨_, hc⟩
        · by_cases hd : (dec s i).2 = 0
          · have : width s i = 1 := by unfold width; rw [decode_dec s i hi, if_pos hd]
            omega
          · have e : rune s i = (dec s i).1 := by unfold rune; rw [decode_dec s i hi, if_neg hd]
            have e2 := width_dec s i hi hd
            rw [e] at hc
            have h4 := (D_bytes _ _ _ _ _ hd).2.2.2
            by_cases h : 4 ≤ (dec s i).2
            · have := (h4 h).2
              unfold dec at hc
              rw [this] at hc
              cases hc
            · omega
        · omega
  | none =>
    simp only [Option.getD_none]
    obtain ⟨n38, n60, n62, n34, n39, n9, n10, n13, hc, hn⟩ := escOf_none _ _ he
    have hd : (dec s i).2 ≠ 0 := fun hd => hn (by
      unfold rune width
      rw [decode_dec s i hi, if_pos hd]
      exact ⟨rfl, rfl⟩)
    have e1 : rune s i = (dec s i).1 := by unfold rune; rw [decode_dec s i hi, if_neg hd]
    have e2 := width_dec s i hi hd
    have hb := D_bytes _ _ _ _ _ hd
    have hl : ((s.data.toList.drop i).take (width s i)).length = width s i := by
      rw [List.length_take, List.length_drop, ← Lib.size_eq]
      omega
    have hcut := D_cut (s.size - i) (s.get! i).toNat (s.get! (i + 1)).toNat (s.get! (i + 2)).toNat (s.get! (i + 3)).toNat (width s i)
      (byte ((s.data.toList.drop i).take (width s i)) 1) (byte ((s.data.toList.drop i).take (width s i)) 2) (byte ((s.data.toList.drop i).take (width s i)) 3)
      e2.symm (by omega) (fun h => sub_byte s i _ 1 h hw.2.1) (fun h => sub_byte s i _ 2 h hw.2.1) (fun h => sub_byte s i _ 3 h hw.2.1)
    have hb0 := sub_byte s i (width s i) 0 (by omega) hw.2.1
    rw [Nat.add_zero] at hb0
    have hb' : ((dec s i).2 = 1 → (dec s i).1 = (s.get! i).toNat ∧ (s.get! i).toNat < 128) ∧ (2 ≤ (dec s i).2 → 128 ≤ (s.get! i).toNat ∧ 128 ≤ (s.get! (i + 1)).toNat) ∧ (3 ≤ (dec s i).2 → 128 ≤ (s.get! (i + 2)).toNat) ∧ (4 ≤ (dec s i).2 → 128 ≤ (s.get! (i + 3)).toNat ∧ isChar (dec s i).1 = true) := hb
    refine ⟨.inr ⟨fun h => by rw [h] at hl; exact absurd hl (by simp; omega), by rw [hl]; omega, ?_, (dec s i).1, e1 ▸ hc, ?_⟩, ?_, by rw [hl]; omega⟩
    · rw [hb0]
      intro h
      rcases Nat.lt_or_ge (dec s i).2 2 with h1 | h1
      · exact n38 (by rw [e1, (hb'.1 (by omega)).1]; exact h)
      · have := (hb'.2.1 h1).1
        omega
    · rw [hl, hb0, hcut, e2]
      rfl
    · intro b hbm
      obtain ⟨j, hj, rfl⟩ := List.getElem_of_mem hbm
      rw [hl] at hj
      have hv : ((((s.data.toList.drop i).take (width s i)))[j]'(by rw [hl]; exact hj)).toNat = (s.get! (i + j)).toNat := by
        rw [← sub_byte s i (width s i) j hj hw.2.1]
        unfold byte
        rw [List.getD_eq_getElem?_getD, List.getElem?_eq_getElem (by rw [hl]; exact hj)]
        rfl
      intro hm
      have hs : ∀ x ∈ bad, x.toNat = 60 ∨ x.toNat = 62 ∨ x.toNat = 34 ∨ x.toNat = 39 ∨ x.toNat = 9 ∨ x.toNat = 10 ∨ x.toNat = 13 := by decide
      have hx := hs _ hm
      rw [hv] at hx
      rcases Nat.lt_or_ge (dec s i).2 2 with h1 | h1
      · have := (hb'.1 (by omega)).1
        obtain rfl : j = 0 := by omega
        rw [Nat.add_zero] at hx
        rw [← this, ← e1] at hx
        omega
      · have h2 := hb'.2.1 h1
        have h3 : j < 4 := by omega
        have h4 : j = 0 ∨ j = 1 ∨ j = 2 ∨ j = 3 := by omega
        rcases h4 with e | e | e | e
        · rw [e, Nat.add_zero] at hx
          omega
        · rw [e] at hx
          omega
        · have := hb'.2.2.1 (by omega)
          rw [e] at hx
          omega
        · have := (hb'.2.2.2 (by omega)).1
          rw [e] at hx
          omega

/-- From a place on, characters and references stand in turn. -/
inductive T (e : ByteArray) : Nat → Prop
  | stop : T e e.size
  | ref (i : Nat) (p : List UInt8) (hp : p ∈ refs) (h : (e.data.toList.drop i).take p.length = p) (hi : i + p.length ≤ e.size) (t : T e (i + p.length)) : T e i
  | chr (i : Nat) (hi : i < e.size) (h38 : (e.get! i).toNat ≠ 38) (hn : (dec e i).2 ≠ 0) (hc : isChar (dec e i).1 = true) (t : T e (i + (dec e i).2)) : T e i

theorem T_place (e : ByteArray) (A p R : List UInt8) (hE : e.data.toList = A ++ (p ++ R)) (hp : p ∈ refs ∨ One p) (t : T e (A.length + p.length)) : T e A.length := by
  have hsz : e.size = A.length + p.length + R.length := by rw [Lib.size_eq, hE, List.length_append, List.length_append]; omega
  have hat : ∀ j, j < p.length → (e.get! (A.length + j)).toNat = byte p j := by
    intro j hj
    unfold byte
    rw [← Lib.getD_get!', hE, List.getD_eq_getElem?_getD, List.getD_eq_getElem?_getD, List.getElem?_append_right (by omega), Nat.add_sub_cancel_left, List.getElem?_append_left hj]
  rcases hp with hp | ⟨hne, h4, h38, r, hr, hD⟩
  · refine T.ref A.length p hp ?_ (by omega) t
    rw [hE, List.drop_left, List.take_left]
  · have hpl : 0 < p.length := List.length_pos_iff.mpr hne
    have h0 := hat 0 hpl
    rw [Nat.add_zero] at h0
    have hloc : dec e A.length = (r, p.length) := by
      unfold dec
      rw [h0, ← hD]
      refine D_local p.length _ _ _ _ _ _ _ _ (by rw [hD]; show p.length ≠ 0; omega) (by omega) (fun h => hat 1 h) (fun h => hat 2 h) (fun h => hat 3 h)
    refine T.chr A.length (by omega) (by rw [h0]; exact h38) (by rw [hloc]; show p.length ≠ 0; omega) (by rw [hloc]; exact hr) ?_
    rw [hloc]
    exact t

theorem T_end (e : ByteArray) (A : List UInt8) (hE : e.data.toList = A) : T e A.length := by
  have h : e.size = A.length := by rw [Lib.size_eq, hE]
  rw [← h]
  exact T.stop

theorem T_from (s e : ByteArray) : ∀ f i A, s.size - i ≤ f → e.data.toList = A ++ escFrom s f i → T e A.length
  | 0, i, A, h, hE => T_end e A (by rw [hE]; simp [escFrom])
  | f + 1, i, A, h, hE => by
    by_cases hi : i < s.size
    · have hw := width_pos s i hi
      have e1 : escFrom s (f + 1) i = piece s i ++ escFrom s f (i + width s i) := by rw [escFrom, if_pos hi]
      rw [e1] at hE
      have ih := T_from s e f (i + width s i) (A ++ piece s i) (by omega) (by rw [hE, List.append_assoc])
      rw [List.length_append] at ih
      exact T_place e A _ _ hE (piece_ok s i hi).1 ih
    · exact T_end e A (by rw [hE, escFrom_end s _ i (by omega), List.append_nil])

theorem T_esc (s : ByteArray) : T ⟨(esc s).toArray⟩ 0 := T_from s _ s.size 0 [] (by omega) rfl

theorem bad_from (s : ByteArray) : ∀ f i, ∀ b ∈ escFrom s f i, b ∉ bad
  | 0, i, b, h => by simp [escFrom] at h
  | f + 1, i, b, h => by
    by_cases hi : i < s.size
    · rw [escFrom, if_pos hi] at h
      rcases List.mem_append.1 h with h | h
      · exact (piece_ok s i hi).2.1 b h
      · exact bad_from s f _ b h
    · rw [escFrom_end s _ i (by omega)] at h
      cases h

theorem bad_esc (s : ByteArray) : ∀ b ∈ esc s, b ∉ bad := bad_from s _ _

theorem long_from (s : ByteArray) : ∀ f i, s.size - i ≤ f → s.size - i ≤ (escFrom s f i).length
  | 0, i, h => by omega
  | f + 1, i, h => by
    by_cases hi : i < s.size
    · have hw := width_pos s i hi
      rw [escFrom, if_pos hi, List.length_append]
      have h1 := (piece_ok s i hi).2.2
      have h2 := long_from s f (i + width s i) (by omega)
      omega
    · omega

theorem long_esc (s : ByteArray) : s.size ≤ (⟨(esc s).toArray⟩ : ByteArray).size := by
  have := long_from s s.size 0 (by omega)
  rw [Lib.size_eq]
  exact (by omega : s.size ≤ (escFrom s s.size 0).length)

end Go.Proofs.YtfchmbhbkhgfnaaDoor.EscPure
