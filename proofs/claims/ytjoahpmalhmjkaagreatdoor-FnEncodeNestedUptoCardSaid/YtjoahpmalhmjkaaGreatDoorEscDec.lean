/- What is proved here: the reference's Decode (as printed) tells what the plain function dec tells; condition: at most 2^40 bytes. -/
import Derived.Test.YtjoahpmalhmjkaaGreatDoorPFnEncodeNestedx2
import Derived.Test.YtjoahpmalhmjkaaGreatDoorEscD
namespace Go.Proofs.YtjoahpmalhmjkaaGreatDoor.EscDec
open Go.RowKit Go.Proofs.YtjoahpmalhmjkaaGreatDoorW.PrintWords Go.Proofs.YtjoahpmalhmjkaaGreatDoorW.PrintLast Go.Proofs.YtjoahpmalhmjkaaGreatDoorW.PrintMore
open Go.Proofs.YtjoahpmalhmjkaaGreatDoor.EscPure Go.Proofs.YtjoahpmalhmjkaaGreatDoor.PFnEncodeNested
set_option linter.unusedVariables false

theorem wr {x : Int} (h0 : -9223372036854775808 ≤ x) (h1 : x < 9223372036854775808) : wrap64 x = x := by
  unfold wrap64
  omega

theorem wraps_i64 (n : Int) (h0 : 0 ≤ n) (h1 : n < 2 ^ 62) : IntKind.i64.wrap n = n := by rw [IntKind.wrap_i64]; omega

theorem and_mask (x : Int) (i : Nat) (hi : i ≤ 62) (h0 : 0 ≤ x) (h1 : x < 2 ^ 62) : bits .and .i64 x (2 ^ i - 1) = x % 2 ^ i := bits_mask .i64 62 (by decide) wraps_i64 i hi x h0 h1
theorem or_join (x y : Int) (i : Nat) (h0 : 0 ≤ x) (hx : x % 2 ^ i = 0) (h1 : x < 2 ^ 62) (h2 : 0 ≤ y) (h3 : y < 2 ^ i) (h4 : y < 2 ^ 62) : bits .or .i64 x y = x + y := bits_join .i64 62 (by decide) wraps_i64 i x y h0 hx h1 h2 h3 h4

theorem and192 (b : Nat) (h : b < 256) : (bits .and .u8 (b : Int) 192 = 128) ↔ b / 64 = 2 := by
  have h1 := (bits_nat .u8 8 (by decide) wraps_u8 b 192 (by omega) (by decide)).1
  have e : ((192 : Nat) : Int) = 192 := rfl
  rw [e] at h1
  rw [h1]
  have h2 : ∀ b : Fin 256, (b.val &&& 192 = 128 ↔ b.val / 64 = 2) := by decide +kernel
  have := h2 ⟨b, h⟩
  constructor
  · intro hh
    exact this.1 (by simpa using (by exact_mod_cast hh : b &&& 192 = 128))
  · intro hh
    exact_mod_cast this.2 hh

theorem bt_get (s : ByteArray) (j : Nat) : bt s (j : Int) = ((s.get! j).toNat : Int) := by
  rw [← rd_bytesOf]
  unfold rd
  rw [Int.toNat_natCast, ← Lib.getD_get!']
  unfold bytesOf
  rw [List.getD_eq_getElem?_getD, List.getD_eq_getElem?_getD, List.getElem?_map]
  cases s.data.toList[j]? <;> rfl

section
variable {s : ByteArray} {x m j : Nat}
theorem l0_ok (hj : j < m) (hm : m ≤ 4) (hjs : j < s.size) (hs : s.size ≤ 1099511627776) (hc : (s.get! j).toNat / 64 = 2) (hx : x < 1099511627776) (k : Nat) :
    spec_Decode.l0 (k + 1) s (x : Int) (m : Int) (j : Int) = spec_Decode.l0 k s ((x * 64 + (s.get! j).toNat % 64 : Nat) : Int) (m : Int) ((j + 1 : Nat) : Int) := by
  have hb := byte_lt s j
  have e63 : bits .and .u8 ((s.get! j).toNat : Int) 63 = ((s.get! j).toNat : Int) % 64 := u8_and63 _ (by omega) (by omega)
  simp only [spec_Decode.l0]
  rw [if_pos (by omega), if_pos (by omega), if_pos (by omega), bt_get, if_pos ((and192 _ hb).2 hc), e63, wr (x := (x : Int) * 64) (by omega) (by omega), wr (x := _ % 64) (by omega) (by omega), wr (x := (j : Int) + 1) (by omega) (by omega),
    or_join _ _ 6 (by omega) (by omega) (by omega) (by omega) (by omega) (by omega)]
  congr 1

theorem l0_bad (hj : j < m) (hjs : j < s.size) (hc : ¬ (s.get! j).toNat / 64 = 2) (k : Nat) : spec_Decode.l0 (k + 1) s (x : Int) (m : Int) (j : Int) = some (0, 0) := by
  have hb := byte_lt s j
  simp only [spec_Decode.l0]
  rw [if_pos (by omega), if_pos (by omega), if_pos (by omega), bt_get, if_neg (fun h => hc ((and192 _ hb).1 h))]

theorem l0_end2 (k : Nat) : spec_Decode.l0 (k + 1) s (x : Int) ((2 : Nat) : Int) ((2 : Nat) : Int) = some ((x : Int), 2) := by
  simp only [spec_Decode.l0]
  rw [if_neg (by omega), if_neg (by omega), if_neg (by omega)]
  rfl
theorem l0_end3 (k : Nat) : spec_Decode.l0 (k + 1) s (x : Int) ((3 : Nat) : Int) ((3 : Nat) : Int) = if 2048 ≤ x ∧ (x < 55296 ∨ 57344 ≤ x) then some ((x : Int), 3) else some (0, 0) := by
  simp only [spec_Decode.l0]
  rw [if_neg (by omega), if_pos (by rfl)]
  by_cases h1 : x < 2048
  · rw [if_pos (by omega), if_neg (by omega)]
  · rw [if_neg (by omega)]
    by_cases h2 : 55296 ≤ x
    · rw [if_pos (by omega)]
      by_cases h3 : x < 57344
      · rw [if_pos (by omega), if_neg (by omega)]
      · rw [if_neg (by omega), if_neg (by omega), if_pos (by omega)]
        rfl
    · rw [if_neg (by omega), if_neg (by omega), if_pos (by omega)]
      rfl
theorem l0_end4 (k : Nat) : spec_Decode.l0 (k + 1) s (x : Int) ((4 : Nat) : Int) ((4 : Nat) : Int) = if 65536 ≤ x ∧ x ≤ 1114111 then some ((x : Int), 4) else some (0, 0) := by
  simp only [spec_Decode.l0]
  rw [if_neg (by omega), if_neg (by omega), if_pos (by rfl)]
  by_cases h1 : x < 65536
  · rw [if_pos (by omega), if_neg (by omega)]
  · rw [if_neg (by omega)]
    by_cases h2 : 1114111 < x
    · rw [if_pos (by omega), if_neg (by omega)]
    · rw [if_neg (by omega), if_pos (by omega)]
      rfl

theorem ev_of {g : Nat → Option (Int × Int)} {r : Int × Int} (h : ∀ k, g (k + 1) = some r) : Ev g r := ⟨1, fun k hk => by
  obtain ⟨k, rfl⟩ : ∃ m, k = m + 1 := ⟨k - 1, by omega⟩
  exact h k⟩
end

theorem ev_step {g f : Nat → Option (Int × Int)} {r : Int × Int} (h : ∀ k, g (k + 1) = f k) (hf : Ev f r) : Ev g r := Ev.step h hf

/-- Behind the first byte: m bytes in all. -/
theorem j2_tells (s : ByteArray) (x m : Nat) (hs : s.size ≤ 1099511627776) (hx : x < 32) (h2 : 2 ≤ m) (h4 : m ≤ 4) :
    Ev (fun k => spec_Decode.j2 k s (x : Int) (m : Int))
      (if m = 2 then (if 2 ≤ s.size ∧ (s.get! 1).toNat / 64 = 2 then (((x * 64 + (s.get! 1).toNat % 64 : Nat) : Int), 2) else (0, 0))
       else if m = 3 then (if (3 ≤ s.size ∧ (s.get! 1).toNat / 64 = 2 ∧ (s.get! 2).toNat / 64 = 2) ∧ 2048 ≤ (x * 64 + (s.get! 1).toNat % 64) * 64 + (s.get! 2).toNat % 64 ∧ ((x * 64 + (s.get! 1).toNat % 64) * 64 + (s.get! 2).toNat % 64 < 55296 ∨ 57344 ≤ (x * 64 + (s.get! 1).toNat % 64) * 64 + (s.get! 2).toNat % 64)
         then ((((x * 64 + (s.get! 1).toNat % 64) * 64 + (s.get! 2).toNat % 64 : Nat) : Int), 3) else (0, 0))
       else (if (4 ≤ s.size ∧ (s.get! 1).toNat / 64 = 2 ∧ (s.get! 2).toNat / 64 = 2 ∧ (s.get! 3).toNat / 64 = 2) ∧ 65536 ≤ ((x * 64 + (s.get! 1).toNat % 64) * 64 + (s.get! 2).toNat % 64) * 64 + (s.get! 3).toNat % 64 ∧ ((x * 64 + (s.get! 1).toNat % 64) * 64 + (s.get! 2).toNat % 64) * 64 + (s.get! 3).toNat % 64 ≤ 1114111
         then (((((x * 64 + (s.get! 1).toNat % 64) * 64 + (s.get! 2).toNat % 64) * 64 + (s.get! 3).toNat % 64 : Nat) : Int), 4) else (0, 0))) := by
  by_cases hsz : s.size < m
  · refine ev_of fun k => ?_
    simp only [spec_Decode.j2]
    rw [if_pos (by omega)]
    congr 1
    obtain rfl | rfl | rfl : m = 2 ∨ m = 3 ∨ m = 4 := by omega
    · rw [if_pos rfl, if_neg (by omega)]
    · rw [if_neg (by omega), if_pos rfl, if_neg (by omega)]
    · rw [if_neg (by omega), if_neg (by omega), if_neg (by omega)]
  · refine ev_step (f := fun k => spec_Decode.l0 k s (x : Int) (m : Int) ((1 : Nat) : Int)) (fun k => ?_) ?_
    · simp only [spec_Decode.j2]
      rw [if_neg (by omega)]
      rfl
    · by_cases c1 : (s.get! 1).toNat / 64 = 2
      · refine ev_step (l0_ok (by omega) h4 (by omega) hs c1 (by omega)) ?_
        obtain rfl | rfl | rfl : m = 2 ∨ m = 3 ∨ m = 4 := by omega
        · rw [if_pos rfl, if_pos ⟨by omega, c1⟩]
          exact ev_of l0_end2
        · rw [if_neg (by omega), if_pos rfl]
          by_cases c2 : (s.get! 2).toNat / 64 = 2
          · refine ev_step (l0_ok (by omega) h4 (by omega) hs c2 (by omega)) (ev_of fun k => ?_)
            rw [l0_end3]
            by_cases hr : 2048 ≤ (x * 64 + (s.get! 1).toNat % 64) * 64 + (s.get! 2).toNat % 64 ∧ ((x * 64 + (s.get! 1).toNat % 64) * 64 + (s.get! 2).toNat % 64 < 55296 ∨ 57344 ≤ (x * 64 + (s.get! 1).toNat % 64) * 64 + (s.get! 2).toNat % 64)
            · rw [if_pos hr, if_pos ⟨⟨by omega, c1, c2⟩, hr⟩]
            · rw [if_neg hr, if_neg (fun h => hr h.2)]
          · rw [if_neg (fun h => c2 h.1.2.2)]
            exact ev_of (l0_bad (by omega) (by omega) c2)
        · rw [if_neg (by omega), if_neg (by omega)]
          by_cases c2 : (s.get! 2).toNat / 64 = 2
          · refine ev_step (l0_ok (by omega) h4 (by omega) hs c2 (by omega)) ?_
            by_cases c3 : (s.get! 3).toNat / 64 = 2
            · refine ev_step (l0_ok (by omega) h4 (by omega) hs c3 (by omega)) (ev_of fun k => ?_)
              rw [l0_end4]
              by_cases hr : 65536 ≤ ((x * 64 + (s.get! 1).toNat % 64) * 64 + (s.get! 2).toNat % 64) * 64 + (s.get! 3).toNat % 64 ∧ ((x * 64 + (s.get! 1).toNat % 64) * 64 + (s.get! 2).toNat % 64) * 64 + (s.get! 3).toNat % 64 ≤ 1114111
              · rw [if_pos hr, if_pos ⟨⟨by omega, c1, c2, c3⟩, hr⟩]
              · rw [if_neg hr, if_neg (fun h => hr h.2)]
            · rw [if_neg (fun h => c3 h.1.2.2.2)]
              exact ev_of (l0_bad (by omega) (by omega) c3)
          · rw [if_neg (fun h => c2 h.1.2.2.1)]
            exact ev_of (l0_bad (by omega) (by omega) c2)
      · have e : ∀ k, spec_Decode.l0 (k + 1) s (x : Int) (m : Int) ((1 : Nat) : Int) = some (0, 0) := l0_bad (by omega) (by omega) c1
        obtain rfl | rfl | rfl : m = 2 ∨ m = 3 ∨ m = 4 := by omega
        · rw [if_pos rfl, if_neg (fun h => c1 h.2)]
          exact ev_of e
        · rw [if_neg (by omega), if_pos rfl, if_neg (fun h => c1 h.1.2.1)]
          exact ev_of e
        · rw [if_neg (by omega), if_neg (by omega), if_neg (fun h => c1 h.1.2.1)]
          exact ev_of e

theorem empty_iff (s : ByteArray) : s.toList = ([] : List UInt8) ↔ s.size = 0 := by
  rw [Lib.toList_data, ← List.length_eq_zero_iff, ← Lib.size_eq]

theorem decode_tells (s : ByteArray) (hs : s.size ≤ 1099511627776) : Ev (fun k => spec_Decode.f k s) (((dec s 0).1 : Int), ((dec s 0).2 : Int)) := by
  have hb := byte_lt s 0
  have hb0 : wrap64 (bt s 0) = ((s.get! 0).toNat : Int) := by
    have := bt_get s 0
    rw [show ((0 : Nat) : Int) = 0 from rfl] at this
    rw [this, wr (by omega) (by omega)]
  unfold spec_Decode.f dec D
  simp only [hb0, Nat.sub_zero, Nat.zero_add]
  by_cases h0 : s.size = 0
  · refine Ev.congr (f := fun _ => some (0, 0)) (fun k => ?_) ?_
    · rw [if_pos ((empty_iff s).2 h0)]
    · rw [if_pos h0]
      exact Ev.now _
  rw [if_neg h0]
  refine Ev.congr (fun k => if_neg (fun h => h0 ((empty_iff s).1 h))) ?_
  refine Ev.congr (fun k => if_pos (by omega)) ?_
  by_cases h1 : (s.get! 0).toNat < 128
  · rw [if_pos h1]
    exact Ev.congr (fun k => if_pos (by omega)) (Ev.now _)
  rw [if_neg h1]
  refine Ev.congr (fun k => if_neg (by omega)) ?_
  by_cases h2 : 194 ≤ (s.get! 0).toNat ∧ (s.get! 0).toNat < 224
  · rw [if_pos h2]
    refine Ev.congr (fun k => if_pos (by omega)) ?_
    refine ev_step (f := fun k => spec_Decode.j2 k s (((s.get! 0).toNat % 32 : Nat) : Int) ((2 : Nat) : Int)) (fun k => ?_) ?_
    · simp only [spec_Decode.j0]
      rw [decide_eq_true (by omega), if_pos rfl, show (31 : Int) = 2 ^ 5 - 1 from rfl, and_mask _ 5 (by decide) (by omega) (by omega)]
      rfl
    · have := j2_tells s ((s.get! 0).toNat % 32) 2 hs (by omega) (by omega) (by omega)
      rw [if_pos rfl] at this
      split
      · rename_i h
        rw [if_pos h] at this
        exact this
      · rename_i h
        rw [if_neg h] at this
        exact this
  rw [if_neg h2]
  have step0 : ∀ {r : Int × Int}, Ev (fun k => if (s.get! 0).toNat ≥ 224 then spec_Decode.j1 k s ((s.get! 0).toNat : Int) (decide (((s.get! 0).toNat : Int) < 240)) else spec_Decode.j1 k s ((s.get! 0).toNat : Int) false) r → Ev (fun k => if ((s.get! 0).toNat : Int) ≥ 194 then spec_Decode.j0 k s ((s.get! 0).toNat : Int) (decide (((s.get! 0).toNat : Int) < 224)) else spec_Decode.j0 k s ((s.get! 0).toNat : Int) false) r := by
    intro r h
    refine ev_step (fun k => ?_) h
    have e : (if ((s.get! 0).toNat : Int) ≥ 194 then spec_Decode.j0 (k + 1) s ((s.get! 0).toNat : Int) (decide (((s.get! 0).toNat : Int) < 224)) else spec_Decode.j0 (k + 1) s ((s.get! 0).toNat : Int) false) = spec_Decode.j0 (k + 1) s ((s.get! 0).toNat : Int) false := by
      split
      · rw [decide_eq_false (by omega)]
      · rfl
    rw [e]
    simp only [spec_Decode.j0]
    rw [if_neg (by decide)]
    by_cases h3 : (s.get! 0).toNat ≥ 224
    · rw [if_pos h3, if_pos (by omega)]
    · rw [if_neg h3, if_neg (by omega)]
  refine step0 ?_
  by_cases h3 : 224 ≤ (s.get! 0).toNat ∧ (s.get! 0).toNat < 240
  · rw [if_pos h3]
    refine Ev.congr (fun k => if_pos h3.1) ?_
    refine ev_step (f := fun k => spec_Decode.j2 k s (((s.get! 0).toNat % 16 : Nat) : Int) ((3 : Nat) : Int)) (fun k => ?_) ?_
    · simp only [spec_Decode.j1]
      rw [decide_eq_true (by omega), if_pos rfl, show (15 : Int) = 2 ^ 4 - 1 from rfl, and_mask _ 4 (by decide) (by omega) (by omega)]
      rfl
    · have := j2_tells s ((s.get! 0).toNat % 16) 3 hs (by omega) (by omega) (by omega)
      rw [if_neg (by omega), if_pos rfl] at this
      split
      · rename_i h
        rw [if_pos h] at this
        exact this
      · rename_i h
        rw [if_neg h] at this
        exact this
  rw [if_neg h3]
  have step1 : ∀ {r : Int × Int}, Ev (fun k => if (s.get! 0).toNat ≥ 240 then (if (s.get! 0).toNat < 245 then spec_Decode.j2 k s (bits .and .i64 ((s.get! 0).toNat : Int) 7) 4 else some (0, 0)) else some (0, 0)) r → Ev (fun k => if (s.get! 0).toNat ≥ 224 then spec_Decode.j1 k s ((s.get! 0).toNat : Int) (decide (((s.get! 0).toNat : Int) < 240)) else spec_Decode.j1 k s ((s.get! 0).toNat : Int) false) r := by
    intro r h
    refine ev_step (fun k => ?_) h
    have e : (if (s.get! 0).toNat ≥ 224 then spec_Decode.j1 (k + 1) s ((s.get! 0).toNat : Int) (decide (((s.get! 0).toNat : Int) < 240)) else spec_Decode.j1 (k + 1) s ((s.get! 0).toNat : Int) false) = spec_Decode.j1 (k + 1) s ((s.get! 0).toNat : Int) false := by
      split
      · rw [decide_eq_false (by omega)]
      · rfl
    rw [e]
    simp only [spec_Decode.j1]
    rw [if_neg (by decide)]
    by_cases h4 : (s.get! 0).toNat ≥ 240
    · rw [if_pos h4, if_pos (by omega)]
      by_cases h5 : (s.get! 0).toNat < 245
      · rw [if_pos h5, if_pos (by omega)]
      · rw [if_neg h5, if_neg (by omega)]
    · rw [if_neg h4, if_neg (by omega)]
  refine step1 ?_
  by_cases h4 : 240 ≤ (s.get! 0).toNat ∧ (s.get! 0).toNat < 245
  · rw [if_pos h4]
    refine Ev.congr (fun k => if_pos h4.1) ?_
    refine Ev.congr (fun k => if_pos h4.2) ?_
    have e : bits .and .i64 ((s.get! 0).toNat : Int) 7 = (((s.get! 0).toNat % 8 : Nat) : Int) := by
      rw [show (7 : Int) = 2 ^ 3 - 1 from rfl, and_mask _ 3 (by decide) (by omega) (by omega)]
      rfl
    rw [e]
    have := j2_tells s ((s.get! 0).toNat % 8) 4 hs (by omega) (by omega) (by omega)
    rw [if_neg (by omega), if_neg (by omega)] at this
    split
    · rename_i h
      rw [if_pos h] at this
      exact this
    · rename_i h
      rw [if_neg h] at this
      exact this
  · rw [if_neg h4]
    by_cases h5 : (s.get! 0).toNat ≥ 240
    · refine Ev.congr (fun k => if_pos h5) ?_
      exact Ev.congr (fun k => if_neg (by omega)) (Ev.now _)
    · exact Ev.congr (fun k => if_neg h5) (Ev.now _)

theorem dec_tail (s : ByteArray) (i : Nat) : dec (s.extract i s.size) 0 = dec s i := by
  unfold dec
  rw [Lib.tail_size, Lib.tail_get!, Lib.tail_get!, Lib.tail_get!, Lib.tail_get!]
  simp only [Nat.sub_zero, Nat.zero_add, Nat.add_zero]

theorem D_rune (n b0 b1 b2 b3 : Nat) (h0 : b0 < 256) : (D n b0 b1 b2 b3).1 ≤ 1114111 := by
  unfold D
  repeat' split
  all_goals simp only
  all_goals omega

theorem dec_rune (s : ByteArray) (i : Nat) : (dec s i).1 ≤ 1114111 := D_rune _ _ _ _ _ (byte_lt s i)

end Go.Proofs.YtjoahpmalhmjkaaGreatDoor.EscDec
