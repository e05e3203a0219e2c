/- What is proved here: the package's test for names tells, over characters up to U+00FF, what the reference's kind tells; conditions: the tables of unicode/utf8 as laid, and those that each theorem names. -/
import Derived.Test.YtjoahpmalhmjkaaGreatDoorIsKind
import Derived.Test.YtjoahpmalhmjkaaGreatDoorEncShelf
import Derived.Test.YtjoahpmalhmjkaaGreatDoorIsTab
namespace Go.Proofs.YtjoahpmalhmjkaaGreatDoor.IsWalk
open Go.RowKit Go.Proofs.YtjoahpmalhmjkaaGreatDoorW.PrintWords Go.Proofs.YtjoahpmalhmjkaaGreatDoorW.PrintLast Go.Proofs.YtjoahpmalhmjkaaGreatDoorW.PrintMore
open Go.Proofs.YtjoahpmalhmjkaaGreatDoor.EscPure Go.Proofs.YtjoahpmalhmjkaaGreatDoor.EscDec Go.Proofs.YtjoahpmalhmjkaaGreatDoor.IsKind Go.Proofs.YtjoahpmalhmjkaaGreatDoor.IsTab Go.Lib
set_option linter.unusedVariables false
set_option linter.unusedSimpArgs false

def allFrom (s : ByteArray) : Nat → Nat → Bool
  | 0, _ => true
  | f + 1, i => if i < s.size then conR (dec s i).1 && allFrom s f (i + (dec s i).2) else true
def okFrom (s : ByteArray) : Nat → Nat → Prop
  | 0, _ => True
  | f + 1, i => i < s.size → (dec s i).2 ≠ 0 ∧ (dec s i).1 < 256 ∧ okFrom s f (i + (dec s i).2)
def nameOf (s : ByteArray) : Bool := decide (0 < s.size) && begR (dec s 0).1 && allFrom s (s.size - 1) (dec s 0).2

theorem kind_rest (s : ByteArray) : ∀ f i kd : Nat, i ≠ 0 → kd ≤ 1 → kindFrom s f i kd ≠ 2 → okFrom s f i ∧ kindFrom s f i kd = (if kd = 0 ∧ allFrom s f i = true then 0 else 1)
  | 0, i, kd, h0, hk, h2 => by
    refine ⟨trivial, ?_⟩
    unfold kindFrom allFrom
    by_cases h : kd = 0
    · rw [if_pos ⟨h, rfl⟩, h]
    · rw [if_neg (fun h' => h h'.1)]
      omega
  | f + 1, i, kd, h0, hk, h2 => by
    unfold kindFrom at h2 ⊢
    unfold allFrom okFrom
    by_cases hi : i < s.size
    · rw [if_pos hi] at h2 ⊢
      rw [if_pos hi]
      by_cases hn : (dec s i).2 = 0
      · rw [if_pos hn] at h2
        exact absurd rfl h2
      rw [if_neg hn] at h2 ⊢
      by_cases hc : 128 ≤ (dec s i).1 ∧ conR (dec s i).1 = false
      · rw [if_pos hc] at h2
        exact absurd rfl h2
      rw [if_neg hc] at h2 ⊢
      have hr : (dec s i).1 < 256 := by
        rcases Nat.lt_or_ge (dec s i).1 256 with h | h
        · exact h
        · exact absurd ⟨by omega, conR_high _ h⟩ hc
      obtain ⟨a, b⟩ := kind_rest s f (i + (dec s i).2) _ (by omega) (by split <;> omega) h2
      refine ⟨fun _ => ⟨hn, hr, a⟩, ?_⟩
      rw [b]
      cases hcc : conR (dec s i).1 with
      | false => simp
      | true => simp [h0]
    · rw [if_neg hi]
      rw [if_neg hi]
      refine ⟨fun h => absurd h hi, ?_⟩
      by_cases h : kd = 0
      · rw [if_pos ⟨h, rfl⟩, h]
      · rw [if_neg (fun h' => h h'.1)]
        omega

/-- Where the reference says something: it says what nameOf says. -/
theorem kind_name (s : ByteArray) (h2 : kindOf s ≠ 2) : okFrom s s.size 0 ∧ (kindOf s = 0 ↔ nameOf s = true) := by
  unfold kindOf at h2 ⊢
  unfold nameOf
  by_cases h0 : s.size = 0
  · rw [h0] at h2 ⊢
    refine ⟨trivial, ?_⟩
    simp [kindFrom]
  · rw [if_neg h0] at h2 ⊢
    obtain ⟨f, hf⟩ : ∃ f, s.size = f + 1 := ⟨s.size - 1, by omega⟩
    have hw := dec_width s 0
    rw [hf] at h2 ⊢
    unfold okFrom
    unfold kindFrom at h2 ⊢
    rw [if_pos (by omega)] at h2 ⊢
    by_cases hn : (dec s 0).2 = 0
    · rw [if_pos hn] at h2
      exact absurd rfl h2
    rw [if_neg hn] at h2 ⊢
    by_cases hc : 128 ≤ (dec s 0).1 ∧ conR (dec s 0).1 = false
    · rw [if_pos hc] at h2
      exact absurd rfl h2
    rw [if_neg hc] at h2 ⊢
    have hr : (dec s 0).1 < 256 := by
      rcases Nat.lt_or_ge (dec s 0).1 256 with h | h
      · exact h
      · exact absurd ⟨by omega, conR_high _ h⟩ hc
    obtain ⟨a, b⟩ := kind_rest s f (0 + (dec s 0).2) _ (by omega) (by split <;> omega) h2
    refine ⟨fun _ => ⟨hn, hr, a⟩, ?_⟩
    rw [b, show 0 + (dec s 0).2 = (dec s 0).2 by omega, show f + 1 - 1 = f by omega]
    cases hb : begR (dec s 0).1 with
    | false => simp
    | true =>
      have hcc : conR (dec s 0).1 = true := by unfold conR; rw [hb]; rfl
      simp [hcc]

/-- What the decoder hands back where a character stands. -/
theorem decode_at (s : ByteArray) (i r n : Nat) (hi : i < s.size) (hd : dec s i = (r, n)) (hn : n ≠ 0) : decodeGo (s.extract i s.size) = (r, n) := by
  unfold decodeGo
  have hsz : (s.extract i s.size).size = s.size - i := Lib.tail_size s i
  rw [if_neg (by omega), decode_dec _ _ (by omega), dec_tail, hd, if_neg hn]

theorem dir_at (s : ByteArray) (i r n : Nat) (w : World) (hT : Lib.Utf8Tabs 3 4 w) (hi : i < s.size) (hd : dec s i = (r, n)) (hn : n ≠ 0) (cur : ByteArray) (hc : cur = s.extract i s.size) :
    Calls Tryz.prog 66 #[.string cur] w fun e w' => e = .returned (.tuple #[.int .i32 (r : Int), .int .i64 (n : Int)]) ∧ Below w.heap.size w w' := by
  have := EncShelf.utf8_DecodeRuneInString cur w hT
  rw [hc, decode_at s i r n hi hd hn] at this
  rw [hc]
  exact this

/-- unicode.Is over the first table, and over the second. -/
theorem is_first (B r : Nat) (w : World) (hr : r < 256) (hA : RTabAt B 0 firstT w) (b : Bool) (hb : begR r = b) :
    Calls Tryz.prog 67 #[.pointer (some ⟨B, 0, none⟩), .int .i32 (r : Int)] w fun e w' => e = .returned (.bool b) ∧ Below w.heap.size w w' := by
  have := EncShelf.unicode_Is_any B 0 firstT (r : Int) w (by omega) (by omega) hA first_ok
  rw [first_is ⟨r, hr⟩] at this
  rw [← hb]
  exact this

theorem is_second (B r : Nat) (w : World) (hr : r < 256) (hA : RTabAt B 0 secondT w) (hn : begR r = false) (b : Bool) (hb : conR r = b) :
    Calls Tryz.prog 67 #[.pointer (some ⟨B, 0, none⟩), .int .i32 (r : Int)] w fun e w' => e = .returned (.bool b) ∧ Below w.heap.size w w' := by
  have := EncShelf.unicode_Is_any B 0 secondT (r : Int) w (by omega) (by omega) hA second_ok
  have h2 := both_is ⟨r, hr⟩
  rw [first_is ⟨r, hr⟩] at h2
  simp only at h2
  rw [hn, Bool.false_or] at h2
  rw [h2, hb] at this
  exact this

theorem tail_tail (s : ByteArray) (i n : Nat) : (s.extract i s.size).extract n (s.extract i s.size).size = s.extract (i + n) s.size := by
  rw [Lib.tail_size, ByteArray.extract_extract]
  congr 1
  omega

theorem whole (s : ByteArray) : s = s.extract 0 s.size := by
  rw [← Lib.mk_data (s.extract 0 s.size), Lib.extract_data, List.drop_zero, Nat.sub_zero, List.take_of_length_le (by rw [← Lib.size_eq]; exact Nat.le_refl _), Lib.mk_data]

def sizeOfV : Value → Nat
  | .string x => x.size
  | _ => 0

set_option maxHeartbeats 4000000 in
theorem name_any (s : ByteArray) (w : World) (hs : s.size ≤ 1099511627776) (hok : okFrom s s.size 0) (hT : Lib.Utf8Tabs 3 4 w) :
    Calls Tryz.prog 43 #[.string s] w fun e w' => e = .returned (.bool (nameOf s)) ∧ Below w.heap.size w w' := by
  have HT := Aside0.mk hT
  clear hT
  by_cases h0 : s.size = 0
  · have hr : nameOf s = false := by unfold nameOf; rw [h0]; rfl
    rw [hr]
    have hb : ((s.size : Int) == 0) = true := beq_iff_eq.2 (by omega)
    go_enter Tryz.func43, Tryz.ntmps43
    go_wp2_with fail
    go_ret
    exact ⟨rfl, Below.refl _ _⟩
  obtain ⟨f, hf⟩ : ∃ f, s.size = f + 1 := ⟨s.size - 1, by omega⟩
  rw [hf] at hok
  obtain ⟨hn, hr, hok2⟩ := hok (by omega)
  have hw := dec_width s 0
  have hN : nameOf s = (begR (dec s 0).1 && allFrom s f (dec s 0).2) := by
    unfold nameOf
    rw [decide_eq_true (by omega : 0 < s.size), Bool.true_and, hf, Nat.add_sub_cancel]
  rw [hN]
  rw [Nat.zero_add] at hok2
  obtain ⟨r, n, hd⟩ : ∃ r n, dec s 0 = (r, n) := ⟨_, _, rfl⟩
  have HD := Aside0.mk hd
  rw [hd] at hn hr hok2 hw ⊢
  simp only at hn hr hok2 hw ⊢
  have HOK := Aside0.mk hok2
  have HF := Aside0.mk hf
  clear hok2 hd hN hok hf
  have hb0 : ((s.size : Int) == 0) = false := beq_eq_false_iff_ne.2 (by omega)
  have hb1 : ((r : Int) == 65533) = false := beq_eq_false_iff_ne.2 (by omega)
  cases hbeg : begR r with
  | false =>
    have HBEG := Aside0.mk hbeg
    clear hbeg
    go_enter Tryz.func43, Tryz.ntmps43
    go_wp2_with fail
    with_reducible refine (dir_at s 0 r n _ HT.out (by omega) HD.out hn s (whole s)).mono ?_
    rintro e w1 ⟨rfl, hb⟩
    have HB1 := Aside0.mk hb
    clear hb
    go_wp2_with fail
    with_reducible refine (first_any _).mono ?_
    rintro e w2 ⟨B, rfl, hA, hb⟩
    have HA := Aside0.mk hA
    have HB2 := Aside0.mk (below_step HB1.out hb)
    clear hb hA
    go_wp2_with fail
    with_reducible refine (is_first B r _ hr HA.out false HBEG.out).mono ?_
    rintro e w3 ⟨rfl, hb⟩
    have HB3 := Aside0.mk (below_step HB2.out hb)
    clear hb
    go_wp2_with fail
    go_ret
    exact ⟨rfl, HB3.out⟩
  | true =>
    rw [Bool.true_and]
    have HBEG := Aside0.mk hbeg
    clear hbeg
    go_enter Tryz.func43, Tryz.ntmps43
    go_wp2_with fail
    with_reducible refine (dir_at s 0 r n _ HT.out (by omega) HD.out hn s (whole s)).mono ?_
    rintro e w1 ⟨rfl, hb⟩
    have HB1 := Aside0.mk hb
    clear hb
    go_wp2_with fail
    with_reducible refine (first_any _).mono ?_
    rintro e w2 ⟨B, rfl, hA, hb⟩
    have HA := Aside0.mk hA
    have HB2 := Aside0.mk (below_step HB1.out hb)
    clear hb hA
    go_wp2_with fail
    with_reducible refine (is_first B r _ hr HA.out true HBEG.out).mono ?_
    rintro e w3 ⟨rfl, hb⟩
    have HB3 := Aside0.mk (below_step HB2.out hb)
    clear hb HA HB1 HB2 HBEG hb0 hb1
    go_wp2_with fail
    have HR := Aside0.mk (rfl : allFrom s f n = allFrom s f n)
    generalize hANS : allFrom s f n = ans at *
    have HANS := Aside0.mk hANS
    have HQ := Aside0.mk hANS
    clear hANS HR
    go_loopw [0, 4] (fun v0 v4 W => ∃ i m g : Nat, v0 = .string (s.extract i s.size) ∧ v4 = .int .i64 m ∧ i < s.size ∧ m ≠ 0 ∧ i + m ≤ s.size ∧ s.size - (i + m) ≤ g ∧ Aside0 (okFrom s g (i + m)) ∧ Aside0 (allFrom s g (i + m) = ans) ∧ Aside0 (Below w.heap.size w W)) (fun v0 _ _ => sizeOfV v0)
    case atStart => exact ⟨0, n, f, by rw [← whole s], rfl, by omega, hn, by omega, by have := HF.out; omega, by rw [Nat.zero_add]; exact HOK, by rw [Nat.zero_add]; exact HANS, HB3⟩
    case round =>
      clear HD HOK HANS HB3 hn hr hw
      obtain ⟨i, m, gg, rfl, rfl, hi, hm, him, hg, HOK, HANS, HB⟩ := hrel
      have hcs : (s.extract i s.size).size = s.size - i := Lib.tail_size s i
      have htt := tail_tail s i m
      have HCUR := Aside0.mk (rfl : s.extract (i + m) s.size = s.extract (i + m) s.size)
      by_cases hmore : i + m < s.size
      · obtain ⟨g, rfl⟩ : ∃ g, gg = g + 1 := ⟨gg - 1, by omega⟩
        obtain ⟨hn, hr, hok3⟩ := HOK.out (by omega)
        have hans := HANS.out
        unfold allFrom at hans
        rw [if_pos hmore] at hans
        have hw := dec_width s (i + m)
        obtain ⟨r2, n2, hd⟩ : ∃ r2 n2, dec s (i + m) = (r2, n2) := ⟨_, _, rfl⟩
        have HD := Aside0.mk hd
        rw [hd] at hn hr hok3 hw hans
        simp only at hn hr hok3 hw hans
        have HOK3 := Aside0.mk hok3
        have hlt : decide (m < (s.extract i s.size).size) = true := decide_eq_true (by omega)
        have hle : m ≤ (s.extract i s.size).size := by omega
        clear hok3 hd HOK HANS HCUR
        have HNX := Aside0.mk (rfl : s.extract (i + m) s.size = s.extract (i + m) s.size)
        generalize hnx : s.extract (i + m) s.size = nxt at htt
        have HNXT := Aside0.mk hnx
        clear hnx HNX
        have HMEAS := Aside0.mk (show nxt.size < (s.extract i s.size).size by rw [← HNXT.out, Lib.tail_size, hcs]; omega)
        have HCS := Aside0.mk hcs
        clear hcs
        generalize s.extract i s.size = cur at *
        have hb1 : ((r2 : Int) == 65533) = false := beq_eq_false_iff_ne.2 (by omega)
        cases hbeg : begR r2 with
        | true =>
          have hcon : conR r2 = true := by unfold conR; rw [hbeg]; rfl
          rw [hcon, Bool.true_and] at hans
          have HANS := Aside0.mk hans
          have HBEG := Aside0.mk hbeg
          clear hans hbeg hcon
          go_wp2_with fail
          with_reducible refine (dir_at s (i + m) r2 n2 _ (Utf8Tabs_below HT.out HB.out) hmore HD.out hn nxt HNXT.out.symm).mono ?_
          rintro e w4 ⟨rfl, hb⟩
          have HB4 := Aside0.mk (below_step HB.out hb)
          clear hb
          go_wp2_with fail
          with_reducible refine (first_any _).mono ?_
          rintro e w5 ⟨B2, rfl, hA, hb⟩
          have HA := Aside0.mk hA
          have HB5 := Aside0.mk (below_step HB4.out hb)
          clear hb hA
          go_wp2_with fail
          with_reducible refine (is_first B2 r2 _ hr HA.out true HBEG.out).mono ?_
          rintro e w6 ⟨rfl, hb⟩
          have HB6 := Aside0.mk (below_step HB5.out hb)
          clear hb HA HB4 HB5
          go_wp2_with fail
          go_roundw
          case rel => exact ⟨i + m, n2, g, by rw [HNXT.out], rfl, hmore, hn, by omega, by omega, HOK3, HANS, HB6⟩
          case measure => simpa [sizeOfV] using HMEAS.out
        | false =>
          have HBEG := Aside0.mk hbeg
          clear hbeg
          cases hcon : conR r2 with
          | true =>
            rw [hcon, Bool.true_and] at hans
            have HANS := Aside0.mk hans
            have HCON := Aside0.mk hcon
            clear hans hcon
            go_wp2_with fail
            with_reducible refine (dir_at s (i + m) r2 n2 _ (Utf8Tabs_below HT.out HB.out) hmore HD.out hn nxt HNXT.out.symm).mono ?_
            rintro e w4 ⟨rfl, hb⟩
            have HB4 := Aside0.mk (below_step HB.out hb)
            clear hb
            go_wp2_with fail
            with_reducible refine (first_any _).mono ?_
            rintro e w5 ⟨B2, rfl, hA, hb⟩
            have HA := Aside0.mk hA
            have HB5 := Aside0.mk (below_step HB4.out hb)
            clear hb hA
            go_wp2_with fail
            with_reducible refine (is_first B2 r2 _ hr HA.out false HBEG.out).mono ?_
            rintro e w6 ⟨rfl, hb⟩
            have HB6 := Aside0.mk (below_step HB5.out hb)
            clear hb HA
            go_wp2_with fail
            with_reducible refine (second_any _).mono ?_
            rintro e w7 ⟨B3, rfl, hA, hb⟩
            have HA := Aside0.mk hA
            have HB7 := Aside0.mk (below_step HB6.out hb)
            clear hb hA
            go_wp2_with fail
            with_reducible refine (is_second B3 r2 _ hr HA.out HBEG.out true HCON.out).mono ?_
            rintro e w8 ⟨rfl, hb⟩
            have HB8 := Aside0.mk (below_step HB7.out hb)
            clear hb HA HB4 HB5 HB6 HB7
            go_wp2_with fail
            go_roundw
            case rel => exact ⟨i + m, n2, g, by rw [HNXT.out], rfl, hmore, hn, by omega, by omega, HOK3, HANS, HB8⟩
            case measure => simpa [sizeOfV] using HMEAS.out
          | false =>
            rw [hcon, Bool.false_and] at hans
            subst hans
            have HCON := Aside0.mk hcon
            clear hcon
            go_wp2_with fail
            with_reducible refine (dir_at s (i + m) r2 n2 _ (Utf8Tabs_below HT.out HB.out) hmore HD.out hn nxt HNXT.out.symm).mono ?_
            rintro e w4 ⟨rfl, hb⟩
            have HB4 := Aside0.mk (below_step HB.out hb)
            clear hb
            go_wp2_with fail
            with_reducible refine (first_any _).mono ?_
            rintro e w5 ⟨B2, rfl, hA, hb⟩
            have HA := Aside0.mk hA
            have HB5 := Aside0.mk (below_step HB4.out hb)
            clear hb hA
            go_wp2_with fail
            with_reducible refine (is_first B2 r2 _ hr HA.out false HBEG.out).mono ?_
            rintro e w6 ⟨rfl, hb⟩
            have HB6 := Aside0.mk (below_step HB5.out hb)
            clear hb HA
            go_wp2_with fail
            with_reducible refine (second_any _).mono ?_
            rintro e w7 ⟨B3, rfl, hA, hb⟩
            have HA := Aside0.mk hA
            have HB7 := Aside0.mk (below_step HB6.out hb)
            clear hb hA
            go_wp2_with fail
            with_reducible refine (is_second B3 r2 _ hr HA.out HBEG.out false HCON.out).mono ?_
            rintro e w8 ⟨rfl, hb⟩
            have HB8 := Aside0.mk (below_step HB7.out hb)
            clear hb HA HB4 HB5 HB6 HB7
            go_wp2_with fail
            go_ret
            exact ⟨by rw [HQ.out]; rfl, HB8.out⟩
      · have hans := HANS.out
        have hone : allFrom s gg (i + m) = true := by
          cases gg with
          | zero => rfl
          | succ g => unfold allFrom; rw [if_neg hmore]
        rw [hone] at hans
        subst hans
        have hlt : decide (m < (s.extract i s.size).size) = false := decide_eq_false (by omega)
        clear htt hcs
        generalize s.extract i s.size = cur at *
        go_wp2_with fail
        go_ret
        exact ⟨by rw [HQ.out]; rfl, HB.out⟩

end Go.Proofs.YtjoahpmalhmjkaaGreatDoor.IsWalk
