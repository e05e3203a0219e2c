/- What is proved here: the reader's text, token and Read over a text of characters and references alone end well; conditions: those that each theorem names. -/
import Derived.Test.YtfchmbhbkhgfnaaDoorPlainAny
import Derived.Test.YtfchmbhbkhgfnaaDoorPlainAdd
namespace Go.Proofs.YtfchmbhbkhgfnaaDoor.PlainSt
open Go.RowKit Go.Proofs.YtfchmbhbkhgfnaaDoorW.PrintWords Go.Proofs.YtfchmbhbkhgfnaaDoorW.PrintLast Go.Proofs.YtfchmbhbkhgfnaaDoorW.PrintMore
open Go.Proofs.YtfchmbhbkhgfnaaDoor.EscPure Go.Proofs.YtfchmbhbkhgfnaaDoor.EscDec Go.Proofs.YtfchmbhbkhgfnaaDoor.PFnEscapePlain
attribute [local go_sem] max2_int min2_int max_two min_two max_three min_three max_four min_four
set_option linter.unusedVariables false
set_option linter.unusedSimpArgs false

theorem ended_drawn (w0 w : World) (g : Nat) (e : ByteArray) (a : Nat) (v5 : Value) (b : Bool) (h : PS w0 w g e a v5) (hb : decide (e.size ≤ a) = b) :
    Calls Tryd.prog 11 #[.pointer (some ⟨g, 0, none⟩)] w fun x w' => x = .returned (.bool b) ∧ ∃ n, w' = w.drewN n := by
  have h0 := h.c0
  have h1 := h.c1
  have f0 := h.fz 0
  have f1 := h.fz 1
  subst hb
  clear h
  go_enter Tryd.func11, Tryd.ntmps11
  go_wp2
  repeat (go_quiet (fail); try go_wp2)
  go_ret
  exact ⟨by simp, _, rfl⟩

theorem has_bad (w0 w : World) (g : Nat) (e : ByteArray) (a : Nat) (v5 : Value) (s : ByteArray) (h : PS w0 w g e a v5) (he : e.size < 9223372036854775808) (ha : a ≤ e.size) (hbad : ∀ x ∈ e.data.toList, x ∉ bad)
    (b : UInt8) (hb : b ∈ bad) (hs : b ∈ s.data.toList) :
    Calls Tryd.prog 15 #[.pointer (some ⟨g, 0, none⟩), .string s] w fun x w' => x = .returned (.bool false) ∧ PS w0 w' g e a v5 := by
  by_cases hl : e.size - a < s.size
  · exact has_short w0 w g e a v5 s h ha he hl
  · refine has_other w0 w g e a v5 s h he (by omega) fun heq => ?_
    rw [← heq] at hs
    exact hbad b (List.mem_of_mem_drop (List.mem_of_mem_take hs)) hb

theorem data_step (w0 : World) (g : Nat) (e : ByteArray) (i : Nat) (v5 : Value) (he : e.size ≤ 1099511627776) (hi : i < e.size) (hT : T e i) :
    ∃ i', i < i' ∧ i' ≤ e.size ∧ T e i' ∧ ∀ W, PS w0 W g e i v5 →
      Calls Tryd.prog 26 #[.pointer (some ⟨g, 0, none⟩)] W fun x w' => ∃ t : ByteArray, t.size ≤ 4 ∧ x = .returned (.tuple #[.string t, .bool true]) ∧ PS w0 w' g e i' v5 := by
  cases hT with
  | stop => omega
  | ref _ p hp h hl t =>
    have hpl : 1 ≤ p.length := by
      have : ∀ q ∈ refs, 1 ≤ q.length := by decide
      exact this p hp
    exact ⟨_, by omega, hl, t, fun W hW => data_ref w0 W g e i p v5 hW (by omega) hp h hl⟩
  | chr _ _ h38 hn hc t =>
    have hw := dec_width e i
    exact ⟨_, by omega, by omega, t, fun W hW => data_chr w0 W g e i (dec e i).1 (dec e i).2 v5 hW he hi h38 rfl hn hc⟩

/-- How much is left to be read. -/
def left (e : ByteArray) (g : Nat) (W : World) : Nat := e.size - (intOf ((W.cell? ⟨g, 1, none⟩).getD undef)).toNat
theorem left_is {w0 W : World} {g : Nat} {e : ByteArray} {a : Nat} {v5 : Value} (h : PS w0 W g e a v5) : left e g W = e.size - a := by
  unfold left
  rw [h.c1]
  simp [intOf]

set_option maxHeartbeats 4000000 in
theorem text_any (w0 w : World) (g : Nat) (e : ByteArray) (hP : PS w0 w g e 0 (.slice none 0 0)) (he : e.size ≤ 1099511627776) (hT : T e 0) (hbad : ∀ x ∈ e.data.toList, x ∉ bad) :
    Calls Tryd.prog 14 #[.pointer (some ⟨g, 0, none⟩)] w fun x w' => x = .returned (.bool true) ∧ ∃ v, PS w0 w' g e e.size v := by
  have HP := Aside0.mk hP
  have HT := Aside0.mk hT
  have HBAD := Aside0.mk hbad
  clear hP hT hbad
  go_enter Tryd.func14, Tryd.ntmps14
  go_wp2_with fail
  go_loopw [3] (fun v3 W => ∃ (i : Nat) (o : ByteArray), v3 = .string o ∧ o.size ≤ 4 * i ∧ i ≤ e.size ∧ Aside0 (PS w0 W g e i (.slice none 0 0)) ∧ Aside0 (T e i)) (fun _ W => left e g W)
  case atStart => exact ⟨0, ⟨#[]⟩, rfl, Nat.le_refl _, Nat.zero_le _, HP, HT⟩
  case round =>
    clear HP HT
    obtain ⟨i, o, rfl, ho, hi, HP, HT⟩ := hrel
    have h0 := HP.out.c0
    have h1 := HP.out.c1
    have f0 := HP.out.fz 0
    have f1 := HP.out.fz 1
    by_cases hie : i < e.size
    · have hx := bt_at e (i : Int)
      rw [Int.toNat_natCast] at hx
      have hr := bt_range e (i : Int)
      have hnb : bt e (i : Int) ≠ 60 := by
        intro h
        have h2 := HBAD.out (e.data.toList[i]'(by rw [← Lib.size_eq]; exact hie)) (List.getElem_mem _)
        rw [bt_get, ← Lib.getD_get!', List.getD_eq_getElem?_getD, List.getElem?_eq_getElem (by rw [← Lib.size_eq]; exact hie), Option.getD_some] at h
        have h3 : (e.data.toList[i]'(by rw [← Lib.size_eq]; exact hie)) = 60 := UInt8.toNat_inj.1 (by have : (60 : UInt8).toNat = 60 := rfl; omega)
        rw [h3] at h2
        exact h2 (by decide)
      generalize hcc : bt e (i : Int) = c at *
      have hc1 : (c == 60) = false := beq_eq_false_iff_ne.2 hnb
      have hc2 : (c != 60) = true := bne_iff_ne.2 hnb
      clear hnb hcc
      obtain ⟨i', hlt, hle, hT', hcall⟩ := data_step w0 g e i (.slice none 0 0) he hie HT.out
      have HT2 := Aside0.mk hT'
      have HCALL := Aside0.mk hcall
      have HEND := Aside0.mk (show decide (e.size ≤ i) = false from decide_eq_false (by omega))
      clear hT' hcall HT
      go_wp2_with fail
      go_quiet (first | (go_at_call 11; refine Calls.quiet_of (ended_drawn w0 _ g e i _ false (PS.drewN HP.out _) HEND.out)))
      have HP1 := Aside0.mk (PS.drewN HP.out nq)
      have HM := Aside0.mk (left_is HP.out)
      clear h0 h1 f0 f1 HP hx hr hc1 hc2
      generalize wr.drewN nq = w1 at *
      go_wp2_with fail
      with_reducible refine (has_bad w0 w1 g e i _ (⟨#[93, 93, 62]⟩ : ByteArray) HP1.out (by omega) hi HBAD.out 62 (by decide) (by decide)).mono ?_
      rintro x1 w2 ⟨rfl, hp⟩
      have HP2 := Aside0.mk hp
      clear hp HP1
      go_wp2_with fail
      with_reducible refine (has_bad w0 w2 g e i _ (⟨#[13, 10]⟩ : ByteArray) HP2.out (by omega) hi HBAD.out 13 (by decide) (by decide)).mono ?_
      rintro x2 w3 ⟨rfl, hp⟩
      have HP3 := Aside0.mk hp
      clear hp HP2
      go_wp2_with fail
      with_reducible refine (has_bad w0 w3 g e i _ (⟨#[13]⟩ : ByteArray) HP3.out (by omega) hi HBAD.out 13 (by decide) (by decide)).mono ?_
      rintro x3 w4 ⟨rfl, hp⟩
      have HP4 := Aside0.mk hp
      clear hp HP3
      go_wp2_with fail
      with_reducible refine (HCALL.out w4 HP4.out).mono ?_
      rintro x4 w5 ⟨t, ht, rfl, hp⟩
      have HP5 := Aside0.mk hp
      clear hp HP4
      have hsum : o.size + t.size ≤ 9223372036854775807 := by omega
      go_wp2_with fail
      go_roundw
      case rel => exact ⟨i', o ++ t, by simp, by rw [ByteArray.size_append]; omega, hle, HP5, HT2⟩
      case measure => rw [left_is HP5.out, HM.out]; omega
    · have hie2 : i = e.size := by omega
      have HEND := Aside0.mk (show decide (e.size ≤ i) = true from decide_eq_true (by omega))
      go_wp2_with fail
      go_quiet (first | (go_at_call 11; refine Calls.quiet_of (ended_drawn w0 _ g e i _ true (PS.drewN HP.out _) HEND.out)))
      have HP1 := Aside0.mk (PS.drewN HP.out nq)
      clear h0 h1 f0 f1 HP
      generalize wr.drewN nq = w1 at *
      go_wp2_with fail
      with_reducible refine (add_any w0 w1 g e i o HP1.out).mono ?_
      rintro x1 w2 ⟨rfl, v, hp⟩
      rw [hie2] at hp
      have HP2 := Aside0.mk hp
      clear hp
      go_wp2_with fail
      go_ret
      exact ⟨rfl, v, HP2.out⟩

theorem token_any (w0 w : World) (g : Nat) (e : ByteArray) (hP : PS w0 w g e 0 (.slice none 0 0)) (he : e.size ≤ 1099511627776) (h0e : 0 < e.size) (hT : T e 0) (hbad : ∀ x ∈ e.data.toList, x ∉ bad) :
    Calls Tryd.prog 12 #[.pointer (some ⟨g, 0, none⟩)] w fun x w' => x = .returned (.bool true) ∧ ∃ v, PS w0 w' g e e.size v := by
  have HP := Aside0.mk hP
  have HC := Aside0.mk (show ∀ W, PS w0 W g e 0 (.slice none 0 0) → Calls Tryd.prog 14 #[.pointer (some ⟨g, 0, none⟩)] W fun x w' => x = .returned (.bool true) ∧ ∃ v, PS w0 w' g e e.size v from fun W h => text_any w0 W g e h he hT hbad)
  have h0 := HP.out.c0
  have h1 := HP.out.c1
  have f0 := HP.out.fz 0
  have f1 := HP.out.fz 1
  have hx := bt_at e ((0 : Nat) : Int)
  rw [Int.toNat_natCast] at hx
  have hr := bt_range e ((0 : Nat) : Int)
  have hnb : bt e ((0 : Nat) : Int) ≠ 60 := by
    intro h
    have h2 := hbad (e.data.toList[0]'(by rw [← Lib.size_eq]; exact h0e)) (List.getElem_mem _)
    rw [bt_get, ← Lib.getD_get!', List.getD_eq_getElem?_getD, List.getElem?_eq_getElem (by rw [← Lib.size_eq]; exact h0e), Option.getD_some] at h
    have h3 : (e.data.toList[0]'(by rw [← Lib.size_eq]; exact h0e)) = 60 := UInt8.toNat_inj.1 (by have : (60 : UInt8).toNat = 60 := rfl; omega)
    rw [h3] at h2
    exact h2 (by decide)
  generalize hcc : bt e ((0 : Nat) : Int) = c at *
  have hc1 : (c == 60) = false := beq_eq_false_iff_ne.2 hnb
  have hc2 : (c != 60) = true := bne_iff_ne.2 hnb
  clear hnb hcc hP hT hbad
  go_enter Tryd.func12, Tryd.ntmps12
  go_wp2_with fail
  go_quiet (fail)
  have HP1 := Aside0.mk (PS.drewN HP.out nq)
  clear h0 h1 f0 f1 HP hx hr hc1 hc2
  generalize w.drewN nq = w1 at *
  go_wp2_with fail
  with_reducible refine (HC.out w1 HP1.out).mono ?_
  rintro x1 w2 ⟨rfl, v, hp⟩
  have HP2 := Aside0.mk hp
  clear hp
  go_wp2_with fail
  go_ret
  exact ⟨rfl, v, HP2.out⟩

theorem PS.start (w : World) (e : ByteArray) : PS w (w.alloc (.cells #[.string e, .int .i64 0, .bool false, .slice none 0 0, .string ⟨#[]⟩, .slice none 0 0, .slice none 0 0, .slice none 0 0, .int .i64 0] 43)) w.heap.size e 0 (.slice none 0 0) :=
  ⟨heap_alloc_new w _, Nat.le_refl _, below_alloc (Below.refl _ _) _⟩

set_option maxHeartbeats 4000000 in
theorem read_any (w : World) (e : ByteArray) (he : e.size ≤ 1099511627776) (hT : T e 0) (hbad : ∀ x ∈ e.data.toList, x ∉ bad) :
    Calls Tryd.prog 7 #[.string e, .bool false, .slice none 0 0, .string ⟨#[]⟩] w fun x w' => ∃ v, x = .returned (.tuple #[v, .int .i64 0]) ∧ Below w.heap.size w w' := by
  have HC := Aside0.mk (show ∀ W g, 0 < e.size → PS w W g e 0 (.slice none 0 0) → Calls Tryd.prog 12 #[.pointer (some ⟨g, 0, none⟩)] W fun x w' => x = .returned (.bool true) ∧ ∃ v, PS w w' g e e.size v from fun W g h0 h => token_any w W g e h he h0 hT hbad)
  have HP := Aside0.mk (PS.start w e)
  clear hT hbad
  go_enter Tryd.func7, Tryd.ntmps7
  go_wp2_with fail
  generalize w.alloc _ = w1 at *
  generalize w.heap.size = g at HP ⊢
  go_loopw [17] (fun _ W => ∃ (i : Nat) (v : Value), Aside0 (PS w W g e i v) ∧ Aside0 (i = e.size ∨ (i = 0 ∧ v = .slice none 0 0))) (fun _ W => left e g W)
  case atStart => exact ⟨0, _, HP, ⟨.inr ⟨rfl, rfl⟩⟩⟩
  case round =>
    clear HP
    obtain ⟨i, v, HP, HOR⟩ := hrel
    have HM := Aside0.mk (left_is HP.out)
    by_cases hie : i < e.size
    · obtain ⟨rfl, rfl⟩ : i = 0 ∧ v = .slice none 0 0 := by
        rcases HOR.out with h | h
        · omega
        · exact h
      go_wp2_with fail
      with_reducible refine (ended_any w wr g e 0 _ HP.out).mono ?_
      rintro x1 w2 ⟨rfl, hp⟩
      have HP2 := Aside0.mk hp
      have hdec : decide (e.size ≤ 0) = false := decide_eq_false (by omega)
      rw [hdec]
      clear hp hdec HP
      go_wp2_with fail
      with_reducible refine (HC.out w2 g hie HP2.out).mono ?_
      rintro x2 w3 ⟨rfl, v, hp⟩
      have HP3 := Aside0.mk hp
      clear hp HP2
      go_wp2_with fail
      go_roundw
      case rel => exact ⟨e.size, v, HP3, ⟨.inl rfl⟩⟩
      case measure => rw [left_is HP3.out, HM.out]; omega
    · have hie2 : e.size ≤ i := by omega
      go_wp2_with fail
      with_reducible refine (ended_any w wr g e i _ HP.out).mono ?_
      rintro x1 w2 ⟨rfl, hp⟩
      have HP2 := Aside0.mk hp
      have hdec : decide (e.size ≤ i) = true := decide_eq_true hie2
      rw [hdec]
      clear hp hdec HP
      have h5 := HP2.out.c5
      have h6 := HP2.out.c6
      have f5 := HP2.out.fz 5
      have f6 := HP2.out.fz 6
      go_wp2_with fail
      go_ret2
      exact ⟨v, rfl, HP2.out.2.2⟩

end Go.Proofs.YtfchmbhbkhgfnaaDoor.PlainSt
