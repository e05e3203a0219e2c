/- What is proved here: the reader's reference at each of the eight references, and the reader's data, where characters and references stand in turn; conditions: those that each theorem names. -/
import Derived.Test.YtfchmbhbkhgfnaaDoorPlainRef
namespace Go.Proofs.YtfchmbhbkhgfnaaDoor.PlainSt
open Go.RowKit Go.Proofs.YtfchmbhbkhgfnaaDoorW.PrintWords Go.Proofs.YtfchmbhbkhgfnaaDoorW.PrintLast Go.Proofs.YtfchmbhbkhgfnaaDoorW.PrintMore
open Go.Proofs.YtfchmbhbkhgfnaaDoor.EscPure Go.Proofs.YtfchmbhbkhgfnaaDoor.EscDec Go.Proofs.YtfchmbhbkhgfnaaDoor.PFnEscapePlain
attribute [local go_sem] max2_int min2_int max_two min_two max_three min_three max_four min_four
set_option linter.unusedVariables false
set_option linter.unusedSimpArgs false

theorem bt_piece (e : ByteArray) (i : Nat) (p : List UInt8) (h : (e.data.toList.drop i).take p.length = p) (m : Nat) (hm : m < p.length) : bt e ((i + m : Nat) : Int) = ((p.getD m 0).toNat : Int) := by
  rw [bt_get, ← Lib.getD_get!', ← h, List.getD_eq_getElem?_getD, List.getD_eq_getElem?_getD, List.getElem?_take_of_lt hm, List.getElem?_drop]

theorem named_of (e : ByteArray) (i : Nat) (p : List UInt8) (nm : ByteArray) (h : (e.data.toList.drop i).take p.length = p) (hi : i + p.length ≤ e.size) (hl : 2 ≤ p.length) (h59 : (p.getD (p.length - 1) 0).toNat = 59)
    (hno : ∀ m, m < p.length - 1 → (p.getD m 0).toNat ≠ 59) (hnm : (p.drop 1).take (p.length - 2) = nm.data.toList) : Named e (i + 1) (i + (p.length - 1)) nm := by
  refine ⟨by omega, by omega, ?_, ?_, ?_⟩
  · rw [bt_piece e i p h _ (by omega), h59]
    rfl
  · intro n h1 h2
    obtain ⟨m, rfl⟩ : ∃ m, n = i + m := ⟨n - i, by omega⟩
    rw [bt_piece e i p h m (by omega)]
    have := hno m (by omega)
    omega
  · rw [← Lib.mk_data (e.extract (i + 1) (i + (p.length - 1))), ← Lib.mk_data nm, Lib.extract_data, ← hnm]
    have hq : (p.drop 1).take (p.length - 2) = (((e.data.toList.drop i).take p.length).drop 1).take (p.length - 2) := by rw [h]
    rw [hq, List.drop_take, List.drop_drop, List.take_take, show i + (p.length - 1) - (i + 1) = min (p.length - 2) (p.length - 1) by omega]

theorem ref_any (w0 w : World) (g : Nat) (e : ByteArray) (i : Nat) (p : List UInt8) (v5 : Value) (hP : PS w0 w g e (i + 1) v5) (he : e.size < 9223372036854775808) (hp : p ∈ refs)
    (h : (e.data.toList.drop i).take p.length = p) (hi : i + p.length ≤ e.size) :
    ∃ t : ByteArray, t.size = 1 ∧ PFnEscapePlain.spec_Chars.f 20 t = some true ∧
      Calls Tryd.prog 40 #[.pointer (some ⟨g, 0, none⟩)] w fun x w' => x = .returned (.tuple #[.string t, .bool true]) ∧ PS w0 w' g e (i + p.length) v5 := by
  simp only [refs, List.mem_cons, List.not_mem_nil, or_false] at hp
  rcases hp with rfl | rfl | rfl | rfl | rfl | rfl | rfl | rfl
  · exact ⟨⟨#[34]⟩, rfl, by decide +kernel, ref_num w0 w g e (i + 1) (i + 4) ⟨#[35, 51, 52]⟩ v5 34 20 ⟨#[34]⟩ hP he (named_of e i _ _ h hi (by decide) (by decide) (by decide) (by decide)) (by decide +kernel) (by decide) (by decide +kernel) (by decide +kernel) (by decide +kernel)⟩
  · exact ⟨⟨#[39]⟩, rfl, by decide +kernel, ref_num w0 w g e (i + 1) (i + 4) ⟨#[35, 51, 57]⟩ v5 39 20 ⟨#[39]⟩ hP he (named_of e i _ _ h hi (by decide) (by decide) (by decide) (by decide)) (by decide +kernel) (by decide) (by decide +kernel) (by decide +kernel) (by decide +kernel)⟩
  · exact ⟨⟨#[38]⟩, rfl, by decide +kernel, ref_name w0 w g e (i + 1) (i + 4) ⟨#[97, 109, 112]⟩ v5 20 ⟨#[38]⟩ hP he (named_of e i _ _ h hi (by decide) (by decide) (by decide) (by decide)) (by decide +kernel) (by decide) (by decide +kernel) 2 (by decide) rfl (by decide +kernel) rfl⟩
  · exact ⟨⟨#[60]⟩, rfl, by decide +kernel, ref_name w0 w g e (i + 1) (i + 3) ⟨#[108, 116]⟩ v5 20 ⟨#[60]⟩ hP he (named_of e i _ _ h hi (by decide) (by decide) (by decide) (by decide)) (by decide +kernel) (by decide) (by decide +kernel) 0 (by decide) rfl (by decide +kernel) rfl⟩
  · exact ⟨⟨#[62]⟩, rfl, by decide +kernel, ref_name w0 w g e (i + 1) (i + 3) ⟨#[103, 116]⟩ v5 20 ⟨#[62]⟩ hP he (named_of e i _ _ h hi (by decide) (by decide) (by decide) (by decide)) (by decide +kernel) (by decide) (by decide +kernel) 1 (by decide) rfl (by decide +kernel) rfl⟩
  · exact ⟨⟨#[9]⟩, rfl, by decide +kernel, ref_num w0 w g e (i + 1) (i + 4) ⟨#[35, 120, 57]⟩ v5 9 20 ⟨#[9]⟩ hP he (named_of e i _ _ h hi (by decide) (by decide) (by decide) (by decide)) (by decide +kernel) (by decide) (by decide +kernel) (by decide +kernel) (by decide +kernel)⟩
  · exact ⟨⟨#[10]⟩, rfl, by decide +kernel, ref_num w0 w g e (i + 1) (i + 4) ⟨#[35, 120, 65]⟩ v5 10 20 ⟨#[10]⟩ hP he (named_of e i _ _ h hi (by decide) (by decide) (by decide) (by decide)) (by decide +kernel) (by decide) (by decide +kernel) (by decide +kernel) (by decide +kernel)⟩
  · exact ⟨⟨#[13]⟩, rfl, by decide +kernel, ref_num w0 w g e (i + 1) (i + 4) ⟨#[35, 120, 68]⟩ v5 13 20 ⟨#[13]⟩ hP he (named_of e i _ _ h hi (by decide) (by decide) (by decide) (by decide)) (by decide +kernel) (by decide) (by decide +kernel) (by decide +kernel) (by decide +kernel)⟩

/-- Behind a reference. -/
theorem data_ref (w0 w : World) (g : Nat) (e : ByteArray) (i : Nat) (p : List UInt8) (v5 : Value) (hP : PS w0 w g e i v5) (he : e.size < 9223372036854775808) (hp : p ∈ refs)
    (h : (e.data.toList.drop i).take p.length = p) (hi : i + p.length ≤ e.size) :
    Calls Tryd.prog 26 #[.pointer (some ⟨g, 0, none⟩)] w fun x w' => ∃ t : ByteArray, t.size ≤ 4 ∧ x = .returned (.tuple #[.string t, .bool true]) ∧ PS w0 w' g e (i + p.length) v5 := by
  have h38 : (e.data.toList.drop i).take 1 = [38] := by
    have h1 : p.take 1 = [38] := by
      revert hp
      have : ∀ q ∈ refs, q.take 1 = [38] := by decide
      exact this p
    have h2 : 1 ≤ p.length := by
      revert hp
      have : ∀ q ∈ refs, 1 ≤ q.length := by decide
      exact this p
    rw [← h, List.take_take, show min 1 p.length = 1 by omega] at h1
    exact h1
  have hl : 1 ≤ p.length := by
    revert hp
    have : ∀ q ∈ refs, 1 ≤ q.length := by decide
    exact this p
  have HP := Aside0.mk hP
  have HR := Aside0.mk (show ∀ W, PS w0 W g e (i + 1) v5 → ∃ t : ByteArray, t.size = 1 ∧ PFnEscapePlain.spec_Chars.f 20 t = some true ∧
      Calls Tryd.prog 40 #[.pointer (some ⟨g, 0, none⟩)] W fun x w' => x = .returned (.tuple #[.string t, .bool true]) ∧ PS w0 w' g e (i + p.length) v5 from fun W hW => ref_any w0 W g e i p v5 hW he hp h hi)
  have H38 := Aside0.mk (show (e.data.toList.drop i).take (⟨#[38]⟩ : ByteArray).size = (⟨#[38]⟩ : ByteArray).data.toList from h38)
  have HSZ := Aside0.mk (show i + (⟨#[38]⟩ : ByteArray).size ≤ e.size from (by omega : i + 1 ≤ e.size))
  clear hP hp h h38
  go_enter Tryd.func26, Tryd.ntmps26
  go_wp2_with fail
  with_reducible refine (has_yes w0 w g e i v5 (⟨#[38]⟩ : ByteArray) HP.out he HSZ.out H38.out).mono ?_
  rintro x1 w1 ⟨rfl, hp1⟩
  have HP1 := Aside0.mk (show PS w0 w1 g e (i + 1) v5 from hp1)
  clear hp1 HP
  obtain ⟨t, ht1, htc, hcall⟩ := HR.out w1 HP1.out
  have HC := Aside0.mk hcall
  have HT := Aside0.mk htc
  clear hcall htc
  go_wp2_with fail
  with_reducible refine HC.out.mono ?_
  rintro x2 w2 ⟨rfl, hp2⟩
  have HP2 := Aside0.mk hp2
  clear hp2
  go_wp2_with fail
  with_reducible refine (PFnEscapePlain.spec_Chars.calls 20 t true _ HT.out).mono ?_
  rintro x3 w3 ⟨rfl, hd⟩
  have HP3 := Aside0.mk (PS.drawn HP2.out hd)
  clear hd
  go_wp2_with fail
  go_ret2
  exact ⟨t, by omega, rfl, HP3.out⟩

set_option maxHeartbeats 2000000 in
/-- Behind a character. -/
theorem data_chr (w0 w : World) (g : Nat) (e : ByteArray) (i r n : Nat) (v5 : Value) (hP : PS w0 w g e i v5) (he : e.size ≤ 1099511627776) (hi : i < e.size) (h38 : (e.get! i).toNat ≠ 38)
    (hd : dec e i = (r, n)) (hn : n ≠ 0) (hr : isChar r = true) :
    Calls Tryd.prog 26 #[.pointer (some ⟨g, 0, none⟩)] w fun x w' => ∃ t : ByteArray, t.size ≤ 4 ∧ x = .returned (.tuple #[.string t, .bool true]) ∧ PS w0 w' g e (i + n) v5 := by
  have hnw := dec_width e i
  have hrl := dec_rune e i
  rw [hd] at hnw hrl
  simp only at hnw hrl
  have hne : (e.data.toList.drop i).take 1 ≠ [38] := by
    intro h
    have h1 : e.get! i = 38 := by
      rw [← Lib.getD_get!']
      have h2 : ((e.data.toList.drop i).take 1)[0]? = some 38 := by rw [h]; rfl
      rw [List.getElem?_take_of_lt (by omega), List.getElem?_drop, Nat.add_zero] at h2
      rw [List.getD_eq_getElem?_getD, h2]
      rfl
    rw [h1] at h38
    exact h38 rfl
  obtain ⟨k, hk⟩ := decode_tells (e.extract i e.size) (by rw [Lib.tail_size]; omega)
  have hk2 := hk k (Nat.le_refl k)
  rw [dec_tail, hd] at hk2
  have HK := Aside0.mk hk2
  have HC := Aside0.mk ((isChar_is r (by omega)).trans (by rw [hr]))
  have HP := Aside0.mk hP
  have HNE := Aside0.mk (show (e.data.toList.drop i).take (⟨#[38]⟩ : ByteArray).size ≠ (⟨#[38]⟩ : ByteArray).data.toList from hne)
  have HSZ := Aside0.mk (show i + (⟨#[38]⟩ : ByteArray).size ≤ e.size from (by omega : i + 1 ≤ e.size))
  have HX := Aside0.mk (show ((i : Int) + (n : Int)) = ((i + n : Nat) : Int) by omega)
  clear hk hk2 hne hP hr hd
  go_enter Tryd.func26, Tryd.ntmps26
  go_wp2_with fail
  with_reducible refine (has_other w0 w g e i v5 (⟨#[38]⟩ : ByteArray) HP.out (by omega) HSZ.out HNE.out).mono ?_
  rintro x1 w1 ⟨rfl, hp1⟩
  have HP1 := Aside0.mk hp1
  clear hp1 HP
  have h0 := HP1.out.c0
  have h1 := HP1.out.c1
  have f0 := HP1.out.fz 0
  have f1 := HP1.out.fz 1
  go_wp2_with fail
  have c5 : (0 : Int) ≤ (i : Int) := by omega
  have c6 : (i : Int) ≤ (e.size : Int) := by omega
  have hxx : e.extract ((i : Int)).toNat e.size = e.extract i e.size := by rw [show ((i : Int)).toNat = i by omega]
  generalize hES : e.extract i e.size = s at *
  clear hES
  have HX2 := HX
  clear HX
  have hnb : ((n : Int) == 0) = false := beq_eq_false_iff_ne.2 (by omega)
  have d1 : (0 : Int) ≤ ((i + n : Nat) : Int) - (n : Int) := by omega
  have d2 : ((i + n : Nat) : Int) - (n : Int) ≤ ((i + n : Nat) : Int) := by omega
  have d3 : ((i + n : Nat) : Int) ≤ (e.size : Int) := by omega
  have d4 : wrap64 (((i + n : Nat) : Int) - (n : Int)) = ((i + n : Nat) : Int) - (n : Int) := by unfold wrap64; omega
  have d5 : wrap64 ((i : Int) + (n : Int)) = (i : Int) + (n : Int) := by unfold wrap64; omega
  have HT := Aside0.mk (show (e.extract ((((i + n : Nat) : Int) - (n : Int))).toNat (((i + n : Nat) : Int)).toNat).size ≤ 4 by
    rw [show ((((i + n : Nat) : Int) - (n : Int))).toNat = i by omega, show (((i + n : Nat) : Int)).toNat = i + n by omega, ByteArray.size_extract]
    omega)
  generalize hz : (((i + n : Nat) : Int)) = z at *
  have HZ := Aside0.mk hz
  clear hz
  generalize hxi : ((i : Nat) : Int) = x at h1 c5 c6 hxx HX2 d5
  have HXI := Aside0.mk hxi
  clear hxi
  generalize ((n : Nat) : Int) = m at HK HX2 hnb d1 d2 d4 d5 HT
  generalize ((r : Nat) : Int) = rr at HK HC
  have c5b0 := eq_true c5
  have c5b1 := decide_eq_true c5
  have c6b0 := eq_true c6
  have c6b1 := decide_eq_true c6
  go_quiet (first | (go_at_call 8; refine Calls.quiet_of ((PFnEscapeParts.spec_Decode.calls k s rr m _ HK.out).mono fun _ _ h => ⟨h.1, h.2.out⟩)))
  have HP2 := Aside0.mk (PS.drewN HP1.out nq)
  clear h0 h1 f0 f1 c5 c6 c5b0 c5b1 c6b0 c6b1 HP1
  generalize w1.drewN nq = w2 at *
  go_wp2_with fail
  with_reducible refine (PFnEscapeParts.spec_IsChar.calls rr true _ HC.out).mono ?_
  rintro x2 w3 ⟨rfl, hd⟩
  have HP3 := Aside0.mk (PS.drawn HP2.out hd)
  clear hd HP2
  have h1 := HP3.out.c1
  rw [HXI.out] at h1
  have f1 := HP3.out.fz 1
  go_wp2_with fail
  have HP4 := Aside0.mk (PS.goto HP3.out _ _ (HX2.out.trans HZ.out.symm))
  generalize w3.setCell _ _ = w4 at *
  clear h1 f1 HP3
  have h0 := HP4.out.c0
  have h1 := HP4.out.c1
  rw [HZ.out] at h1
  have f0 := HP4.out.fz 0
  have f1 := HP4.out.fz 1
  rw [← d4] at d1 d2 HT
  have d1b := eq_true d1
  have d1c := decide_eq_true d1
  have d2b := eq_true d2
  have d2c := decide_eq_true d2
  have d3b := eq_true d3
  have d3c := decide_eq_true d3
  clear d4 d5
  go_quiet (fail)
  go_wp2_with fail
  go_ret2
  exact ⟨_, HT.out, rfl, PS.drewN HP4.out _⟩

end Go.Proofs.YtfchmbhbkhgfnaaDoor.PlainSt
