/- What is proved here: the call of the statement on escaped texts returns true, at every text; condition: the tables of unicode/utf8 as laid. -/
import Derived.Test.YtfchmbhbkhgfnaaDoorEscImpl
import Derived.Test.YtfchmbhbkhgfnaaDoorPlainText
namespace Go.Proofs.YtfchmbhbkhgfnaaDoor.PlainLaw
open Go.RowKit Go.Proofs.YtfchmbhbkhgfnaaDoorW.PrintWords Go.Proofs.YtfchmbhbkhgfnaaDoorW.PrintLast Go.Proofs.YtfchmbhbkhgfnaaDoorW.PrintMore
open Go.Proofs.YtfchmbhbkhgfnaaDoor.EscPure Go.Proofs.YtfchmbhbkhgfnaaDoor.Esc Go.Proofs.YtfchmbhbkhgfnaaDoor.EscDec Go.Proofs.YtfchmbhbkhgfnaaDoor.PlainSt
set_option linter.unusedVariables false
set_option linter.unusedSimpArgs false

theorem impl_is (s r : ByteArray) (w : World) (hs : s.size ≤ 1000000) (h : Lib.Utf8Tabs 0 1 w) (hr : r = ⟨(esc s).toArray⟩) :
    Calls Tryd.prog 6 #[.string s] w fun e W' => e = .returned (.string r) ∧ Below w.heap.size w W' := by
  rw [hr]
  exact impl_any s w hs h

theorem esc_a : (⟨#[97]⟩ : ByteArray) = ⟨(esc ⟨#[97]⟩).toArray⟩ := by decide +kernel

theorem esc_size (s : ByteArray) : (⟨(esc s).toArray⟩ : ByteArray).size ≤ 5 * s.size := by
  show (esc s).toArray.size ≤ 5 * s.size
  rw [List.size_toArray]
  exact escFrom_length s s.size 0

/-- No byte of the text is one of those that the statement names. -/
theorem byte_good (e : ByteArray) (h : ∀ x ∈ e.data.toList, x ∉ bad) (i : Nat) (hi : i < e.size) (n : UInt8) (hn : n ∈ bad) : bt e (i : Int) ≠ (n.toNat : Int) := by
  intro hb
  have h2 := h (e.data.toList[i]'(by rw [← Lib.size_eq]; exact hi)) (List.getElem_mem _)
  rw [bt_get, ← Lib.getD_get!', List.getD_eq_getElem?_getD, List.getElem?_eq_getElem (by rw [← Lib.size_eq]; exact hi), Option.getD_some] at hb
  have h3 : (e.data.toList[i]'(by rw [← Lib.size_eq]; exact hi)) = n := UInt8.toNat_inj.1 (by omega)
  rw [h3] at h2
  exact h2 hn

set_option maxHeartbeats 4000000 in
theorem law (s : ByteArray) (w : World) (hs : s.size ≤ 9223372036854775807) (hT : Lib.Utf8Tabs 0 1 w) :
    Calls Tryd.prog 4 #[.string s] w fun e w' => e = .returned (.bool true) ∧ Below w.heap.size w w' := by
  have HT := Aside0.mk hT
  clear hT
  by_cases h1 : 2147483647 < s.size
  · go_enter Tryd.func4, Tryd.ntmps4
    go_wp2_with fail
    go_ret
    exact ⟨rfl, Below.refl _ _⟩
  have d1 : decide (2147483647 < s.size) = false := decide_eq_false h1
  by_cases h3 : 65536 < s.size
  · go_enter Tryd.func4, Tryd.ntmps4
    go_wp2_with fail
    go_ret
    exact ⟨rfl, Below.refl _ _⟩
  have d3 : decide (65536 < s.size) = false := decide_eq_false h3
  have z1 := esc_size s
  have z2 := long_esc s
  have HE1 := Aside0.mk (show ∀ W, Lib.Utf8Tabs 0 1 W → Calls Tryd.prog 6 #[.string s] W fun e W' => e = .returned (.string ⟨(esc s).toArray⟩) ∧ Below W.heap.size W W' from fun W h => impl_any s W (by omega) h)
  have HTT := Aside0.mk (T_esc s)
  have HBAD := Aside0.mk (show ∀ x ∈ (⟨(esc s).toArray⟩ : ByteArray).data.toList, x ∉ bad from bad_esc s)
  generalize (⟨(esc s).toArray⟩ : ByteArray) = e at *
  have hlen : decide (s.size ≤ e.size) = true := decide_eq_true z2
  go_enter Tryd.func4, Tryd.ntmps4
  go_wp2_with fail
  refine (HE1.out _ HT.out).mono ?_
  rintro x w1 ⟨rfl, hb⟩
  have HB1 := Aside0.mk hb
  clear hb
  go_wp2_with fail
  go_loopw [17] (fun v17 W => W = w1 ∧ ∃ i : Nat, v17 = .int .i64 i ∧ i ≤ e.size) (fun v17 _ => e.size - (intOf v17).toNat)
  case atStart => exact ⟨rfl, 0, rfl, Nat.zero_le _⟩
  case round =>
    obtain ⟨rfl, i, rfl, hi⟩ := hrel
    by_cases hie : i < e.size
    · have hx := bt_at e (i : Int)
      rw [Int.toNat_natCast] at hx
      have n1 := byte_good e HBAD.out i hie 60 (by decide)
      have n2 := byte_good e HBAD.out i hie 62 (by decide)
      have n3 := byte_good e HBAD.out i hie 34 (by decide)
      have n4 := byte_good e HBAD.out i hie 39 (by decide)
      have n5 := byte_good e HBAD.out i hie 9 (by decide)
      have n6 := byte_good e HBAD.out i hie 10 (by decide)
      have n7 := byte_good e HBAD.out i hie 13 (by decide)
      generalize hcc : bt e (i : Int) = c at *
      have b1 : (c == 60) = false := beq_eq_false_iff_ne.2 n1
      have b2 : (c == 62) = false := beq_eq_false_iff_ne.2 n2
      have b3 : (c == 34) = false := beq_eq_false_iff_ne.2 n3
      have b4 : (c == 39) = false := beq_eq_false_iff_ne.2 n4
      have b5 : (c == 9) = false := beq_eq_false_iff_ne.2 n5
      have b6 : (c == 10) = false := beq_eq_false_iff_ne.2 n6
      have b7 : (c == 13) = false := beq_eq_false_iff_ne.2 n7
      clear n1 n2 n3 n4 n5 n6 n7 hcc
      go_wp2_with fail
      go_roundw
      case rel => exact ⟨by trivial, i + 1, by simp, by omega⟩
      case measure => simp [intOf]; omega
    · go_wp2_with fail
      with_reducible refine (read_any _ e (by omega) HTT.out HBAD.out).mono ?_
      rintro x w2 ⟨v, rfl, hb⟩
      have HB2 := Aside0.mk (below_step HB1.out hb)
      clear hb HB1
      go_wp2_with fail
      refine (impl_is _ (⟨#[97]⟩ : ByteArray) _ (by decide) (Utf8Tabs_below HT.out HB2.out) esc_a).mono ?_
      rintro x w3 ⟨rfl, hb⟩
      have HB3 := Aside0.mk (below_step HB2.out hb)
      clear hb HB2
      go_wp2_with fail
      go_ret
      exact ⟨rfl, HB3.out⟩

end Go.Proofs.YtfchmbhbkhgfnaaDoor.PlainLaw
