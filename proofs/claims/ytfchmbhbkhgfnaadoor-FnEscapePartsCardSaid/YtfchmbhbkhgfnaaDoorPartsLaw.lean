/- What is proved here: the call of the statement on escaping in parts returns true, at every two texts; condition: the tables of unicode/utf8 as laid. -/
import Derived.Test.YtfchmbhbkhgfnaaDoorEscImpl
import Derived.Test.YtfchmbhbkhgfnaaDoorEscDec
namespace Go.Proofs.YtfchmbhbkhgfnaaDoor.PartsLaw
open Go.RowKit Go.Proofs.YtfchmbhbkhgfnaaDoorW.PrintWords Go.Proofs.YtfchmbhbkhgfnaaDoorW.PrintLast Go.Proofs.YtfchmbhbkhgfnaaDoorW.PrintMore
open Go.Proofs.YtfchmbhbkhgfnaaDoor.EscPure Go.Proofs.YtfchmbhbkhgfnaaDoor.Esc Go.Proofs.YtfchmbhbkhgfnaaDoor.EscDec Go.Proofs.YtfchmbhbkhgfnaaDoor.PFnEscapeParts
set_option linter.unusedVariables false
set_option linter.unusedSimpArgs false

theorem impl_is (s r : ByteArray) (w : World) (hs : s.size ≤ 1000000) (h : Lib.Utf8Tabs 0 1 w) (hr : r = ⟨(esc s).toArray⟩) :
    Calls Tryd.prog 6 #[.string s] w fun e W' => e = .returned (.string r) ∧ Below w.heap.size w W' := by
  rw [hr]
  exact impl_any s w hs h

theorem esc_a : (⟨#[97]⟩ : ByteArray) = ⟨(esc ⟨#[97]⟩).toArray⟩ := by decide +kernel

theorem esc_size (s : ByteArray) : (⟨(esc s).toArray⟩ : ByteArray).size ≤ 5 * s.size := by
  show (esc s).toArray.size ≤ 5 * s.size
  rw [List.size_toArray]
  exact escFrom_length s s.size 0

theorem esc_two (s t : ByteArray) (h : chars s s.size 0 = true) : (⟨(esc s).toArray⟩ : ByteArray) ++ ⟨(esc t).toArray⟩ = ⟨(esc (s ++ t)).toArray⟩ := by
  rw [← Lib.mk_data ((⟨(esc s).toArray⟩ : ByteArray) ++ ⟨(esc t).toArray⟩), EscPure.data_append, esc_append s t h]

set_option maxHeartbeats 1600000 in
theorem law (s t : ByteArray) (w : World) (hs : s.size ≤ 9223372036854775807) (ht : t.size ≤ 9223372036854775807) (hT : Lib.Utf8Tabs 0 1 w) :
    Calls Tryd.prog 3 #[.string s, .string t] w fun e w' => e = .returned (.bool true) ∧ Below w.heap.size w w' := by
  have HT := Aside0.mk hT
  clear hT
  by_cases h1 : 2147483647 < s.size
  · go_enter Tryd.func3, Tryd.ntmps3
    go_wp2_with fail
    go_ret
    exact ⟨rfl, Below.refl _ _⟩
  have d1 : decide (2147483647 < s.size) = false := decide_eq_false h1
  by_cases h2 : 2147483647 < t.size
  · go_enter Tryd.func3, Tryd.ntmps3
    go_wp2_with fail
    go_ret
    exact ⟨rfl, Below.refl _ _⟩
  have d2 : decide (2147483647 < t.size) = false := decide_eq_false h2
  by_cases h3 : 65536 < s.size + t.size
  · go_enter Tryd.func3, Tryd.ntmps3
    go_wp2_with fail
    go_ret
    exact ⟨rfl, Below.refl _ _⟩
  have d3 : decide ((65536 : Int) < (s.size : Int) + (t.size : Int)) = false := decide_eq_false (by omega)
  obtain ⟨k, hk⟩ := chars_tells s (by omega)
  cases hc : chars s s.size 0 with
  | false =>
    rw [hc] at hk
    have HK := Aside0.mk hk
    clear hk hc
    go_enter Tryd.func3, Tryd.ntmps3
    go_wp2_with fail
    refine (spec_Chars.calls k s false _ HK.out).mono ?_
    rintro e w1 ⟨rfl, hd⟩
    go_wp2_with fail
    go_ret
    exact ⟨rfl, hd.below⟩
  | true =>
    rw [hc] at hk
    have HK := Aside0.mk hk
    have HE := Aside0.mk (esc_two s t hc)
    have z1 := esc_size s
    have z2 := esc_size t
    have HE1 := Aside0.mk (show ∀ W, Lib.Utf8Tabs 0 1 W → Calls Tryd.prog 6 #[.string s] W fun e W' => e = .returned (.string ⟨(esc s).toArray⟩) ∧ Below W.heap.size W W' from fun W h => impl_any s W (by omega) h)
    have HE2 := Aside0.mk (show ∀ W, Lib.Utf8Tabs 0 1 W → Calls Tryd.prog 6 #[.string t] W fun e W' => e = .returned (.string ⟨(esc t).toArray⟩) ∧ Below W.heap.size W W' from fun W h => impl_any t W (by omega) h)
    generalize (⟨(esc s).toArray⟩ : ByteArray) = e1 at *
    generalize (⟨(esc t).toArray⟩ : ByteArray) = e2 at *
    clear hk hc
    go_enter Tryd.func3, Tryd.ntmps3
    go_wp2_with fail
    refine (spec_Chars.calls k s true _ HK.out).mono ?_
    rintro e w1 ⟨rfl, hd⟩
    have HB1 := Aside0.mk hd.below
    clear hd
    go_wp2_with fail
    refine (impl_is (s ++ t) (e1 ++ e2) _ (by rw [ByteArray.size_append]; omega) (Utf8Tabs_below HT.out HB1.out) HE.out).mono ?_
    rintro e w2 ⟨rfl, hb⟩
    have HB2 := Aside0.mk (below_step HB1.out hb)
    clear hb HB1
    go_wp2_with fail
    refine (HE1.out _ (Utf8Tabs_below HT.out HB2.out)).mono ?_
    rintro e w3 ⟨rfl, hb⟩
    have HB3 := Aside0.mk (below_step HB2.out hb)
    clear hb HB2
    go_wp2_with fail
    refine (HE2.out _ (Utf8Tabs_below HT.out HB3.out)).mono ?_
    rintro e w4 ⟨rfl, hb⟩
    have HB4 := Aside0.mk (below_step HB3.out hb)
    clear hb HB3
    go_wp2_with fail
    refine (impl_is _ (⟨#[97]⟩ : ByteArray) _ (by decide) (Utf8Tabs_below HT.out HB4.out) esc_a).mono ?_
    rintro e w5 ⟨rfl, hb⟩
    have HB5 := Aside0.mk (below_step HB4.out hb)
    clear hb HB4
    go_wp2_with fail
    go_ret
    exact ⟨rfl, HB5.out⟩

end Go.Proofs.YtfchmbhbkhgfnaaDoor.PartsLaw
