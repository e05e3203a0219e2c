/- What is proved here: the call of the statement on names returns true, at every text; condition: the tables of unicode/utf8 as laid. -/
import Derived.Test.YtdiplnceidnnaaaDoorIsWalk
namespace Go.Proofs.YtdiplnceidnnaaaDoor.IsLaw
open Go.RowKit Go.Proofs.YtdiplnceidnnaaaDoorW.PrintWords Go.Proofs.YtdiplnceidnnaaaDoorW.PrintLast Go.Proofs.YtdiplnceidnnaaaDoorW.PrintMore
open Go.Proofs.YtdiplnceidnnaaaDoor.IsKind Go.Proofs.YtdiplnceidnnaaaDoor.IsWalk Go.Proofs.YtdiplnceidnnaaaDoor.PFnIsName
set_option linter.unusedVariables false
set_option linter.unusedSimpArgs false

theorem zz_any (s : ByteArray) (w : World) (hs : s.size ≤ 1099511627776) (hok : okFrom s s.size 0) (hT : Lib.Utf8Tabs 0 1 w) (b : Bool) (hb : nameOf s = b) :
    Calls Tryd.prog 9 #[.string s] w fun e w' => e = .returned (.bool b) ∧ Below w.heap.size w w' := by
  have H := Aside0.mk (name_any s w hs hok hT)
  rw [hb] at H
  clear hok hT hb
  go_enter Tryd.func9, Tryd.ntmps9
  go_wp2_with fail
  with_reducible refine H.out.mono ?_
  rintro e w1 ⟨rfl, hb⟩
  have HB := Aside0.mk hb
  clear hb
  go_wp2_with fail
  go_ret
  exact ⟨rfl, HB.out⟩

theorem impl_any (s : ByteArray) (w : World) (hs : s.size ≤ 1099511627776) (hok : okFrom s s.size 0) (hT : Lib.Utf8Tabs 0 1 w) (b : Bool) (hb : nameOf s = b) :
    Calls Tryd.prog 5 #[.string s] w fun e w' => e = .returned (.bool b) ∧ Below w.heap.size w w' := by
  have H := Aside0.mk (zz_any s w hs hok hT b hb)
  clear hok hT hb
  go_enter Tryd.func5, Tryd.ntmps5
  go_wp2_with fail
  with_reducible refine H.out.mono ?_
  rintro e w1 ⟨rfl, hb⟩
  have HB := Aside0.mk hb
  clear hb
  go_wp2_with fail
  go_ret
  exact ⟨rfl, HB.out⟩

theorem a_ok : okFrom (⟨#[97]⟩ : ByteArray) (⟨#[97]⟩ : ByteArray).size 0 := fun _ => ⟨by decide, by decide, trivial⟩
theorem a_name : nameOf (⟨#[97]⟩ : ByteArray) = true := by decide +kernel

set_option maxHeartbeats 1600000 in
theorem law (s : ByteArray) (w : World) (hs : s.size ≤ 9223372036854775807) (hT : Lib.Utf8Tabs 0 1 w) :
    Calls Tryd.prog 3 #[.string s] w fun e w' => e = .returned (.bool true) ∧ Below w.heap.size w w' := by
  have HT := Aside0.mk hT
  clear hT
  by_cases h1 : 2147483647 < s.size
  · go_enter Tryd.func3, Tryd.ntmps3
    go_wp2_with fail
    go_ret
    exact ⟨rfl, Below.refl _ _⟩
  have d1 : decide (2147483647 < s.size) = false := decide_eq_false h1
  by_cases h3 : 65536 < s.size
  · go_enter Tryd.func3, Tryd.ntmps3
    go_wp2_with fail
    go_ret
    exact ⟨rfl, Below.refl _ _⟩
  have d3 : decide (65536 < s.size) = false := decide_eq_false h3
  obtain ⟨k, hk⟩ := kind_tells s (by omega)
  have HK := Aside0.mk hk
  clear hk
  by_cases h2 : kindOf s = 2
  · have k2 : (((kindOf s : Nat) : Int) == 2) = true := beq_iff_eq.2 (by omega)
    clear h2
    generalize ((kindOf s : Nat) : Int) = K at *
    go_enter Tryd.func3, Tryd.ntmps3
    go_wp2_with fail
    with_reducible refine (spec_NameKind.calls k s K _ HK.out).mono ?_
    rintro e w1 ⟨rfl, hd⟩
    have HB1 := Aside0.mk hd.below
    clear hd
    go_wp2_with fail
    go_ret
    exact ⟨rfl, HB1.out⟩
  obtain ⟨hok, hiff⟩ := kind_name s h2
  have HOK := Aside0.mk hok
  have k2 : (((kindOf s : Nat) : Int) == 2) = false := beq_eq_false_iff_ne.2 (by omega)
  have k0 : (((kindOf s : Nat) : Int) == 0) = nameOf s := by
    cases hb : nameOf s with
    | true => exact beq_iff_eq.2 (by have := hiff.2 hb; omega)
    | false => exact beq_eq_false_iff_ne.2 (fun h => by have := hiff.1 (by omega); rw [hb] at this; cases this)
  clear hok hiff h2
  generalize ((kindOf s : Nat) : Int) = K at *
  obtain ⟨b, hb⟩ : ∃ b, nameOf s = b := ⟨_, rfl⟩
  rw [hb] at k0
  have HN := Aside0.mk hb
  clear hb
  cases b with
  | true =>
    go_enter Tryd.func3, Tryd.ntmps3
    go_wp2_with fail
    with_reducible refine (spec_NameKind.calls k s K _ HK.out).mono ?_
    rintro e w1 ⟨rfl, hd⟩
    have HB1 := Aside0.mk hd.below
    clear hd
    go_wp2_with fail
    with_reducible refine (impl_any s _ (by omega) HOK.out (Utf8Tabs_below HT.out HB1.out) true HN.out).mono ?_
    rintro e w2 ⟨rfl, hb⟩
    have HB2 := Aside0.mk (below_step HB1.out hb)
    clear hb HB1
    go_wp2_with fail
    with_reducible refine (impl_any (⟨#[97]⟩ : ByteArray) _ (by decide) a_ok (Utf8Tabs_below HT.out HB2.out) true a_name).mono ?_
    rintro e w3 ⟨rfl, hb⟩
    have HB3 := Aside0.mk (below_step HB2.out hb)
    clear hb HB2
    go_wp2_with fail
    go_ret
    exact ⟨rfl, HB3.out⟩
  | false =>
    go_enter Tryd.func3, Tryd.ntmps3
    go_wp2_with fail
    with_reducible refine (spec_NameKind.calls k s K _ HK.out).mono ?_
    rintro e w1 ⟨rfl, hd⟩
    have HB1 := Aside0.mk hd.below
    clear hd
    go_wp2_with fail
    with_reducible refine (impl_any s _ (by omega) HOK.out (Utf8Tabs_below HT.out HB1.out) false HN.out).mono ?_
    rintro e w2 ⟨rfl, hb⟩
    have HB2 := Aside0.mk (below_step HB1.out hb)
    clear hb HB1
    go_wp2_with fail
    with_reducible refine (impl_any (⟨#[97]⟩ : ByteArray) _ (by decide) a_ok (Utf8Tabs_below HT.out HB2.out) true a_name).mono ?_
    rintro e w3 ⟨rfl, hb⟩
    have HB3 := Aside0.mk (below_step HB2.out hb)
    clear hb HB2
    go_wp2_with fail
    go_ret
    exact ⟨rfl, HB3.out⟩

end Go.Proofs.YtdiplnceidnnaaaDoor.IsLaw
