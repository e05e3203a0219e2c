/- What is proved here: the package's range of characters answers as production 2 does at every number from 0 to 0x10ffff; the conditions are those of the statement alone. -/
import Derived.Test.YtfcefkenpndblaaPFnInRangex1
namespace Go.Proofs.Ytfcefkenpndblaa.Pure
open Go.RowKit Go.Proofs.Ytfcefkenpndblaa.PFnInRange Go.Proofs.YtfcefkenpndblaaW.PrintWords Go.Proofs.YtfcefkenpndblaaW.PrintLast

theorem range_some (a : Int) : ∃ b, xml_isInCharacterRange.f a = some b := by
  unfold xml_isInCharacterRange.f
  repeat' split
  all_goals exact ⟨_, rfl⟩

theorem isChar_same (a : Int) : spec_IsChar.f a = xml_isInCharacterRange.f a := rfl

theorem inRange_is (a : Int) (h0 : 0 ≤ a) (h1 : a ≤ 1114111) : impl_InRange.f a = xml_isInCharacterRange.f a := by
  obtain ⟨b, hb⟩ := range_some a
  unfold impl_InRange.f xml_ZZInRange.f
  have e : wrap32 a = a := by unfold wrap32; omega
  rw [e, hb]; rfl

theorem FnInRange : laws_FnInRange.Pure := by
  intro a _
  unfold laws_FnInRange.f
  by_cases h0 : a < 0
  · rw [if_pos h0]
  · rw [if_neg h0]
    by_cases h1 : a > 1114111
    · rw [if_pos h1]
    · rw [if_neg h1]
      obtain ⟨b, hb⟩ := range_some a
      rw [inRange_is a (by omega) (by omega), isChar_same, hb, inRange_is 97 (by omega) (by omega)]
      simp [xml_isInCharacterRange.f]

end Go.Proofs.Ytfcefkenpndblaa.Pure
