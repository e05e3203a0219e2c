/- What is proved here: the call of the statement on directives returns true, at every text that can be read; no other condition. -/
import Derived.Test.YtfcefkenpndblaaDirWalk
import Derived.Test.YtfcefkenpndblaaDirPure
namespace Go.Proofs.Ytfcefkenpndblaa.DirLaw
open Go.RowKit Go.Proofs.YtfcefkenpndblaaW.PrintWords Go.Proofs.YtfcefkenpndblaaW.PrintLast Go.Proofs.YtfcefkenpndblaaW.PrintMore Go.Proofs.Ytfcefkenpndblaa.DirF Go.Proofs.Ytfcefkenpndblaa.DirWalk
set_option linter.unusedVariables false
set_option linter.unusedSimpArgs false

set_option maxHeartbeats 800000 in
theorem long_ (s : ByteArray) (w : World) (h : 2147483647 < s.size) (hs : s.size ≤ 9223372036854775807) :
    Calls Try.prog 4 #[.string s] w fun e w' => e = .returned (.bool true) ∧ Below w.heap.size w w' := by
  have c : decide ((2147483647 : Int) < (s.size : Int)) = true := decide_eq_true (by omega)
  go_enter Try.func4, Try.ntmps4
  go_wp2_with fail
  go_ret
  exact ⟨rfl, Below.refl _ _⟩

set_option maxHeartbeats 800000 in
theorem big_ (s : ByteArray) (w : World) (h : 65536 < s.size) (hs : s.size ≤ 2147483647) :
    Calls Try.prog 4 #[.string s] w fun e w' => e = .returned (.bool true) ∧ Below w.heap.size w w' := by
  have c : decide ((2147483647 : Int) < (s.size : Int)) = false := decide_eq_false (by omega)
  have c1 : decide ((65536 : Int) < (s.size : Int)) = true := decide_eq_true (by omega)
  go_enter Try.func4, Try.ntmps4
  go_wp2_with fail
  go_ret
  exact ⟨rfl, Below.refl _ _⟩

set_option maxHeartbeats 800000 in
theorem short_ (k : Nat) (s : ByteArray) (w : World) (h : spec_Short.f k s = some true) (hs : s.size ≤ 65536) :
    Calls Try.prog 4 #[.string s] w fun e w' => e = .returned (.bool true) ∧ Below w.heap.size w w' := by
  have HF := Aside0.mk h
  have c : decide ((2147483647 : Int) < (s.size : Int)) = false := decide_eq_false (by omega)
  have c1 : decide ((65536 : Int) < (s.size : Int)) = false := decide_eq_false (by omega)
  clear h
  go_enter Try.func4, Try.ntmps4
  go_wp2_with fail
  refine (spec_Short.calls k s true _ HF.out).mono ?_
  rintro e w' ⟨rfl, ⟨nd, rfl⟩⟩
  go_wp2_with fail
  go_ret
  exact ⟨rfl, pw_below_drewN (Below.refl _ _) _⟩

set_option maxHeartbeats 800000 in
theorem rest_ (k : Nat) (s : ByteArray) (b : Bool) (w : World) (h : spec_Short.f k s = some false) (hs : s.size ≤ 65536)
    (h1 : xml_isValidDirective.f k (bytesOf s) = some b) (h2 : spec_Matched.f k s = some b)
    (h3 : xml_isValidDirective.f k (bytesOf ⟨#[]⟩) = some true) (h4 : xml_isValidDirective.f k (bytesOf ⟨#[60]⟩) = some false) :
    Calls Try.prog 4 #[.string s] w fun e w' => e = .returned (.bool true) ∧ Below w.heap.size w w' := by
  have HF := Aside0.mk h
  have H1 := Aside0.mk h1
  have H2 := Aside0.mk h2
  have H3 := Aside0.mk h3
  have H4 := Aside0.mk h4
  have HS := Aside0.mk hs
  have c : decide ((2147483647 : Int) < (s.size : Int)) = false := decide_eq_false (by omega)
  have c1 : decide ((65536 : Int) < (s.size : Int)) = false := decide_eq_false (by omega)
  have cb : (b == b) = true := beq_self_eq_true b
  clear h h1 h2 h3 h4 hs
  go_enter Try.func4, Try.ntmps4
  go_wp2_with fail
  refine (spec_Short.calls k s false _ HF.out).mono ?_
  rintro e w' ⟨rfl, ⟨nd, rfl⟩⟩
  go_wp2_with fail
  refine (valid_impl k s b _ (by have := HS.out; omega) H1.out).mono ?_
  rintro e w1 ⟨rfl, hb1⟩
  go_wp2_with fail
  refine (spec_Matched.calls k s b _ H2.out).mono ?_
  rintro e w' ⟨rfl, ⟨nd1, rfl⟩⟩
  go_wp2_with fail
  refine (valid_impl k _ true _ (by simp [ByteArray.size]) H3.out).mono ?_
  rintro e w2 ⟨rfl, hb2⟩
  go_wp2_with fail
  refine (valid_impl k _ false _ (by simp [ByteArray.size]) H4.out).mono ?_
  rintro e w3 ⟨rfl, hb3⟩
  go_wp2_with fail
  go_ret
  exact ⟨rfl, below_step (pw_below_drewN (below_step (pw_below_drewN (Below.refl _ _) _) hb1) _) (below_step hb2 hb3)⟩

theorem walk (s : ByteArray) (w : World) (hs : s.size ≤ 9223372036854775807) :
    Calls Try.prog 4 #[.string s] w fun e w' => e = .returned (.bool true) ∧ Below w.heap.size w w' := by
  by_cases h1 : 2147483647 < s.size
  · exact long_ s w h1 hs
  by_cases h2 : 65536 < s.size
  · exact big_ s w h2 (by omega)
  rcases DirPure.rounds s (by omega) with ⟨k, h⟩ | ⟨k, b, h3, h4, h5, h6, h7⟩
  · exact short_ k s w h (by omega)
  · exact rest_ k s b w h3 (by omega) h4 h5 h6 h7

end Go.Proofs.Ytfcefkenpndblaa.DirLaw
