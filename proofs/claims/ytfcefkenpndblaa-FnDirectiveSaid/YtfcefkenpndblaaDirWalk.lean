/- What is proved here: the calls of the package's look at a directive, from the thin package down, come to what the printed function tells; the conditions are a text of at most 2^63 - 1 bytes and that function's answer. -/
import Derived.Test.YtfcefkenpndblaaDirB
namespace Go.Proofs.Ytfcefkenpndblaa.DirWalk
open Go.RowKit Go.Proofs.YtfcefkenpndblaaW.PrintWords Go.Proofs.YtfcefkenpndblaaW.PrintLast Go.Proofs.YtfcefkenpndblaaW.PrintMore Go.Proofs.Ytfcefkenpndblaa.DirF
set_option linter.unusedVariables false
set_option linter.unusedSimpArgs false

theorem valid_any (k : Nat) (A : Option Addr) (n c : Nat) (l : List Int) (r : Bool) (w : World) (hn : l.length = n) (hr : ReadsInt w .u8 A n l) (hc : n ≤ c) (h : xml_isValidDirective.f k l = some r) :
    Calls Try.prog 23 #[.slice A n c] w fun e w' => e = .returned (.bool r) ∧ Drawn0 w w' := by
  subst hn
  exact xml_isValidDirective.calls k A c l r w (Kd.C_of_reads (d := (0 : Int)) hr) hc h

set_option maxHeartbeats 800000 in
theorem zz_any (k : Nat) (s : ByteArray) (r : Bool) (w : World) (hs : s.size ≤ 9223372036854775807) (h : xml_isValidDirective.f k (bytesOf s) = some r) :
    Calls Try.prog 17 #[.string s] w fun e w' => e = .returned (.bool r) ∧ Below w.heap.size w w' := by
  have HS := Aside0.mk hs
  have HF := Aside0.mk h
  clear hs h
  have kb := fun W => print_bytes (P := Try.prog) 9 39 5 Try.underlying9 Try.underlying39 Try.underlying5 s W
  go_enter Try.func17, Try.ntmps17
  go_wp2_with (go_at_call 23; refine (valid_any k _ _ _ (bytesOf s) r _ (bytesOf_length s) (bytes_reads _ 5 s HS.out) (grownCap_ge _ _ _ _) HF.out).mono ?_; rintro e w' ⟨rfl, ⟨nd, rfl⟩⟩)
  go_ret
  exact ⟨rfl, pw_below_drewN (bytes_below (Below.refl _ _) (Nat.le_refl _) 5 s) _⟩

set_option maxHeartbeats 800000 in
theorem valid_impl (k : Nat) (s : ByteArray) (r : Bool) (w : World) (hs : s.size ≤ 9223372036854775807) (h : xml_isValidDirective.f k (bytesOf s) = some r) :
    Calls Try.prog 9 #[.string s] w fun e w' => e = .returned (.bool r) ∧ Below w.heap.size w w' := by
  have HS := Aside0.mk hs
  have HF := Aside0.mk h
  clear hs h
  go_enter Try.func9, Try.ntmps9
  go_wp2_with (go_at_call 17; refine (zz_any k s r _ HS.out HF.out).mono ?_; rintro e w' ⟨rfl, hb⟩)
  go_ret
  exact ⟨rfl, hb⟩

end Go.Proofs.Ytfcefkenpndblaa.DirWalk
