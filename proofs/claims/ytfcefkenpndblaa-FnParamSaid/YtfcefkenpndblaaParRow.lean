/- What is proved here: the statement FnParamSaid: the row of the statement on pseudo-attributes holds; no condition beyond the statement's own. -/
import Derived.Test.YtfcefkenpndblaaRows
import Derived.Test.YtfcefkenpndblaaParLaw
import Derived.SliceStrings
import Derived.WalkKit
import Derived.ProofKit
import Derived.OpenShut
import Derived.ShutString
import Derived.ChangeOld
import Derived.Below
import Derived.SizedLaws
namespace Go.Proofs.Ytfcefkenpndblaa.fnParam
open Go.ChangeShapes Go.WideShapes Go.ChangeAt Go.RowKit
open Go.ChangeMaps (open_string shut_string)
open Go.Proofs.YtfcefkenpndblaaW.PrintWords
set_option linter.unusedVariables false
theorem laidOut : laidOutB Try.prog = true := by kernel_rfl
theorem own : ownKnob Try.prog.godebug = none := by kernel_rfl
set_option maxRecDepth 100000 in
theorem lifted (os : Os) (started : os.Started) (H : Type) (enc : TypeId × Value → H) :
    ReturnsInHanded {} Try.checked os 5 .any (Rows.fnParamSpec.pre6 enc Try.prog Try.f5 Rows.fnParamRow.domain false) (Rows.fnParamSpec.post enc Try.prog Try.f5 false true false false) := by
  refine returnsInHanded_of_change_sized (C := Try.checked) own started (by kernel_rfl) Try.func5
    (ChangeSpec.witness6 (enc := enc) (C := Try.checked) false ⟨#[], #[.slice none 0 0, .slice none 0 0], []⟩ 8 (by kernel_rfl) (by kernel_rfl) (by kernel_rfl) (by kernel_rfl)) ?_
  intro W base args ds gs before hval0 hW hcnd hsz0 _
  have hsz : (DataW.weightsEach Try.prog (Try.f5.params.toList ++ Rows.fnParamSpec.plain.varTypes Try.prog) (ds ++ gs)).all (· ≤ reachBytes) = true := hsz0
  have hval : ∀ (j : Nat) t v, Try.f5.params[j]? = some t → args[j]? = some v → Value.okWide Try.prog W .any base t v := hval0
  have hW' := hW
  obtain ⟨p, q, hA0, hV, rfl, hfz, hnd⟩ := hW
  have hA : DataW.TrodAll enc Try.prog W 0 (fun _ => true) true Try.f5.params.toList args.toList ds p := hA0
  rw [Try.params5] at hA hval hsz
  obtain ⟨v0, vs0, d0, ds0, p0, q0, hargs, rfl, rfl, h0, r0⟩ := trodAll_cons hA
  obtain ⟨v1, vs1, d1, ds1, p1, q1, rfl, rfl, rfl, h1, r1⟩ := trodAll_cons r0
  obtain ⟨rfl, rfl, rfl⟩ := trodAll_nil r1
  obtain rfl : args = #[v0, v1] := by cases args; simp_all
  obtain ⟨rfl, rfl⟩ := trodVars_none hV
  obtain ⟨a0, len0, cap0, rfl⟩ := okWide_slice Try.underlying24 (hval 0 24 v0 rfl rfl)
  have k0 := h0
  have lt0 : ∀ x ∈ p0, x.block < W.heap.size := by obtain ⟨m, hm⟩ := k0; exact DataW.trod_lt m _ _ _ hm
  obtain ⟨z0, rfl, w0, y0⟩ : ∃ zs : List Int, len0 = zs.length ∧ (Kd.int .i64).C W a0 zs.length zs ∧ zs.length ≤ cap0 := by
    obtain ⟨fuel, hf⟩ := h0
    rcases open_ints Try.underlying24 Try.underlying3 (by kernel_rfl) hf with ⟨hcs, _⟩ | ⟨x, l, c, zs, hcs, _, hl, hm, hz, _, hcell, hwz⟩
    · simp [Value.cells] at hcs
      obtain ⟨rfl, rfl, rfl⟩ := hcs
      exact ⟨[], rfl, Kd.C_nil _ _, Nat.le_refl _⟩
    · simp [Value.cells] at hcs
      obtain ⟨rfl, rfl, rfl⟩ := hcs
      have hz' : zs.length = cap0 := by simpa using hz
      have hlen : (zs.take len0).length = len0 := by rw [List.length_take]; omega
      refine ⟨zs.take len0, hlen.symm, ?_, by rw [hlen]; exact hl⟩
      refine Kd.C_of_reads (d := (0 : Int)) ⟨rfl, by rw [hlen]; unfold maxLen at hm; omega, fun _ => ⟨x, rfl, fun j hj => ?_⟩⟩
      rw [hlen] at hj
      rw [hcell j (by omega)]
      simp [List.getD_eq_getElem?_getD, hj]
  obtain ⟨a1, len1, cap1, rfl⟩ := okWide_slice Try.underlying25 (hval 1 25 v1 rfl rfl)
  have k1 := h1
  have lt1 : ∀ x ∈ p1, x.block < W.heap.size := by obtain ⟨m, hm⟩ := k1; exact DataW.trod_lt m _ _ _ hm
  obtain ⟨z1, rfl, w1, y1⟩ : ∃ zs : List ByteArray, len1 = zs.length ∧ Kd.string.C W a1 zs.length zs ∧ zs.length ≤ cap1 := by
    obtain ⟨fuel, hf⟩ := h1
    rcases open_strings Try.underlying25 Try.underlying9 (by kernel_rfl) hf with ⟨hcs, _⟩ | ⟨x, l, c, zs, hcs, _, hl, hm, hz, _, hcell, hwz⟩
    · simp [Value.cells] at hcs
      obtain ⟨rfl, rfl, rfl⟩ := hcs
      exact ⟨[], rfl, Kd.C_nil _ _, Nat.le_refl _⟩
    · simp [Value.cells] at hcs
      obtain ⟨rfl, rfl, rfl⟩ := hcs
      have hz' : zs.length = cap1 := by simpa using hz
      have hlen : (zs.take len1).length = len1 := by rw [List.length_take]; omega
      refine ⟨zs.take len1, hlen.symm, ?_, by rw [hlen]; exact hl⟩
      refine Kd.C_of_reads (d := ByteArray.empty) ⟨rfl, by rw [hlen]; unfold maxLen at hm; omega, fun _ => ⟨x, rfl, fun j hj => ?_⟩⟩
      rw [hlen] at hj
      rw [hcell j (by omega)]
      simp [List.getD_eq_getElem?_getD, hj]
  clear hA0 hval0 hsz0 hsz
  refine (ParLaw.law a0 a1 cap0 cap1 z0 z1 W w0 w1 y0 y1).mono fun e W' ⟨he, bel⟩ => ?_
  subst he
  exact ⟨_, rfl, _, _, _, [], _, [], hW', trodAll_mk1 (shut_bool Try.underlying4 _), (trodAll_cons_mk (Below.trod laidOut (by kernel_rfl) (of_decide_eq_true (by kernel_rfl)) k0 bel lt0) (trodAll_cons_mk (Below.trod laidOut (by kernel_rfl) (of_decide_eq_true (by kernel_rfl)) k1 bel lt1) trodAll_mk0)), rfl, bel.frame _, fun h => by cases h⟩
theorem over : Rows.fnParamRow.holds Try.pinned (OpenSpec.ofChange Rows.fnParamSpec) :=
  OpenClaim.holds_of_wide 5 Try.f5 rfl rfl rfl rfl rfl rfl rfl ⟨rfl, rfl, rfl, rfl, rfl⟩ rfl rfl rfl rfl rfl (by kernel_rfl) Try.func5 (by kernel_rfl)
    (of_decide_eq_true (by kernel_rfl)) (by unfold Func.isWrapper; first | (rw [if_pos (by decide +kernel)]; kernel_rfl) | (rw [if_neg (by decide +kernel)]; exact ⟨rfl, rfl⟩))
    (fun os started H enc _ => lifted os started H enc)
theorem proved : Rows.FnParamSaid := over
#print axioms proved
end Go.Proofs.Ytfcefkenpndblaa.fnParam
namespace Go.Proofs.Ytfcefkenpndblaa
/-- The row, under a short name, for the claim. -/
theorem fnParam_holds : Rows.FnParamSaid := fnParam.proved
end Go.Proofs.Ytfcefkenpndblaa
