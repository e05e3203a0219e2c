/- What is proved here: the statement FnEncodeNestedUptoCardSaid: the card of the second form of the statement on nested elements; no condition beyond the statement's own. -/
import Derived.Test.YtjoahpmalhmjkaaGreatDoorCards
import Derived.Test.YtjoahpmalhmjkaaGreatDoorTie
import Derived.Test.YtjoahpmalhmjkaaGreatDoorEncOpen
import Derived.WalkKit
import Derived.ProofKit
import Derived.OpenShut
import Derived.ShutString
import Derived.ChangeOld
import Derived.Below
import Derived.SizedLaws
import Derived.PinnedBridge
import Derived.Lib.LaidU8T
import Derived.Lay
import Derived.LaidOnce
import Derived.LaidHandle
import Derived.SevenTiedAt
import Derived.Stop.LaidTwo
import Derived.Deep.DeepHandedRow
namespace Go.Proofs.YtjoahpmalhmjkaaGreatDoor.fnEncodeNested
open Go.ChangeShapes Go.WideShapes Go.ChangeAt Go.RowKit Go.Shelf Go.Lib
open Go.ChangeMaps (open_string shut_string)
open Go.Proofs.YtjoahpmalhmjkaaGreatDoor.PFnEncodeNested Go.Proofs.YtjoahpmalhmjkaaGreatDoor.EncPlain Go.Proofs.YtjoahpmalhmjkaaGreatDoor.EncOpen
set_option linter.unusedVariables false
set_option linter.unusedSimpArgs false

def ren : Go.Shelf.Ren := ⟨fun n => n, fun | 119 => 181 | 139 => 184 | 138 => 183 | n => n, fun n => n⟩
theorem types : U8Types Tryz.prog ren := ⟨Tryz.underlying5, Tryz.underlying181, Tryz.underlying183, Tryz.underlying184⟩
theorem extra : U8Extra Tryz.prog ren := ⟨by kernel_rfl, by kernel_rfl, by kernel_rfl, by kernel_rfl, by kernel_rfl, by kernel_rfl, by kernel_rfl⟩
theorem accept_eq : (Rows.laid_unicode_utf8_acceptRanges : DataW Unit) = acceptData := by kernel_rfl
theorem own : ownKnob Tryz.prog.godebug = none := by kernel_rfl
theorem laidOut : laidOutB Tryz.prog = true := by kernel_rfl

/-- The listed variables but the handle. -/
def plainLaid : List (String × DataW Unit) := [("math/bits.deBruijn32tab", Rows.laid_math_bits_deBruijn32tab), ("math/bits.deBruijn64tab", Rows.laid_math_bits_deBruijn64tab), ("internal/strconv.uint64pow10", Rows.laid_internal_strconv_uint64pow10), ("unicode/utf8.acceptRanges", Rows.laid_unicode_utf8_acceptRanges), ("io.ErrShortWrite", Rows.laid_io_ErrShortWrite), ("io.EOF", Rows.laid_io_EOF), ("unicode.asciiFold", Rows.laid_unicode_asciiFold), ("unicode.caseOrbit", Rows.laid_unicode_caseOrbit), ("unicode.CaseRanges", Rows.laid_unicode_CaseRanges), ("unicode/utf8.first", Rows.laid_unicode_utf8_first)]
theorem filt0 : (Rows.fnEncodeNestedUptoRow.laid.filter fun x => x.2.handleName?.isNone) = plainLaid := by kernel_rfl
theorem filt1 : (Rows.fnEncodeNestedUptoRow.laid.filter fun x => x.2.handleName?.isSome) = [("errors.errorType", Rows.laid_errors_errorType)] := by kernel_rfl
theorem parts {W : World} (h : laidMetH Tryz.prog Rows.fnEncodeNestedUptoRow.laid W) : laidMet Tryz.prog plainLaid W ∧ handlesMet Tryz.prog [("errors.errorType", Rows.laid_errors_errorType)] W := by
  unfold laidMetH at h
  rw [filt1, filt0] at h
  exact h

theorem gE : Tryz.prog.globalNamed "io.EOF" = some 0 := by kernel_rfl
theorem gS : Tryz.prog.globalNamed "io.ErrShortWrite" = some 2 := by kernel_rfl
theorem gT : Tryz.prog.globalNamed "errors.errorType" = some 1 := by kernel_rfl
theorem gEType : (Tryz.prog.globals[0]?).map (·.type) = some 55 := by kernel_rfl
theorem gSType : (Tryz.prog.globals[2]?).map (·.type) = some 55 := by kernel_rfl
theorem cells136 : Tryz.prog.cellsOf 136 = 1 := by kernel_rfl
theorem star : "*" ++ "errors.errorString" = "*errors.errorString" := by decide
theorem row134 (u : TypeId) (h : Tryz.prog.typeName? 3 u = some "*errors.errorString") : u = 134 :=
  typeName_ptr_named (nm := "errors.errorString") (by rw [star]; kernel_rfl) (by kernel_rfl) (by decide) u (by rw [star]; exact h)
theorem rt : (Tryz.prog.cutTypes.find? (·.1 == "internal/reflectlite.rtype")).map (·.2) = some 145 := by kernel_rfl
theorem size : Tryz.prog.types.size = 248 := by kernel_rfl
theorem oneRow : ((List.range 248).filter fun t => Tryz.prog.rowNamed t [101, 114, 114, 111, 114]) = [55] := by kernel_rfl

theorem handle_of_laid {W : World} (h : handlesMet Tryz.prog [("errors.errorType", Rows.laid_errors_errorType)] W) : W.cell? ⟨1, 0, none⟩ = some (.iface 145 (.agg #[.pointer (some ⟨12, 55, none⟩)])) := by
  obtain ⟨name, u, ty, e1, e2, e3, e4, e5⟩ := h _ (List.mem_singleton.2 rfl)
  have en : name = [101, 114, 114, 111, 114] := (Option.some.inj e1).symm
  subst en
  obtain rfl := Option.some.inj (rt.symm.trans e2)
  have hm : ty ∈ (List.range 248).filter fun t => Tryz.prog.rowNamed t [101, 114, 114, 111, 114] := List.mem_filter.2 ⟨List.mem_range.2 (by rw [← size]; exact e3), e4⟩
  rw [oneRow] at hm
  obtain rfl := List.mem_singleton.1 hm
  have hh : typeHandle Tryz.prog 55 = .pointer (some ⟨12, 55, none⟩) := by kernel_rfl
  rw [hh] at e5
  simpa using World.var?_cell gT e5 0

/-- What the listed variables give the walk. -/
theorem vars_of_laid {W : World} (h : laidMetH Tryz.prog Rows.fnEncodeNestedUptoRow.laid W) : EncSt.Vars W := by
  obtain ⟨hL, hH⟩ := parts h
  obtain ⟨a0, a1, s0, s1, c0, c1, t0, t1, hv0, hv1, hc0, hs0, hz0, hc1, hs1, hz1, hne, hb0, hb1⟩ := laid_sentinels2 hL.tail.tail.tail.tail gS gSType gE gEType Tryz.underlying55 row134 Tryz.underlying134 Tryz.underlying136 rfl rfl Tryz.underlying9 cells136 EncOpen.cells9
  refine ⟨utf8Tabs_of_readsT types extra (Pinned.utf8First_eq ▸ Lib.laidMet.reads hL (.tail _ (.tail _ (.tail _ (.tail _ (.tail _ (.tail _ (.tail _ (.tail _ (.tail _ (.head _))))))))))) (accept_eq ▸ Lib.laidMet.reads hL (.tail _ (.tail _ (.tail _ (.head _))))), ⟨a1, c1, t1, by simpa using World.var?_cell gE hv1 0, hb1⟩, handle_of_laid hH⟩

set_option maxRecDepth 100000 in
/-- WHAT THE WALK GIVES, FOR EVERY INPUT WITHIN THE BOUND. -/
theorem contract (H : Type) (enc : TypeId × Value → H) (W : World) (base : Nat) (args : Array Value) (ds gs : List (DataW H)) (before : List MemPlace)
    (hval : ∀ (j : Nat) t v, Tryz.f3.params[j]? = some t → args[j]? = some v → Value.okWide Tryz.prog W .any base t v)
    (hW : DataW.Whole enc Tryz.prog Tryz.f3.params.toList Rows.fnEncodeNestedSpec.vars false W args.toList ds gs before) (hk : Rows.uptoSmall H (ds ++ gs) = true) (hL : laidMetH Tryz.prog Rows.fnEncodeNestedUptoRow.laid W) :
    Calls Tryz.prog 3 args W fun e W' => ∃ v, e = .returned v ∧ Rows.fnEncodeNestedSpec.post enc Tryz.prog Tryz.f3 false true false false W args v W' := by
  have hW' := hW
  obtain ⟨p, q, hA0, hV, rfl, hfz, hnd⟩ := hW
  have hA : DataW.TrodAll enc Tryz.prog W 0 (fun _ => true) true Tryz.f3.params.toList args.toList ds p := hA0
  rw [Tryz.params3] at hA hval
  obtain ⟨v0, vs0, d0, ds0, p0, q0, hargs, rfl, rfl, h0, r0⟩ := trodAll_cons hA
  obtain ⟨v1, vs1, d1, ds1, p1, q1, rfl, rfl, rfl, h1, r1⟩ := trodAll_cons r0
  obtain ⟨rfl, rfl, rfl⟩ := trodAll_nil r1
  obtain rfl : args = #[v0, v1] := by cases args; simp_all
  obtain ⟨rfl, rfl⟩ := trodVars_none hV
  obtain ⟨a1, rfl, rfl, rfl, w1⟩ := open_string Tryz.underlying9 (hval 1 9 v1 rfl rfl) h1
  obtain ⟨A0, len0, cap0, rfl⟩ := okWide_slice Tryz.underlying22 (hval 0 22 v0 rfl rfl)
  have k0 := h0
  have lt0 : ∀ x ∈ p0, x.block < W.heap.size := by obtain ⟨m, hm⟩ := k0; exact DataW.trod_lt m _ _ _ hm
  obtain ⟨fuel, hf⟩ := h0
  obtain ⟨A, len, cap, l, hcs, hlen, hcap, hC, hbulk⟩ := open_rows k28 tb Tryz.underlying22 EncOpen.cells28 open_tok hf
  simp [Value.cells] at hcs
  obtain ⟨rfl, rfl, rfl⟩ := hcs
  subst hlen
  have hk2 : Rows.uptoBulk d0 + a1.size + 1 ≤ 1048576 := by
    have h := of_decide_eq_true hk
    simp only [List.append_nil, Rows.uptoBulkAll, Rows.uptoBulk] at h
    simp at h
    omega
  have hsum : (l.map tb).sum + 1 ≤ Rows.uptoBulk d0 := hbulk
  have hvars := vars_of_laid hL
  have h6 := total_le6 l
  have h7 := len_sum tb (fun t => by unfold tb; omega) l
  clear hA0 hf hk hL
  refine (law_any W A0 cap0 l a1 hvars hcap hC (small_of l (by omega)) (by omega) (by omega) (by omega)).mono fun e W' ⟨he, bel⟩ => ?_
  subst he
  exact ⟨_, rfl, _, _, _, [], _, [], hW', trodAll_mk1 (shut_bool Tryz.underlying4 _), (trodAll_cons_mk (Below.trod laidOut (by kernel_rfl) (of_decide_eq_true (by kernel_rfl)) k0 bel lt0) (trodAll_cons_mk (shut_string Tryz.underlying9 w1) trodAll_mk0)), rfl, bel.frame _, fun h => by cases h⟩

/-- A world for the witness: the handle's cell laid, then the other listed variables. -/
noncomputable def w00 (os : Os) : World :=
  let w0 := World.holding Tryz.prog os ⟨#[], #[], []⟩
  { w0 with heap := w0.heap.modify 1 fun
      | .cells _ t frozen => .cells #[.iface 145 (.agg #[.pointer (some ⟨12, 55, none⟩)])] t frozen
      | o => o }
noncomputable def laidWorld (os : Os) : World := (w00 os).layVars Tryz.prog plainLaid
theorem laidWorld_os (os : Os) : (laidWorld os).os = os := (World.layVars_os _ _ _).trans rfl
def args0 : Array Value := #[.slice none 0 0, .string ⟨#[]⟩]
theorem fits0 (os : Os) : (w00 os).layFits Tryz.prog plainLaid [] = true := by kernel_rfl
theorem ifaces0 (os : Os) : (w00 os).layIfaces Tryz.prog plainLaid (laidWorld os) = true := by kernel_rfl
theorem plain_met (os : Os) : laidMet Tryz.prog plainLaid ((laidWorld os).forCall (fun _ _ => 0) ⟨#[], args0, []⟩).memory := by
  have e1 : (plainLaid.filter fun x => (plainLaid.map (·.1)).contains x.1) = plainLaid := List.filter_eq_self.2 fun x hx => List.contains_iff_mem.2 (List.mem_map.2 ⟨x, hx, rfl⟩)
  have e2 : (plainLaid.filter fun x => !(plainLaid.map (·.1)).contains x.1) = [] := List.filter_eq_nil_iff.2 fun x hx => by rw [List.contains_iff_mem.2 (List.mem_map.2 ⟨x, hx, rfl⟩)]; simp
  have h : laidMet Tryz.prog plainLaid (laidWorld os) := laidMet_layVars (w0 := w00 os) (plainLaid.map (·.1)) [] (by rw [e1]; rfl) (by rw [e1]; exact fits0 os) (by rw [e1]; exact ifaces0 os) (by rw [e2]; exact LaidIn.none)
  exact h.of_heap (by simp [World.memory, World.forCall, Input.heap])
theorem laid_met (os : Os) : laidMetH Tryz.prog Rows.fnEncodeNestedUptoRow.laid ((laidWorld os).forCall (fun _ _ => 0) ⟨#[], args0, []⟩).memory :=
  laidMetH_of_parts (by rw [filt0]; exact plain_met os) (by rw [filt1]; kernel_rfl)
theorem shaped (os : Os) : ((laidWorld os).forCall (fun _ _ => 0) ⟨#[], args0, []⟩).Shaped Tryz.prog := World.shaped_of_ZipB (by kernel_rfl) (by kernel_rfl)
theorem fitting (os : Os) : Input.okWideB Tryz.prog ((laidWorld os).forCall (fun _ _ => 0) ⟨#[], args0, []⟩) 3 ⟨#[], args0, []⟩ = true := by kernel_rfl
theorem reads (os : Os) {H : Type} (enc : TypeId × Value → H) : ∃ places, DataW.whole enc Tryz.prog ((laidWorld os).forCall (fun _ _ => 0) ⟨#[], args0, []⟩).memory Tryz.f3.params.toList Rows.fnEncodeNestedSpec.vars false args0.toList 8 = some ([.nil, .lit (.string [])], [], places) :=
  ⟨[], by kernel_rfl⟩

set_option maxRecDepth 100000 in
theorem lifted (os : Os) (started : os.Started) (H : Type) (enc : TypeId × Value → H) (F : Stop.Interp) :
    ReturnsInHanded {} Tryz.checked os 3 .any ((Rows.OpenSpec.upto Rows.fnEncodeNestedSpec).preRow enc Tryz.prog Tryz.f3 Rows.fnEncodeNestedUptoRow.domain false Rows.fnEncodeNestedUptoRow.laid) (((Rows.OpenSpec.upto Rows.fnEncodeNestedSpec).at F).post enc Tryz.prog Tryz.f3 false true false false) := by
  obtain ⟨places, hx⟩ := reads os enc
  refine returnsInHanded_of_row (C := Tryz.checked) (s := Rows.OpenSpec.upto Rows.fnEncodeNestedSpec) own started (by kernel_rfl) Tryz.func3
    ⟨laidWorld os, fun _ _ => 0, ⟨#[], args0, []⟩, laidWorld_os os, shaped os, rfl, (Input.okWide_of_okWideB (fitting os)).2,
      OpenSpec.preRow_of_cond 8 hx (by kernel_rfl) (fun k hk => by cases hk; kernel_rfl) (by kernel_rfl) (laid_met os), by
      simp only [Assume.holds]
      exact ⟨by simp, by simp, fun _ => Modest.zero, by simp, by simp⟩⟩ ?_
  intro W base args ds gs before hval hW _ hcond _ hL _ _
  exact contract H enc W base args ds gs before hval hW (hcond _ rfl) hL

theorem over : Rows.FnEncodeNestedUptoSaid :=
  OpenClaim.holds_of_cond 3 Tryz.f3 rfl rfl rfl rfl rfl rfl rfl ⟨rfl, rfl, rfl, rfl, rfl⟩ rfl rfl rfl rfl rfl (by kernel_rfl) Tryz.func3 (by kernel_rfl)
    (of_decide_eq_true (by kernel_rfl)) (by unfold Func.isWrapper; first | (rw [if_pos (by decide +kernel)]; kernel_rfl) | (rw [if_neg (by decide +kernel)]; exact ⟨rfl, rfl⟩))
    (fun os started H enc _ F => by rw [OpenClaim.pre_eq_preRow]; exact lifted os started H enc F)

theorem plain (f : FuncId) (fn : Func) (hf : Tryz.pinned.checked.prog.funcNamed "xmltokens/laws.FnEncodeNested" = some f) (hfn : Tryz.pinned.checked.prog.funcs[f]? = some fn) :
    true = Tryz.pinned.checked.prog.looks [] ∧ ∀ (j : Nat) t, fn.params[j]? = some t → Tryz.pinned.checked.prog.wantsStandIn t = false := by
  obtain rfl : f = 3 := Option.some.inj ((show Tryz.prog.funcNamed "xmltokens/laws.FnEncodeNested" = some 3 by kernel_rfl).symm.trans hf) |>.symm
  obtain rfl : fn = Tryz.f3 := (Option.some.inj (Tryz.func3.symm.trans hfn)).symm
  refine ⟨by kernel_rfl, fun j t ht => ?_⟩
  rw [Tryz.params3] at ht
  have hm : t ∈ [22, 9] := by simpa using Array.mem_of_getElem? ht
  have hall : ([22, 9].all fun u => !Tryz.prog.wantsStandIn u) = true := by kernel_rfl
  exact (show Tryz.prog.wantsStandIn t = false by simpa using List.all_eq_true.1 hall t hm)

theorem cardUpto : Rows.FnEncodeNestedUptoCardSaid :=
  Claim7.holds_tied_plain_at .later [] _ _ _ _ over (fun _ h => by cases h) (by kernel_rfl) (fun _ h => by cases h) fnEncodeNestedUpto_row_tie rfl ⟨rfl, rfl⟩ (by kernel_rfl) rfl plain (by kernel_rfl)
#print axioms cardUpto

end Go.Proofs.YtjoahpmalhmjkaaGreatDoor.fnEncodeNested
namespace Go.Proofs.YtjoahpmalhmjkaaGreatDoor
/-- The card, under a short name, for the claim. -/
theorem fnEncodeNestedUpto_holds : Rows.FnEncodeNestedUptoCardSaid := fnEncodeNested.cardUpto
end Go.Proofs.YtjoahpmalhmjkaaGreatDoor
