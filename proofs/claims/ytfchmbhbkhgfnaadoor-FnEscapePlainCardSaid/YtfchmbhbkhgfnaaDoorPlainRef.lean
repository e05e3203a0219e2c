/- What is proved here: the reader's reference, at the eight references that an escaped text holds; conditions: those that each theorem names. -/
import Derived.Test.YtfchmbhbkhgfnaaDoorPlainSt
import Derived.Test.YtfchmbhbkhgfnaaDoorPFnEscapePlainx5
import Derived.Test.YtfchmbhbkhgfnaaDoorNameKind
import Derived.RegionTactic
import Derived.Great.Walk
namespace Go.Proofs.YtfchmbhbkhgfnaaDoor.PlainSt
open Go.RowKit Go.Proofs.YtfchmbhbkhgfnaaDoorW.PrintWords Go.Proofs.YtfchmbhbkhgfnaaDoorW.PrintLast Go.Proofs.YtfchmbhbkhgfnaaDoorW.PrintMore
open Go.Proofs.YtfchmbhbkhgfnaaDoor.EscPure Go.Proofs.YtfchmbhbkhgfnaaDoor.EscDec Go.Proofs.YtfchmbhbkhgfnaaDoor.PFnEscapePlain
attribute [local go_sem] max2_int min2_int max_two min_two max_three min_three max_four min_four
set_option linter.unusedVariables false
set_option linter.unusedSimpArgs false

theorem num34 : spec_number.f 20 (⟨#[51, 52]⟩ : ByteArray) = some (34, true) := by decide +kernel
theorem num39 : spec_number.f 20 (⟨#[51, 57]⟩ : ByteArray) = some (39, true) := by decide +kernel
theorem num9 : spec_number.f 20 (⟨#[120, 57]⟩ : ByteArray) = some (9, true) := by decide +kernel
theorem num10 : spec_number.f 20 (⟨#[120, 65]⟩ : ByteArray) = some (10, true) := by decide +kernel
theorem num13 : spec_number.f 20 (⟨#[120, 68]⟩ : ByteArray) = some (13, true) := by decide +kernel
theorem nk_lt : spec_NameKind.f 20 (⟨#[108, 116]⟩ : ByteArray) = some 0 := by decide +kernel
theorem nk_gt : spec_NameKind.f 20 (⟨#[103, 116]⟩ : ByteArray) = some 0 := by decide +kernel
theorem nk_amp : spec_NameKind.f 20 (⟨#[97, 109, 112]⟩ : ByteArray) = some 0 := by decide +kernel
theorem enc_low (r : Int) (h : r < 128) : spec_Encode.f r = some (strOfNums [r % 256]) := by
  unfold spec_Encode.f
  rw [if_pos h]

def pairName : Nat → ByteArray
  | 0 => ⟨#[108, 116]⟩
  | 1 => ⟨#[103, 116]⟩
  | 2 => ⟨#[97, 109, 112]⟩
  | 3 => ⟨#[97, 112, 111, 115]⟩
  | _ => ⟨#[113, 117, 111, 116]⟩
def pairText : Nat → ByteArray
  | 0 => ⟨#[60]⟩
  | 1 => ⟨#[62]⟩
  | 2 => ⟨#[38]⟩
  | 3 => ⟨#[39]⟩
  | _ => ⟨#[34]⟩
def lit : Array Value := #[.string ⟨#[108, 116]⟩, .string ⟨#[60]⟩, .string ⟨#[103, 116]⟩, .string ⟨#[62]⟩, .string ⟨#[97, 109, 112]⟩, .string ⟨#[38]⟩, .string ⟨#[97, 112, 111, 115]⟩, .string ⟨#[39]⟩, .string ⟨#[113, 117, 111, 116]⟩, .string ⟨#[34]⟩]

theorem lit_cells {W : World} {B : Nat} (h : W.heap[B]? = some (.cells lit 74 (0, 0))) (i : Nat) (hi : i < 5) :
    W.cell? ⟨B, i * 2, none⟩ = some (.string (pairName i)) ∧ W.cell? ⟨B, i * 2 + 1, none⟩ = some (.string (pairText i)) := by
  have h5 : i = 0 ∨ i = 1 ∨ i = 2 ∨ i = 3 ∨ i = 4 := by omega
  rcases h5 with rfl | rfl | rfl | rfl | rfl
  all_goals exact ⟨(blk_cell h _).trans rfl, (blk_cell h _).trans rfl⟩

/-- The name of a reference: it ends at a semicolon. -/
def Named (e : ByteArray) (a j : Nat) (nm : ByteArray) : Prop := a ≤ j ∧ j < e.size ∧ bt e (j : Int) = 59 ∧ (∀ i : Nat, a ≤ i → i < j → bt e (i : Int) ≠ 59) ∧ e.extract a j = nm

set_option maxRecDepth 100000 in
set_option maxHeartbeats 2000000 in
theorem ref_num (w0 w : World) (g : Nat) (e : ByteArray) (a j : Nat) (nm : ByteArray) (v5 : Value) (r : Int) (k : Nat) (t : ByteArray) (h : PS w0 w g e a v5) (he : e.size < 9223372036854775808)
    (hn : Named e a j nm) (h35 : bt nm 0 = 35) (hs : 0 < nm.size) (hr : spec_number.f k (nm.extract 1 nm.size) = some (r, true)) (hc : spec_IsChar.f r = some true) (ht : spec_Encode.f r = some t) :
    Calls Tryd.prog 40 #[.pointer (some ⟨g, 0, none⟩)] w fun x w' => x = .returned (.tuple #[.string t, .bool true]) ∧ PS w0 w' g e (j + 1) v5 := by
  have HP := Aside0.mk h
  have HN := Aside0.mk hn
  have HR := Aside0.mk hr
  have HC := Aside0.mk hc
  have HT := Aside0.mk ht
  have H35 := Aside0.mk h35
  have h0 := h.c0
  have h1 := h.c1
  have f0 := h.fz 0
  have f1 := h.fz 1
  clear h hn hr hc ht h35
  go_enter Tryd.func40, Tryd.ntmps40
  go_wp2_with fail
  go_loopw [4] (fun v4 W => W = w ∧ ∃ n : Nat, v4 = .int .i64 n ∧ Aside0 (a ≤ n ∧ n ≤ j)) (fun v4 _ => j - (intOf v4).toNat)
  case atStart => exact ⟨rfl, a, rfl, ⟨Nat.le_refl _, HN.out.1⟩⟩
  case round =>
    obtain ⟨rfl, n, rfl, HB⟩ := hrel
    have hns : n < e.size := by have := HN.out.2.1; have := HB.out.2; omega
    have hx := bt_at e (n : Int)
    rw [Int.toNat_natCast] at hx
    have hr := bt_range e (n : Int)
    by_cases hj : n = j
    · subst hj
      have hb : bt e (n : Int) = 59 := HN.out.2.2.1
      generalize hcc : bt e (n : Int) = c at *
      have hc1 : (c == 59) = true := beq_iff_eq.2 hb
      have hc2 : (c != 59) = false := bne_eq_false_iff_eq.2 hb
      clear hb
      have hend : ((n : Int) == (e.size : Int)) = false := beq_eq_false_iff_ne.2 (by omega)
      go_wp2_with fail
      have ha := HB.out.1
      have hnm := HN.out.2.2.2.2
      have HX := Aside0.mk (show (n : Int) + 1 = ((n + 1 : Nat) : Int) by omega)
      have c5 : (0 : Int) ≤ (a : Int) := by omega
      have c6 : (a : Int) ≤ (n : Int) := by omega
      have c7 : (n : Int) ≤ (e.size : Int) := by omega
      have c9 : (n : Int) < 9223372036854775807 := by omega
      have hnm' : e.extract ((a : Int)).toNat ((n : Int)).toNat = nm := by rw [show ((a : Int)).toNat = a by omega, show ((n : Int)).toNat = n by omega]; exact hnm
      clear hnm hx hr hc1 hc2 hcc ha hns hend HB
      have hw : wrap64 ((n : Int) + 1) = (n : Int) + 1 := by unfold wrap64; omega
      generalize (a : Int) = x at h1 c5 c6 hnm'
      generalize (n : Int) = y at c6 c7 c9 hnm' HX hw
      have c5b0 := eq_true c5
      have c5b1 := decide_eq_true c5
      have c6b0 := eq_true c6
      have c6b1 := decide_eq_true c6
      have c7b0 := eq_true c7
      have c7b1 := decide_eq_true c7
      have hem : nm.toList.isEmpty = false := by
        rw [Lib.toList_data, List.isEmpty_eq_false_iff]
        intro h
        have h2 := Lib.size_eq nm
        rw [h, List.length_nil] at h2
        omega
      have hnl : ¬ nm.toList = [] := List.isEmpty_eq_false_iff.1 hem
      have hx5 : ((nm[0]'hs).toNat : Int) = 35 := by
        rw [← H35.out]
        exact bt_at nm 0 (by simpa using hs)
      go_quiet (fail)
      have HP2 := Aside0.mk (PS.goto (PS.drewN HP.out nq) _ _ HX.out)
      go_wp2_with fail
      with_reducible refine (spec_number.calls k _ r true _ HR.out).mono ?_
      rintro e1 w1 ⟨rfl, hd⟩
      have HP3 := Aside0.mk (PS.drawn HP2.out hd)
      clear hd
      go_wp2_with fail
      with_reducible refine (PFnEscapePlain.spec_IsChar.calls r true _ HC.out).mono ?_
      rintro e2 w2 ⟨rfl, hd⟩
      have HP4 := Aside0.mk (PS.drawn HP3.out hd)
      clear hd
      go_wp2_with fail
      with_reducible refine (spec_Encode.calls r t _ HT.out).mono ?_
      rintro e3 w3 ⟨rfl, hd⟩
      have HP5 := Aside0.mk (PS.below HP4.out hd)
      clear hd
      go_wp2_with fail
      go_ret2
      exact ⟨rfl, HP5.out⟩
    · have hb : bt e (n : Int) ≠ 59 := HN.out.2.2.2.1 n HB.out.1 (by have := HB.out.2; omega)
      generalize hcc : bt e (n : Int) = c at *
      have hc1 : (c == 59) = false := beq_eq_false_iff_ne.2 hb
      have hc2 : (c != 59) = true := bne_iff_ne.2 hb
      clear hb
      go_wp2_with fail
      go_roundw
      case rel => exact ⟨by trivial, n + 1, by simp, ⟨by have := HB.out; omega⟩⟩
      case measure => simp [intOf]; have := HB.out; omega

set_option maxRecDepth 100000 in
set_option maxHeartbeats 2000000 in
theorem ref_name (w0 w : World) (g : Nat) (e : ByteArray) (a j : Nat) (nm : ByteArray) (v5 : Value) (k : Nat) (t : ByteArray) (h : PS w0 w g e a v5) (he : e.size < 9223372036854775808)
    (hn : Named e a j nm) (h35 : bt nm 0 ≠ 35) (hs : 0 < nm.size) (hr : spec_NameKind.f k nm = some 0) (idx : Nat) (hidx : idx < 5) (hname : pairName idx = nm) (hno : ∀ i : Nat, i < idx → pairName i ≠ nm) (htext : pairText idx = t) :
    Calls Tryd.prog 40 #[.pointer (some ⟨g, 0, none⟩)] w fun x w' => x = .returned (.tuple #[.string t, .bool true]) ∧ PS w0 w' g e (j + 1) v5 := by
  have HP := Aside0.mk h
  have HN := Aside0.mk hn
  have HR := Aside0.mk hr
  have H35 := Aside0.mk h35
  have h0 := h.c0
  have h1 := h.c1
  have f0 := h.fz 0
  have f1 := h.fz 1
  have HNAME := Aside0.mk hname
  have HNO := Aside0.mk hno
  have HTEXT := Aside0.mk htext
  clear h hn hr h35 hname hno htext
  go_enter Tryd.func40, Tryd.ntmps40
  go_wp2_with fail
  go_loopw [4] (fun v4 W => W = w ∧ ∃ n : Nat, v4 = .int .i64 n ∧ Aside0 (a ≤ n ∧ n ≤ j)) (fun v4 _ => j - (intOf v4).toNat)
  case atStart => exact ⟨rfl, a, rfl, ⟨Nat.le_refl _, HN.out.1⟩⟩
  case round =>
    obtain ⟨rfl, n, rfl, HB⟩ := hrel
    have hns : n < e.size := by have := HN.out.2.1; have := HB.out.2; omega
    have hx := bt_at e (n : Int)
    rw [Int.toNat_natCast] at hx
    have hr := bt_range e (n : Int)
    by_cases hj : n = j
    · subst hj
      have hb : bt e (n : Int) = 59 := HN.out.2.2.1
      generalize hcc : bt e (n : Int) = c at *
      have hc1 : (c == 59) = true := beq_iff_eq.2 hb
      have hc2 : (c != 59) = false := bne_eq_false_iff_eq.2 hb
      clear hb
      have hend : ((n : Int) == (e.size : Int)) = false := beq_eq_false_iff_ne.2 (by omega)
      go_wp2_with fail
      have ha := HB.out.1
      have hnm := HN.out.2.2.2.2
      have HX := Aside0.mk (show (n : Int) + 1 = ((n + 1 : Nat) : Int) by omega)
      have c5 : (0 : Int) ≤ (a : Int) := by omega
      have c6 : (a : Int) ≤ (n : Int) := by omega
      have c7 : (n : Int) ≤ (e.size : Int) := by omega
      have c9 : (n : Int) < 9223372036854775807 := by omega
      have hnm' : e.extract ((a : Int)).toNat ((n : Int)).toNat = nm := by rw [show ((a : Int)).toNat = a by omega, show ((n : Int)).toNat = n by omega]; exact hnm
      clear hnm hx hr hc1 hc2 hcc ha hns hend HB
      have hw : wrap64 ((n : Int) + 1) = (n : Int) + 1 := by unfold wrap64; omega
      generalize (a : Int) = x at h1 c5 c6 hnm'
      generalize (n : Int) = y at c6 c7 c9 hnm' HX hw
      have c5b0 := eq_true c5
      have c5b1 := decide_eq_true c5
      have c6b0 := eq_true c6
      have c6b1 := decide_eq_true c6
      have c7b0 := eq_true c7
      have c7b1 := decide_eq_true c7
      have hem : nm.toList.isEmpty = false := by
        rw [Lib.toList_data, List.isEmpty_eq_false_iff]
        intro h
        have h2 := Lib.size_eq nm
        rw [h, List.length_nil] at h2
        omega
      have hnl : ¬ nm.toList = [] := List.isEmpty_eq_false_iff.1 hem
      have hx5 : (((nm[0]'hs).toNat : Int) == 35) = false := by
        rw [beq_eq_false_iff_ne]
        have hq := bt_at nm 0 (by simpa using hs)
        exact fun h => H35.out (hq.symm.trans h)
      go_quiet (fail)
      have HP2 := Aside0.mk (PS.goto (PS.drewN HP.out nq) _ _ HX.out)
      go_wp2_with fail
      with_reducible refine (spec_NameKind.calls k _ 0 _ HR.out).mono ?_
      rintro e1 w1 ⟨rfl, hd⟩
      have HP3 := Aside0.mk (PS.drawn HP2.out hd)
      clear hd HP2 HP h0 h1 f0 f1
      have h3 := HP3.out.c3
      have f3 := HP3.out.fz 3
      have hl3 := blk_lt HP3.out.1
      have hne3 : g ≠ w1.heap.size := by omega
      have hne4 : w1.heap.size ≠ g := by omega
      go_wp2_with fail
      obtain ⟨B, hBB⟩ : ∃ B, B = w1.heap.size := ⟨_, rfl⟩
      have HLIT := Aside0.mk (show (w1.alloc (.cells lit 74)).heap[B]? = some (.cells lit 74 (0, 0)) from by rw [hBB]; exact heap_alloc_new w1 _)
      have HP4 := Aside0.mk (PS.alloc HP3.out (.cells lit 74))
      unfold lit at HLIT HP4
      rw [← hBB] at *
      generalize w1.alloc _ = w2 at *
      clear hBB hl3 hne3 hne4 h3 f3 HP3
      go_loopw [105] (fun v105 W => ∃ i : Nat, v105 = .int .i64 i ∧ Aside0 (i ≤ idx) ∧ Aside0 (PS w0 W g e (n + 1) v5 ∧ W.heap[B]? = some (.cells lit 74 (0, 0)))) (fun v105 _ => idx - (intOf v105).toNat)
      case atStart => exact ⟨0, rfl, ⟨Nat.zero_le _⟩, ⟨HP4.out, HLIT.out⟩⟩
      case round =>
        obtain ⟨i, rfl, HI, HW⟩ := hrel
        have hi5 : i < 5 := by have := HI.out; omega
        obtain ⟨hcn, hct⟩ := lit_cells HW.out.2 i hi5
        have hBl := blk_lt HW.out.2
        have hBne : B ≠ wr.heap.size := by omega
        have hIdx := HI.out
        by_cases hii : i = idx
        · have hcmp : ((pairName i).toList == nm.toList) = true := by
            rw [hii, HNAME.out]
            exact beq_self_eq_true _
          have htx : pairText i = t := by rw [hii]; exact HTEXT.out
          clear hii
          rw [htx] at hct
          generalize pairName i = pn at *
          have HPP := Aside0.mk (PS.alloc HW.out.1 (.cells #[.string pn, .string t] 74))
          go_wp2_with fail
          go_ret2
          exact ⟨rfl, HPP.out⟩
        · have hne := HNO.out i (by have := HI.out; omega)
          have hcmp : ((pairName i).toList == nm.toList) = false := by
            rw [beq_eq_false_iff_ne, Lib.toList_data, Lib.toList_data]
            intro h
            apply hne
            rw [← Lib.mk_data (pairName i), ← Lib.mk_data nm, h]
          have HLT := Aside0.mk (show i < idx from by omega)
          clear hne hii
          generalize pairName i = pn at *
          generalize pairText i = pt at *
          have HPP := Aside0.mk (PS.alloc HW.out.1 (.cells #[.string pn, .string pt] 74))
          have HLL := Aside0.mk ((below_alloc (Below.refl wr.heap.size wr) (.cells #[.string pn, .string pt] 74)).block B hBl |>.trans HW.out.2)
          
          go_wp2_with fail
          go_roundw
          case rel => exact ⟨i + 1, by simp, ⟨HLT.out⟩, ⟨HPP.out, HLL.out⟩⟩
          case measure => simp [intOf]; have := HLT.out; omega
    · have hb : bt e (n : Int) ≠ 59 := HN.out.2.2.2.1 n HB.out.1 (by have := HB.out.2; omega)
      generalize hcc : bt e (n : Int) = c at *
      have hc1 : (c == 59) = false := beq_eq_false_iff_ne.2 hb
      have hc2 : (c != 59) = true := bne_iff_ne.2 hb
      clear hb
      go_wp2_with fail
      go_roundw
      case rel => exact ⟨by trivial, n + 1, by simp, ⟨by have := HB.out; omega⟩⟩
      case measure => simp [intOf]; have := HB.out; omega

end Go.Proofs.YtfchmbhbkhgfnaaDoor.PlainSt
