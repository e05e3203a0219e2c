/- What is proved here: the reference's small functions answer on every input, and what their answers tell; conditions: texts of at most 2^40 bytes. -/
import Derived.Test.YtjoahpmalhmjkaaGreatDoorEncX5
import Derived.Test.YtjoahpmalhmjkaaGreatDoorPFnEncodeNestedx1
import Derived.Test.YtjoahpmalhmjkaaGreatDoorEncHas
import Derived.Test.YtjoahpmalhmjkaaGreatDoorIsWalk
namespace Go.Proofs.YtjoahpmalhmjkaaGreatDoor.EncTot
open Go.RowKit Go.Proofs.YtjoahpmalhmjkaaGreatDoorW.PrintWords Go.Proofs.YtjoahpmalhmjkaaGreatDoorW.PrintLast Go.Proofs.YtjoahpmalhmjkaaGreatDoorW.PrintMore
open Go.Proofs.YtjoahpmalhmjkaaGreatDoor.PFnEncodeNested Go.Proofs.YtjoahpmalhmjkaaGreatDoor.IsKind Go.Proofs.YtjoahpmalhmjkaaGreatDoor.EscDec Go.Proofs.YtjoahpmalhmjkaaGreatDoor.EscPure
set_option linter.unusedVariables false
set_option linter.unusedSimpArgs false

theorem wr1 (i : Nat) (h : i ≤ 1099511627776) : wrap64 ((i : Int) + 1) = ((i + 1 : Nat) : Int) := by unfold wrap64; omega

/-! ### IsName -/
theorem isName_from (s : ByteArray) (hs : s.size ≤ 1099511627776) : ∀ d i : Nat, s.size - i ≤ d → ∃ r, Ev (fun k => spec_IsName.l0 k s (s.size : Int) (i : Int)) r ∧ (r = true → kindOf s = 0) := by
  intro d
  induction d with
  | zero =>
    intro i hi
    obtain ⟨k, hk⟩ := kind_tells s hs
    refine ⟨((kindOf s : Nat) : Int) == 0, Ev.step (f := fun k => (spec_NameKind.f k s).bind fun t116 => some (t116 == 0)) (fun k => ?_) (Ev.bind (Ev.of (spec_NameKind.mono s) hk) (Ev.now _)), fun h => ?_⟩
    · simp only [spec_IsName.l0]
      rw [if_neg (by omega)]
    · have := beq_iff_eq.1 h
      omega
  | succ d ih =>
    intro i hi
    by_cases hlt : i < s.size
    · by_cases h58 : bt s (i : Int) = 58
      · refine ⟨false, Ev.step (f := fun _ => some false) (fun k => ?_) (Ev.now _), fun h => by cases h⟩
        simp only [spec_IsName.l0]
        rw [if_pos (by omega), if_pos (by omega), if_pos (by omega), if_pos h58]
      · obtain ⟨r, hr, hp⟩ := ih (i + 1) (by omega)
        refine ⟨r, Ev.step (f := fun k => spec_IsName.l0 k s (s.size : Int) ((i + 1 : Nat) : Int)) (fun k => ?_) hr, hp⟩
        simp only [spec_IsName.l0]
        rw [if_pos (by omega), if_pos (by omega), if_pos (by omega), if_neg h58, wr1 i (by omega)]
    · obtain ⟨k, hk⟩ := kind_tells s hs
      refine ⟨((kindOf s : Nat) : Int) == 0, Ev.step (f := fun k => (spec_NameKind.f k s).bind fun t116 => some (t116 == 0)) (fun k => ?_) (Ev.bind (Ev.of (spec_NameKind.mono s) hk) (Ev.now _)), fun h => ?_⟩
      · simp only [spec_IsName.l0]
        rw [if_neg (by omega)]
      · have := beq_iff_eq.1 h
        omega
theorem isName_tot (s : ByteArray) (hs : s.size ≤ 1099511627776) : ∃ r, Ev (fun k => spec_IsName.f k s) r ∧ (r = true → kindOf s = 0) := isName_from s hs s.size 0 (by omega)

/-- A name is no empty text, and the package takes it for one. -/
theorem name_facts (s : ByteArray) (h : kindOf s = 0) : 0 < s.size ∧ IsWalk.okFrom s s.size 0 ∧ IsWalk.nameOf s = true := by
  obtain ⟨h1, h2⟩ := IsWalk.kind_name s (by omega)
  have h3 := h2.1 h
  refine ⟨?_, h1, h3⟩
  unfold IsWalk.nameOf at h3
  simp only [Bool.and_eq_true, decide_eq_true_eq] at h3
  exact h3.1.1

/-! ### Chars -/
theorem isChar_tot (x : Int) : ∃ r, spec_IsChar.f x = some r := by
  unfold spec_IsChar.f
  repeat' split
  all_goals exact ⟨_, rfl⟩
theorem chars_tot : ∀ (d : Nat) (s : ByteArray), s.size ≤ d → s.size ≤ 1099511627776 → ∃ r, Ev (fun k => spec_Chars.l0 k s) r := by
  intro d
  induction d with
  | zero =>
    intro s hd hs
    refine ⟨true, Ev.step (f := fun _ => some true) (fun k => ?_) (Ev.now _)⟩
    simp only [spec_Chars.l0]
    rw [if_pos ((empty_iff s).2 (by omega))]
  | succ d ih =>
    intro s hd hs
    by_cases h0 : s.size = 0
    · refine ⟨true, Ev.step (f := fun _ => some true) (fun k => ?_) (Ev.now _)⟩
      simp only [spec_Chars.l0]
      rw [if_pos ((empty_iff s).2 h0)]
    · have hne : ¬ s.toList = [] := fun h => h0 ((empty_iff s).1 h)
      have hdec := decode_tells s hs
      have hw := dec_width s 0
      by_cases hn : (dec s 0).2 = 0
      · refine ⟨false, Ev.step (f := fun k => (spec_Decode.f k s).bind fun bt118 => (if bt118.2 = 0 then (some false) else ((spec_IsChar.f bt118.1).bind fun t120 => (if t120 = true then (if 0 ≤ bt118.2 then (if bt118.2 ≤ (s.size : Int) then (spec_Chars.l0 k (s.extract (bt118.2 : Int).toNat s.size)) else (none)) else (none)) else (some false))))) (fun k => ?_) (Ev.bind hdec ?_)⟩
        · simp only [spec_Chars.l0]
          rw [if_neg hne]
        · refine Ev.congr (f := fun _ => some false) (fun k => ?_) (Ev.now _)
          rw [if_pos (by simp [hn])]
      · obtain ⟨rc, hrc⟩ := isChar_tot (((dec s 0).1 : Nat) : Int)
        obtain ⟨r2, hr2⟩ := ih (s.extract (dec s 0).2 s.size) (by rw [ByteArray.size_extract]; omega) (by rw [ByteArray.size_extract]; omega)
        refine ⟨if rc = true then r2 else false, Ev.step (f := fun k => (spec_Decode.f k s).bind fun bt118 => (if bt118.2 = 0 then (some false) else ((spec_IsChar.f bt118.1).bind fun t120 => (if t120 = true then (if 0 ≤ bt118.2 then (if bt118.2 ≤ (s.size : Int) then (spec_Chars.l0 k (s.extract (bt118.2 : Int).toNat s.size)) else (none)) else (none)) else (some false))))) (fun k => ?_) (Ev.bind hdec ?_)⟩
        · simp only [spec_Chars.l0]
          rw [if_neg hne]
        · refine Ev.congr (f := fun k => if rc = true then spec_Chars.l0 k (s.extract (dec s 0).2 s.size) else some false) (fun k => ?_) ?_
          · simp only
            rw [if_neg (by omega), hrc]
            simp only [Option.bind_some]
            rw [if_pos (by omega : (0 : Int) ≤ ((dec s 0).2 : Int)), if_pos (by omega : ((dec s 0).2 : Int) ≤ (s.size : Int)), Int.toNat_natCast]
          · cases rc with
            | true => simpa using hr2
            | false => simpa using Ev.now false
theorem chars_any (s : ByteArray) (hs : s.size ≤ 1099511627776) : ∃ r, Ev (fun k => spec_Chars.f k s) r := chars_tot s.size s (Nat.le_refl _) hs

/-! ### verbatim -/
theorem verbatim_from (s : ByteArray) (hs : s.size ≤ 1099511627776) : ∀ d i : Nat, s.size - i ≤ d → ∃ r, Ev (fun k => spec_verbatim.l0 k s (s.size : Int) (i : Int)) r := by
  have hend : ∀ i : Nat, s.size ≤ i → ∃ r, Ev (fun k => spec_verbatim.l0 k s (s.size : Int) (i : Int)) r := by
    intro i hi
    obtain ⟨r, hr⟩ := chars_any s hs
    refine ⟨r, Ev.step (f := fun k => (spec_Chars.f k s).bind fun t133 => some t133) (fun k => ?_) (Ev.bind hr (Ev.now _))⟩
    simp only [spec_verbatim.l0]
    rw [if_neg (by omega)]
  intro d
  induction d with
  | zero => exact fun i hi => hend i (by omega)
  | succ d ih =>
    intro i hi
    by_cases hlt : i < s.size
    · by_cases h13 : bt s (i : Int) = 13
      · refine ⟨false, Ev.step (f := fun _ => some false) (fun k => ?_) (Ev.now _)⟩
        simp only [spec_verbatim.l0]
        rw [if_pos (by omega), if_pos (by omega), if_pos (by omega), if_pos h13]
      · obtain ⟨r, hr⟩ := ih (i + 1) (by omega)
        refine ⟨r, Ev.step (f := fun k => spec_verbatim.l0 k s (s.size : Int) ((i + 1 : Nat) : Int)) (fun k => ?_) hr⟩
        simp only [spec_verbatim.l0]
        rw [if_pos (by omega), if_pos (by omega), if_pos (by omega), if_neg h13, wr1 i (by omega)]
    · exact hend i (by omega)
theorem verbatim_tot (s : ByteArray) (hs : s.size ≤ 1099511627776) : ∃ r, Ev (fun k => spec_verbatim.f k s) r := verbatim_from s hs s.size 0 (by omega)

/-! ### holds -/
theorem holds_from (s t : ByteArray) (hs : s.size ≤ 1099511627776) (ht : t.size ≤ 1099511627776) : ∀ d i : Nat, s.size + 1 - i ≤ d → i ≤ s.size + 1 → ∃ r, Ev (fun k => spec_holds.l0 k s t (i : Int)) r ∧ (r = false → ∀ j, i ≤ j → j + t.size ≤ s.size → (s.data.toList.drop j).take t.size ≠ t.data.toList) := by
  have hend : ∀ i : Nat, s.size < i + t.size → i ≤ 1099511627777 → ∃ r, Ev (fun k => spec_holds.l0 k s t (i : Int)) r ∧ (r = false → ∀ j, i ≤ j → j + t.size ≤ s.size → (s.data.toList.drop j).take t.size ≠ t.data.toList) := by
    intro i hi hi2
    refine ⟨false, Ev.step (f := fun _ => some false) (fun k => ?_) (Ev.now _), fun _ j h1 h2 => by omega⟩
    simp only [spec_holds.l0]
    rw [if_neg (by unfold wrap64; omega)]
  intro d
  induction d with
  | zero => exact fun i hi hi2 => hend i (by omega) (by omega)
  | succ d ih =>
    intro i hi hi2
    by_cases hlt : i + t.size ≤ s.size
    · have hw : wrap64 ((i : Int) + (t.size : Int)) = ((i + t.size : Nat) : Int) := by unfold wrap64; omega
      have hex : (s.extract i (i + t.size)).toList = (s.data.toList.drop i).take t.size := by
        rw [Lib.toList_data, Lib.extract_data, Nat.add_sub_cancel_left]
      by_cases heq : (s.extract i (i + t.size)).toList = t.toList
      · refine ⟨true, Ev.step (f := fun _ => some true) (fun k => ?_) (Ev.now _), fun h => by cases h⟩
        simp only [spec_holds.l0]
        rw [hw, if_pos (by omega), if_pos (by omega), if_pos (by omega), Int.toNat_natCast, Int.toNat_natCast, if_pos heq]
      · obtain ⟨r, hr, hp⟩ := ih (i + 1) (by omega) (by omega)
        refine ⟨r, Ev.step (f := fun k => spec_holds.l0 k s t ((i + 1 : Nat) : Int)) (fun k => ?_) hr, fun h j h1 h2 => ?_⟩
        · simp only [spec_holds.l0]
          rw [hw, if_pos (by omega), if_pos (by omega), if_pos (by omega), Int.toNat_natCast, Int.toNat_natCast, if_neg heq, wr1 i (by omega)]
        · rcases Nat.lt_or_ge i j with hj | hj
          · exact hp h j hj h2
          · obtain rfl : j = i := by omega
            rw [hex, Lib.toList_data] at heq
            exact heq
    · exact hend i (by omega) (by omega)
theorem holds_tot (s t : ByteArray) (hs : s.size ≤ 1099511627776) (ht : t.size ≤ 1099511627776) : ∃ r, Ev (fun k => spec_holds.f k s t) r ∧ (r = false → EncSt.Nowhere s t) := by
  obtain ⟨r, h1, h2⟩ := holds_from s t hs ht (s.size + 1) 0 (by omega) (by omega)
  exact ⟨r, h1, fun h i hi => h2 h i (Nat.zero_le _) hi⟩

/-! ### reserved, isSpace, neat -/
theorem reserved_tot (s : ByteArray) : ∃ r, spec_reserved.f s = some r ∧ (r = false → s.toList ≠ [120, 109, 108]) := by
  by_cases hx : s.toList = [120, 109, 108]
  · have hs : s = ⟨#[120, 109, 108]⟩ := by
      rw [Lib.toList_data] at hx
      rw [← Lib.mk_data s, hx]
    subst hs
    exact ⟨true, by decide +kernel, fun h => by cases h⟩
  · unfold spec_reserved.f
    by_cases h3 : (s.size : Int) ≥ 3
    · rw [if_pos h3, if_pos (by omega)]
      by_cases ha : (Go.bits .or .u8 (bt s 0) 32) = 120
      · rw [if_pos ha, if_pos (by omega)]
        by_cases hb : (Go.bits .or .u8 (bt s 1) 32) = 109
        · rw [if_pos hb, if_pos (by omega)]
          exact ⟨_, rfl, fun _ => hx⟩
        · rw [if_neg hb]
          exact ⟨_, rfl, fun _ => hx⟩
      · rw [if_neg ha]
        exact ⟨_, rfl, fun _ => hx⟩
    · rw [if_neg h3]
      exact ⟨_, rfl, fun _ => hx⟩
theorem isSpace_tot (x : Int) : ∃ r, spec_isSpace.f x = some r := by
  unfold spec_isSpace.f
  repeat' split
  all_goals exact ⟨_, rfl⟩
theorem neat_tot (x : S28) : ∃ r, spec_neat.f x.f0 x.f1 x.f2 x.f3 x.f4 x.f5 = some r := by
  unfold spec_neat.f
  repeat' split
  all_goals exact ⟨_, rfl⟩

/-! ### named -/
theorem empty_eq {s : ByteArray} (h : s.toList = []) : s = ⟨#[]⟩ := by
  rw [Lib.toList_data] at h
  rw [← Lib.mk_data s, h]
theorem named_tot (sp loc : ByteArray) (hs : loc.size ≤ 1099511627776) : ∃ r, Ev (fun k => spec_named.f k sp loc false false) r ∧ (r = true → sp = ⟨#[]⟩ ∧ kindOf loc = 0) := by
  obtain ⟨rn, hn, hp⟩ := isName_tot loc hs
  unfold spec_named.f
  cases rn with
  | false =>
    refine ⟨false, Ev.bind hn ?_, fun h => by cases h⟩
    simpa using Ev.now false
  | true =>
    by_cases hx : loc.toList = [120, 109, 108, 110, 115]
    · refine ⟨false, Ev.bind hn ?_, fun h => by cases h⟩
      refine Ev.congr (f := fun _ => some false) (fun k => ?_) (Ev.now _)
      rw [if_pos rfl, if_pos hx]
    · by_cases he : sp.toList = []
      · refine ⟨true, Ev.bind hn ?_, fun _ => ⟨empty_eq he, hp rfl⟩⟩
        refine Ev.congr (f := fun _ => some true) (fun k => ?_) (Ev.now _)
        rw [if_pos rfl, if_neg hx, if_pos he, if_neg (by decide)]
      · refine ⟨false, Ev.bind hn ?_, fun h => by cases h⟩
        refine Ev.congr (f := fun _ => some false) (fun k => ?_) (Ev.now _)
        rw [if_pos rfl, if_neg hx, if_neg he, if_neg (by decide)]

/-! ### attributes -/
theorem attr_inner (l : List S59) (i : Nat) (hl : l.length ≤ 1099511627776) (hi : i ≤ l.length) (n0 n1 n2 : ByteArray) (r2 : Bool) (h2 : Ev (fun k => spec_attributes.l0 k l false l (l.length : Int) ((i + 1 : Nat) : Int)) r2) :
    ∀ d m : Nat, i - m ≤ d → m ≤ i → ∃ r, Ev (fun k => spec_attributes.l1 k l false l (l.length : Int) (i : Int) (l.take i) ((l.take i).length : Int) (m : Int) n0 n1 n2) r ∧ (r = true → r2 = true) := by
  have hlen : (l.take i).length = i := by rw [List.length_take]; omega
  have hend : ∃ r, Ev (fun k => spec_attributes.l1 k l false l (l.length : Int) (i : Int) (l.take i) ((l.take i).length : Int) (i : Int) n0 n1 n2) r ∧ (r = true → r2 = true) := by
    refine ⟨r2, Ev.step (f := fun k => spec_attributes.l0 k l false l (l.length : Int) ((i + 1 : Nat) : Int)) (fun k => ?_) h2, fun h => h⟩
    simp only [spec_attributes.l1]
    rw [if_neg (by omega), wr1 i (by omega)]
  intro d
  induction d with
  | zero =>
    intro m h1 h3
    obtain rfl : m = i := by omega
    exact hend
  | succ d ih =>
    intro m h1 h3
    by_cases hlt : m < i
    · obtain ⟨r, hr, hp⟩ := ih (m + 1) (by omega) (by omega)
      by_cases he : n0.toList = ((rd_T59 (l.take i) (m : Int)).f0).toList ∧ n1.toList = ((rd_T59 (l.take i) (m : Int)).f1).toList
      · refine ⟨false, Ev.step (f := fun _ => some false) (fun k => ?_) (Ev.now _), fun h => by cases h⟩
        simp only [spec_attributes.l1]
        rw [if_pos (by omega), if_pos (by omega), if_pos (by omega), if_pos he.1, if_pos he.2]
      · refine ⟨r, Ev.step (f := fun k => spec_attributes.l1 k l false l (l.length : Int) (i : Int) (l.take i) ((l.take i).length : Int) ((m + 1 : Nat) : Int) n0 n1 n2) (fun k => ?_) hr, hp⟩
        simp only [spec_attributes.l1]
        rw [if_pos (by omega), if_pos (by omega), if_pos (by omega), wr1 m (by omega)]
        by_cases h0 : n0.toList = ((rd_T59 (l.take i) (m : Int)).f0).toList
        · rw [if_pos h0, if_neg (fun h => he ⟨h0, h⟩)]
        · rw [if_neg h0]
    · obtain rfl : m = i := by omega
      exact hend

theorem attr_from (l : List S59) (hl : l.length ≤ 1099511627776) (hs : ∀ a ∈ l, a.f1.size ≤ 1099511627776 ∧ a.f2.size ≤ 1099511627776) :
    ∀ d i : Nat, l.length - i ≤ d → i ≤ l.length → ∃ r, Ev (fun k => spec_attributes.l0 k l false l (l.length : Int) (i : Int)) r ∧ (r = true → ∀ a ∈ l.drop i, a.f0 = ⟨#[]⟩ ∧ 0 < a.f1.size) := by
  have hend : ∃ r, Ev (fun k => spec_attributes.l0 k l false l (l.length : Int) (l.length : Int)) r ∧ (r = true → ∀ a ∈ l.drop l.length, a.f0 = ⟨#[]⟩ ∧ 0 < a.f1.size) := by
    refine ⟨true, Ev.step (f := fun _ => some true) (fun k => ?_) (Ev.now _), fun _ a ha => ?_⟩
    · simp only [spec_attributes.l0]
      rw [if_neg (by omega)]
    · rw [List.drop_length] at ha
      cases ha
  intro d
  induction d with
  | zero =>
    intro i h1 h3
    obtain rfl : i = l.length := by omega
    exact hend
  | succ d ih =>
    intro i h1 h3
    by_cases hlt : i < l.length
    · have hrd : rd_T59 l (i : Int) = l[i] := by
        unfold rd_T59
        rw [List.getD_eq_getElem?_getD]
        simp [hlt]
      have hdrop : l.drop i = l[i] :: l.drop (i + 1) := List.drop_eq_getElem_cons hlt
      have hsz := hs l[i] (List.getElem_mem hlt)
      rw [hdrop]
      generalize l[i] = a at hrd hsz ⊢
      obtain ⟨rn, hn, hnp⟩ := named_tot a.f0 a.f1 hsz.1
      obtain ⟨rc, hc⟩ := chars_any a.f2 hsz.2
      obtain ⟨r2, h2, h2p⟩ := ih (i + 1) (by omega) (by omega)
      obtain ⟨r, hr, hrp⟩ := attr_inner l i hl (by omega) a.f0 a.f1 a.f2 r2 h2 i 0 (by omega) (by omega)
      have hbad : Ev (fun k => spec_attributes.j1 k l false (i : Int) l (l.length : Int) (i : Int) true a.f0 a.f1 a.f2) false := by
        refine Ev.step (f := fun _ => some false) (fun k => ?_) (Ev.now _)
        simp only [spec_attributes.j1]
        rw [if_pos trivial]
      have hgood : Ev (fun k => spec_attributes.j1 k l false (i : Int) l (l.length : Int) (i : Int) false a.f0 a.f1 a.f2) r := by
        refine Ev.step (f := fun k => spec_attributes.l1 k l false l (l.length : Int) (i : Int) (l.take i) ((l.take i).length : Int) ((0 : Nat) : Int) a.f0 a.f1 a.f2) (fun k => ?_) hr
        simp only [spec_attributes.j1]
        rw [if_neg (by decide), if_pos (by omega), if_pos (by omega), Int.toNat_natCast]
        rfl
      have hstep : ∀ k, spec_attributes.l0 (k + 1) l false l (l.length : Int) (i : Int) = (spec_named.f k a.f0 a.f1 false false).bind fun t125 => (if t125 = true then ((spec_Chars.f k a.f2).bind fun t126 => (spec_attributes.j1 k l false (i : Int) l (l.length : Int) (i : Int) (!t126) a.f0 a.f1 a.f2)) else (spec_attributes.j1 k l false (i : Int) l (l.length : Int) (i : Int) true a.f0 a.f1 a.f2)) := by
        intro k
        simp only [spec_attributes.l0]
        rw [if_pos (by omega), if_pos (by omega), if_pos (by omega), hrd]
      cases rn with
      | false =>
        refine ⟨false, Ev.step hstep (Ev.bind hn ?_), fun h => by cases h⟩
        simpa using hbad
      | true =>
        cases rc with
        | false =>
          refine ⟨false, Ev.step hstep (Ev.bind hn ?_), fun h => by cases h⟩
          simp only [if_true]
          exact Ev.bind hc (by simpa using hbad)
        | true =>
          refine ⟨r, Ev.step hstep (Ev.bind hn ?_), fun h b hb => ?_⟩
          · simp only [if_true]
            exact Ev.bind hc (by simpa using hgood)
          · rcases List.mem_cons.1 hb with rfl | hb
            · obtain ⟨e1, e2⟩ := hnp rfl
              exact ⟨e1, (name_facts b.f1 e2).1⟩
            · exact h2p (hrp h) b hb
    · obtain rfl : i = l.length := by omega
      exact hend
theorem attr_tot (l : List S59) (hl : l.length ≤ 1099511627776) (hs : ∀ a ∈ l, a.f1.size ≤ 1099511627776 ∧ a.f2.size ≤ 1099511627776) :
    ∃ r, Ev (fun k => spec_attributes.f k l false) r ∧ (r = true → ∀ a ∈ l, a.f0 = ⟨#[]⟩ ∧ 0 < a.f1.size) := by
  obtain ⟨r, h1, h2⟩ := attr_from l hl hs l.length 0 (by omega) (by omega)
  exact ⟨r, h1, h2⟩

/-! ### the sizes -/
theorem fits7_tot (a b c : ByteArray) : ∃ r, laws_zzFits7.f a b c = some r := by
  unfold laws_zzFits7.f
  repeat' split
  all_goals exact ⟨_, rfl⟩
theorem fits6_from (l : List S59) (hl : l.length ≤ 1099511627776) : ∀ d i : Nat, l.length - i ≤ d → ∃ r, Ev (fun k => laws_zzFits6.l0 k l (l.length : Int) (i : Int)) r := by
  have hend : ∀ i : Nat, l.length ≤ i → ∃ r, Ev (fun k => laws_zzFits6.l0 k l (l.length : Int) (i : Int)) r := by
    intro i hi
    refine ⟨true, Ev.step (f := fun _ => some true) (fun k => ?_) (Ev.now _)⟩
    simp only [laws_zzFits6.l0]
    rw [if_neg (by omega)]
  intro d
  induction d with
  | zero => exact fun i hi => hend i (by omega)
  | succ d ih =>
    intro i hi
    by_cases hlt : i < l.length
    · obtain ⟨r7, h7⟩ := fits7_tot ((rd_T59 l (i : Int)).f0) ((rd_T59 l (i : Int)).f1) ((rd_T59 l (i : Int)).f2)
      obtain ⟨r, hr⟩ := ih (i + 1) (by omega)
      refine ⟨if r7 = true then r else false, Ev.step (f := fun k => if r7 = true then laws_zzFits6.l0 k l (l.length : Int) ((i + 1 : Nat) : Int) else some false) (fun k => ?_) ?_⟩
      · simp only [laws_zzFits6.l0]
        rw [if_pos (by omega), if_pos (by omega), if_pos (by omega), h7, wr1 i (by omega)]
        rfl
      · cases r7 with
        | true => simpa using hr
        | false => simpa using Ev.now false
    · exact hend i (by omega)
theorem fits6_tot (l : List S59) (hl : l.length ≤ 1099511627776) : ∃ r, Ev (fun k => laws_zzFits6.f k l) r := by
  unfold laws_zzFits6.f
  by_cases h : (l.length : Int) > 2147483647
  · exact ⟨false, Ev.congr (f := fun _ => some false) (fun k => by rw [if_pos h]) (Ev.now _)⟩
  · obtain ⟨r, hr⟩ := fits6_from l hl l.length 0 (by omega)
    exact ⟨r, Ev.congr (f := fun k => laws_zzFits6.l0 k l (l.length : Int) ((0 : Nat) : Int)) (fun k => by rw [if_neg h]; rfl) hr⟩
theorem fits5_tot (x : S28) (hl : x.f3.length ≤ 1099511627776) : ∃ r, Ev (fun k => laws_zzFits5.f k x.f0 x.f1 x.f2 x.f3 x.f4 x.f5) r := by
  obtain ⟨r6, h6⟩ := fits6_tot x.f3 hl
  unfold laws_zzFits5.f
  by_cases h1 : (x.f1.size : Int) > 2147483647
  · exact ⟨false, Ev.congr (f := fun _ => some false) (fun k => by rw [if_pos h1]) (Ev.now _)⟩
  by_cases h2 : (x.f2.size : Int) > 2147483647
  · exact ⟨false, Ev.congr (f := fun _ => some false) (fun k => by rw [if_neg h1, if_pos h2]) (Ev.now _)⟩
  refine ⟨if r6 = true then (if (x.f4.size : Int) > 2147483647 then false else true) else false, Ev.congr (f := fun k => (laws_zzFits6.f k x.f3).bind fun t106 => (if t106 = true then (if (x.f4.size : Int) > 2147483647 then (some false) else (some true)) else (some false))) (fun k => by rw [if_neg h1, if_neg h2]) (Ev.bind h6 ?_)⟩
  refine Ev.congr (f := fun _ => some (if r6 = true then (if (x.f4.size : Int) > 2147483647 then false else true) else false)) (fun k => ?_) (Ev.now _)
  repeat' split
  all_goals rfl
theorem fits4_from (l : List S28) (hl : l.length ≤ 1099511627776) (hs : ∀ x ∈ l, x.f3.length ≤ 1099511627776) : ∀ d i : Nat, l.length - i ≤ d → ∃ r, Ev (fun k => laws_zzFits4.l0 k l (l.length : Int) (i : Int)) r := by
  have hend : ∀ i : Nat, l.length ≤ i → ∃ r, Ev (fun k => laws_zzFits4.l0 k l (l.length : Int) (i : Int)) r := by
    intro i hi
    refine ⟨true, Ev.step (f := fun _ => some true) (fun k => ?_) (Ev.now _)⟩
    simp only [laws_zzFits4.l0]
    rw [if_neg (by omega)]
  intro d
  induction d with
  | zero => exact fun i hi => hend i (by omega)
  | succ d ih =>
    intro i hi
    by_cases hlt : i < l.length
    · have hrd : rd_T28 l (i : Int) = l[i] := by
        unfold rd_T28
        rw [List.getD_eq_getElem?_getD]
        simp [hlt]
      obtain ⟨r5, h5⟩ := fits5_tot l[i] (hs _ (List.getElem_mem hlt))
      obtain ⟨r, hr⟩ := ih (i + 1) (by omega)
      refine ⟨if r5 = true then r else false, Ev.step (f := fun k => (laws_zzFits5.f k l[i].f0 l[i].f1 l[i].f2 l[i].f3 l[i].f4 l[i].f5).bind fun t109 => if t109 = true then laws_zzFits4.l0 k l (l.length : Int) ((i + 1 : Nat) : Int) else some false) (fun k => ?_) (Ev.bind h5 ?_)⟩
      · simp only [laws_zzFits4.l0]
        rw [if_pos (by omega), if_pos (by omega), if_pos (by omega), hrd, wr1 i (by omega)]
      · cases r5 with
        | true => simpa using hr
        | false => simpa using Ev.now false
    · exact hend i (by omega)
theorem fits4_tot (l : List S28) (hl : l.length ≤ 1099511627776) (hs : ∀ x ∈ l, x.f3.length ≤ 1099511627776) : ∃ r, Ev (fun k => laws_zzFits4.f k l) r := by
  unfold laws_zzFits4.f
  by_cases h : (l.length : Int) > 2147483647
  · exact ⟨false, Ev.congr (f := fun _ => some false) (fun k => by rw [if_pos h]) (Ev.now _)⟩
  · obtain ⟨r, hr⟩ := fits4_from l hl hs l.length 0 (by omega)
    exact ⟨r, Ev.congr (f := fun k => laws_zzFits4.l0 k l (l.length : Int) ((0 : Nat) : Int)) (fun k => by rw [if_neg h]; rfl) hr⟩

end Go.Proofs.YtjoahpmalhmjkaaGreatDoor.EncTot
