/- What is proved here: the two ways to look at a directive (the package's one pass, the reference's jumps) tell the same of every text of at most 65536 bytes that holds no comment that is too short. -/
import Derived.Test.YtfcefkenpndblaaDirB
import Derived.Lib.Strings
namespace Go.Proofs.Ytfcefkenpndblaa.DirPure
open Go.RowKit Go.Proofs.YtfcefkenpndblaaW.PrintWords Go.Proofs.YtfcefkenpndblaaW.PrintLast Go.Proofs.YtfcefkenpndblaaW.PrintMore Go.Proofs.Ytfcefkenpndblaa.DirF

theorem wr {x : Int} (h0 : -9223372036854775808 ≤ x) (h1 : x < 9223372036854775808) : wrap64 x = x := by
  unfold wrap64
  omega

/-! ### Parts of a text -/
def At (s : ByteArray) (m : Nat) (p : List UInt8) : Prop := (s.data.toList.drop m).take p.length = p
instance (s : ByteArray) (m : Nat) (p : List UInt8) : Decidable (At s m p) := inferInstanceAs (Decidable (_ = _))

theorem At.le {s : ByteArray} {m : Nat} {p : List UInt8} (h : At s m p) (hp : 0 < p.length) : m + p.length ≤ s.size := by
  have := congrArg List.length h
  rw [List.length_take, List.length_drop, ← Lib.size_eq] at this
  omega

theorem At.get {s : ByteArray} {m : Nat} {p : List UInt8} (h : At s m p) (j : Nat) (hj : j < p.length) : s.data.toList[m + j]? = p[j]? := by
  have e : p[j]? = ((s.data.toList.drop m).take p.length)[j]? := by
    unfold At at h
    rw [h]
  rw [e, List.getElem?_take, if_pos hj, List.getElem?_drop]

theorem At.of {s : ByteArray} {m : Nat} {p : List UInt8} (h : ∀ j, j < p.length → s.data.toList[m + j]? = p[j]?) : At s m p := by
  unfold At
  apply List.ext_getElem?
  intro j
  rw [List.getElem?_take]
  split
  · rename_i hj
    rw [List.getElem?_drop, h j hj]
  · rename_i hj
    rw [List.getElem?_eq_none (by omega)]

theorem extract_at (s : ByteArray) (m n : Nat) (p : List UInt8) (hp : p.length = n) : (s.extract m (m + n)).toList = p ↔ At s m p := by
  rw [Lib.extract_toList]
  unfold At
  rw [hp, show m + n - m = n by omega]

theorem nums_at (s : ByteArray) (m n : Nat) (p : List UInt8) (hp : p.length = n) : (strOfNums (((bytesOf s).take (m + n)).drop m)).toList = p ↔ At s m p := by
  have e : (strOfNums (((bytesOf s).take (m + n)).drop m)).toList = (s.data.toList.drop m).take n := by
    rw [Lib.toList_data, strOfNums_data, bytesOf, ← List.map_take, ← List.map_drop, List.map_map]
    have : (fun n : Int => UInt8.ofNat n.toNat) ∘ (fun b : UInt8 => (b.toNat : Int)) = id := by
      funext b
      simp
    rw [this, List.map_id, List.drop_take]
    congr 1
    omega
  rw [e]
  unfold At
  rw [hp]

theorem bt_is (s : ByteArray) (i : Nat) (c : UInt8) (h : i < s.size) : bt s (i : Int) = (c.toNat : Int) ↔ s.data.toList[i]? = some c := by
  have h' : i < s.data.toList.length := by rw [← Lib.size_eq]; exact h
  unfold bt
  rw [Int.toNat_natCast, dif_pos h, List.getElem?_eq_getElem h']
  have e : s[i]'h = s.data.toList[i]'h' := rfl
  rw [e]
  simp only [Option.some.injEq]
  constructor
  · intro he
    exact UInt8.toNat_inj.1 (by omega)
  · intro he
    rw [he]

/-! ### find, holds -/
theorem find_tells (s pat : ByteArray) (hs : s.size ≤ 65536) (hp0 : 0 < pat.size) (hp : pat.size ≤ 100) : ∀ (f i : Nat), s.size + 1 - i ≤ f → i ≤ 100000 →
    ∃ t : Int, Ev (fun k => spec_find.l0 k s (i : Int) pat) t ∧ ((t = -1 ∧ ∀ m, i ≤ m → ¬ At s m pat.toList) ∨ ∃ m : Nat, t = m ∧ i ≤ m ∧ At s m pat.toList ∧ ∀ m', i ≤ m' → m' < m → ¬ At s m' pat.toList) := by
  have hl : pat.toList.length = pat.size := by rw [Lib.toList_data, ← Lib.size_eq]
  intro f
  induction f with
  | zero =>
    intro i hf hi
    refine ⟨-1, ⟨1, fun k hk => ?_⟩, .inl ⟨rfl, fun m hm h => by have := h.le (by omega); omega⟩⟩
    obtain ⟨k, rfl⟩ : ∃ m, k = m + 1 := ⟨k - 1, by omega⟩
    simp only [spec_find.l0]
    rw [wr (by omega) (by omega), if_neg (by omega)]
  | succ f ih =>
    intro i hf hi
    by_cases hle : i + pat.size ≤ s.size
    · by_cases ha : At s i pat.toList
      · refine ⟨i, ⟨1, fun k hk => ?_⟩, .inr ⟨i, rfl, Nat.le_refl _, ha, fun m' h1 h2 => by omega⟩⟩
        obtain ⟨k, rfl⟩ : ∃ m, k = m + 1 := ⟨k - 1, by omega⟩
        simp only [spec_find.l0]
        rw [wr (by omega) (by omega), if_pos (by omega), if_pos (by omega), if_pos (by omega), show ((i : Int) + (pat.size : Int)).toNat = i + pat.size by omega, Int.toNat_natCast, if_pos ((extract_at s i pat.size _ hl).2 ha)]
      · obtain ⟨t, ht, h⟩ := ih (i + 1) (by omega) (by omega)
        refine ⟨t, Ev.step (f := fun k => spec_find.l0 k s ((i + 1 : Nat) : Int) pat) (fun k => ?_) ht, ?_⟩
        · simp only [spec_find.l0]
          rw [wr (x := (i : Int) + (pat.size : Int)) (by omega) (by omega), if_pos (by omega), if_pos (by omega), if_pos (by omega), show ((i : Int) + (pat.size : Int)).toNat = i + pat.size by omega, Int.toNat_natCast, if_neg (fun h => ha ((extract_at s i pat.size _ hl).1 h)), wr (by omega) (by omega)]
          rfl
        · rcases h with ⟨rfl, h⟩ | ⟨m, rfl, h1, h2, h3⟩
          · refine .inl ⟨rfl, fun m hm => ?_⟩
            by_cases e : m = i
            · rw [e]; exact ha
            · exact h m (by omega)
          · refine .inr ⟨m, rfl, by omega, h2, fun m' h4 h5 => ?_⟩
            by_cases e : m' = i
            · rw [e]; exact ha
            · exact h3 m' (by omega) h5
    · refine ⟨-1, ⟨1, fun k hk => ?_⟩, .inl ⟨rfl, fun m hm h => by have := h.le (by omega); omega⟩⟩
      obtain ⟨k, rfl⟩ : ∃ m, k = m + 1 := ⟨k - 1, by omega⟩
      simp only [spec_find.l0]
      rw [wr (by omega) (by omega), if_neg (by omega)]

theorem holds_tells (s pat : ByteArray) (hs : s.size ≤ 65536) (hp0 : 0 < pat.size) (hp : pat.size ≤ 100) : ∀ (f i : Nat), s.size + 1 - i ≤ f → i ≤ 100000 →
    Ev (fun k => spec_holds.l0 k s pat (i : Int)) true ∨ (Ev (fun k => spec_holds.l0 k s pat (i : Int)) false ∧ ∀ m, i ≤ m → ¬ At s m pat.toList) := by
  have hl : pat.toList.length = pat.size := by rw [Lib.toList_data, ← Lib.size_eq]
  intro f
  induction f with
  | zero =>
    intro i hf hi
    refine .inr ⟨⟨1, fun k hk => ?_⟩, fun m hm h => by have := h.le (by omega); omega⟩
    obtain ⟨k, rfl⟩ : ∃ m, k = m + 1 := ⟨k - 1, by omega⟩
    simp only [spec_holds.l0]
    rw [wr (by omega) (by omega), if_neg (by omega)]
  | succ f ih =>
    intro i hf hi
    by_cases hle : i + pat.size ≤ s.size
    · by_cases ha : At s i pat.toList
      · refine .inl ⟨1, fun k hk => ?_⟩
        obtain ⟨k, rfl⟩ : ∃ m, k = m + 1 := ⟨k - 1, by omega⟩
        simp only [spec_holds.l0]
        rw [wr (by omega) (by omega), if_pos (by omega), if_pos (by omega), if_pos (by omega), show ((i : Int) + (pat.size : Int)).toNat = i + pat.size by omega, Int.toNat_natCast, if_pos ((extract_at s i pat.size _ hl).2 ha)]
      · have hstep : ∀ k, spec_holds.l0 (k + 1) s pat (i : Int) = spec_holds.l0 k s pat ((i + 1 : Nat) : Int) := by
          intro k
          simp only [spec_holds.l0]
          rw [wr (x := (i : Int) + (pat.size : Int)) (by omega) (by omega), if_pos (by omega), if_pos (by omega), if_pos (by omega), show ((i : Int) + (pat.size : Int)).toNat = i + pat.size by omega, Int.toNat_natCast, if_neg (fun h => ha ((extract_at s i pat.size _ hl).1 h)), wr (by omega) (by omega)]
          rfl
        rcases ih (i + 1) (by omega) (by omega) with h | ⟨h, h'⟩
        · exact .inl (Ev.step hstep h)
        · refine .inr ⟨Ev.step hstep h, fun m hm => ?_⟩
          by_cases e : m = i
          · rw [e]; exact ha
          · exact h' m (by omega)
    · refine .inr ⟨⟨1, fun k hk => ?_⟩, fun m hm h => by have := h.le (by omega); omega⟩
      obtain ⟨k, rfl⟩ : ∃ m, k = m + 1 := ⟨k - 1, by omega⟩
      simp only [spec_holds.l0]
      rw [wr (by omega) (by omega), if_neg (by omega)]

/-! ### The package's pass -/
def V (s : ByteArray) (d : Nat) (q : Int) (c : Bool) (i : Nat) (r : Bool) : Prop :=
  Ev (fun k => xml_isValidDirective.l0 k (bytesOf s) (d : Int) q c (bytesOf s) ((bytesOf s).length : Int) (i : Int)) r

def Done (s : ByteArray) (i : Nat) : Prop := 2 ≤ i ∧ At s (i - 2) [45, 45, 62]
instance (s : ByteArray) (i : Nat) : Decidable (Done s i) := inferInstanceAs (Decidable (_ ∧ _))

section
variable {s : ByteArray} {d i : Nat} {q : Int} {c r : Bool}

theorem V_end (h : s.size ≤ i) (hr : r = (decide (d = 0) && decide (q = 0) && !c)) : V s d q c i r := by
  refine ⟨1, fun k hk => ?_⟩
  obtain ⟨k, rfl⟩ : ∃ m, k = m + 1 := ⟨k - 1, by omega⟩
  simp only [xml_isValidDirective.l0]
  rw [if_neg (by rw [bytesOf_length]; omega), hr]
  by_cases hd : d = 0
  · subst hd
    by_cases hq : q = 0
    · subst hq
      simp
    · rw [if_pos (by rfl), if_neg hq]
      simp [hq]
  · rw [if_neg (by omega)]
    simp [hd]

theorem V_comment (hs : s.size ≤ 65536) (h : i < s.size) (hn : V s d q (!decide (Done s i)) (i + 1) r) : V s d q true i r := by
  refine Ev.step (f := fun k => xml_isValidDirective.l0 k (bytesOf s) (d : Int) q (!decide (Done s i)) (bytesOf s) ((bytesOf s).length : Int) ((i + 1 : Nat) : Int)) (fun k => ?_) hn
  simp only [xml_isValidDirective.l0]
  rw [if_pos (by rw [bytesOf_length]; omega), if_pos (by omega), if_pos (by rw [bytesOf_length]; omega), if_pos trivial, rd_bytesOf, wr (x := (i : Int) + 1) (by omega) (by omega), wr (x := 1 + (i : Int)) (by omega) (by omega), wr (x := 1 + (i : Int) - 3) (by omega) (by omega), show (i : Int) + 1 = ((i + 1 : Nat) : Int) by omega]
  have hb := bt_is s i 62 h
  by_cases h62 : bt s (i : Int) = 62
  · rw [if_pos h62]
    by_cases h2 : 2 ≤ i
    · rw [if_pos (by omega), if_pos (by omega), if_pos (by omega), if_pos (by rw [bytesOf_length]; omega), show (1 + (i : Int) - 3).toNat = i - 2 by omega, Int.toNat_natCast]
      have hat := nums_at s (i - 2) 3 [45, 45, 62] rfl
      rw [show i - 2 + 3 = i + 1 by omega] at hat
      by_cases ha : At s (i - 2) [45, 45, 62]
      · rw [if_pos (hat.2 ha), decide_eq_true (show Done s i from ⟨h2, ha⟩)]
        rfl
      · rw [if_neg (fun x => ha (hat.1 x)), decide_eq_false (show ¬ Done s i from fun x => ha x.2)]
        rfl
    · rw [if_neg (by omega), decide_eq_false (show ¬ Done s i from fun x => h2 x.1)]
      rfl
  · rw [if_neg h62, decide_eq_false (show ¬ Done s i from fun x => h62 (hb.2 (by
      have := x.2.get 2 (by decide)
      have h2 := x.1
      rw [show i - 2 + 2 = i by omega] at this
      exact this)))]
    rfl

theorem V_skip (hs : s.size ≤ 65536) : ∀ (f i m : Nat), m - i ≤ f → i ≤ m → m ≤ s.size → (∀ t, i ≤ t → t < m → ¬ Done s t) → V s d q true m r → V s d q true i r := by
  intro f
  induction f with
  | zero =>
    intro i m h1 h2 _ _ h
    obtain rfl : i = m := by omega
    exact h
  | succ f ih =>
    intro i m h1 h2 h3 h4 h
    by_cases e : i = m
    · rw [e]; exact h
    · refine V_comment hs (by omega) ?_
      rw [decide_eq_false (h4 i (Nat.le_refl _) (by omega))]
      exact ih (i + 1) m (by omega) (by omega) h3 (fun t ht => h4 t (by omega)) h

theorem V_quote_end (hs : s.size ≤ 65536) (h : i < s.size) (hq : q ≠ 0) (hb : bt s (i : Int) = q) (hn : V s d 0 false (i + 1) r) : V s d q false i r := by
  refine Ev.step (f := fun k => xml_isValidDirective.l0 k (bytesOf s) (d : Int) 0 false (bytesOf s) ((bytesOf s).length : Int) ((i + 1 : Nat) : Int)) (fun k => ?_) hn
  simp only [xml_isValidDirective.l0]
  rw [if_pos (by rw [bytesOf_length]; omega), if_pos (by omega), if_pos (by rw [bytesOf_length]; omega), if_neg (by decide), if_neg hq, rd_bytesOf, if_pos hb, wr (x := (i : Int) + 1) (by omega) (by omega)]
  rfl

theorem V_quote_on (hs : s.size ≤ 65536) (h : i < s.size) (hq : q ≠ 0) (hb : bt s (i : Int) ≠ q) (hn : V s d q false (i + 1) r) : V s d q false i r := by
  refine Ev.step (f := fun k => xml_isValidDirective.l0 k (bytesOf s) (d : Int) q false (bytesOf s) ((bytesOf s).length : Int) ((i + 1 : Nat) : Int)) (fun k => ?_) hn
  simp only [xml_isValidDirective.l0]
  rw [if_pos (by rw [bytesOf_length]; omega), if_pos (by omega), if_pos (by rw [bytesOf_length]; omega), if_neg (by decide), if_neg hq, rd_bytesOf, if_neg hb, wr (x := (i : Int) + 1) (by omega) (by omega)]
  rfl

/-- A round outside quotes and comments, up to what its byte tells. -/
theorem V_plain (h : i < s.size) {b : Bool} (hb : b = (decide (bt s (i : Int) = 39) || decide (bt s (i : Int) = 34)))
    (hn : Ev (fun k => xml_isValidDirective.j1 k (bytesOf s) (d : Int) 0 false (i : Int) (bt s (i : Int)) (bytesOf s) ((bytesOf s).length : Int) (i : Int) b) r) : V s d 0 false i r := by
  refine Ev.step (f := fun k => xml_isValidDirective.j1 k (bytesOf s) (d : Int) 0 false (i : Int) (bt s (i : Int)) (bytesOf s) ((bytesOf s).length : Int) (i : Int) b) (fun k => ?_) hn
  simp only [xml_isValidDirective.l0]
  rw [if_pos (by rw [bytesOf_length]; omega), if_pos (by omega), if_pos (by rw [bytesOf_length]; omega), if_neg (by decide), if_pos trivial, rd_bytesOf, hb]
  by_cases h39 : bt s (i : Int) = 39
  · rw [if_pos h39, decide_eq_true h39]
    rfl
  · rw [if_neg h39, decide_eq_false h39, Bool.false_or]
    by_cases h34 : bt s (i : Int) = 34
    · rw [h34]
      rfl
    · rw [decide_eq_false h34, beq_eq_false_iff_ne.2 h34]

theorem V_quote (hs : s.size ≤ 65536) (h : i < s.size) (hb : bt s (i : Int) = 39 ∨ bt s (i : Int) = 34) (hn : V s d (bt s (i : Int)) false (i + 1) r) : V s d 0 false i r := by
  refine V_plain (b := true) h (by rcases hb with hb | hb <;> rw [hb] <;> rfl) ?_
  refine Ev.step (f := fun k => xml_isValidDirective.l0 k (bytesOf s) (d : Int) (bt s (i : Int)) false (bytesOf s) ((bytesOf s).length : Int) ((i + 1 : Nat) : Int)) (fun k => ?_) hn
  simp only [xml_isValidDirective.j1]
  rw [if_pos trivial, wr (x := (i : Int) + 1) (by omega) (by omega)]
  rfl

theorem plain_no {x : Int} (h39 : x ≠ 39) (h34 : x ≠ 34) : false = (decide (x = 39) || decide (x = 34)) := by
  rw [decide_eq_false h39, decide_eq_false h34]
  rfl

theorem V_open_comment (hs : s.size ≤ 65536) (h : i + 4 < s.size) (ha : At s i [60, 33, 45, 45]) (hn : V s d 0 true (i + 1) r) : V s d 0 false i r := by
  have hb : bt s (i : Int) = 60 := (bt_is s i 60 (by omega)).2 (ha.get 0 (by decide))
  refine V_plain (b := false) (by omega) (plain_no (by omega) (by omega)) ?_
  refine Ev.step (f := fun k => xml_isValidDirective.l0 k (bytesOf s) (d : Int) 0 true (bytesOf s) ((bytesOf s).length : Int) ((i + 1 : Nat) : Int)) (fun k => ?_) hn
  simp only [xml_isValidDirective.j1]
  rw [if_neg (by decide), if_pos hb, wr (x := (i : Int) + 4) (by omega) (by omega), if_pos (by rw [bytesOf_length]; omega), if_pos (by omega), if_pos (by omega), if_pos (by rw [bytesOf_length]; omega), show ((i : Int) + 4).toNat = i + 4 by omega, Int.toNat_natCast, if_pos ((nums_at s i 4 [60, 33, 45, 45] rfl).2 ha), wr (x := (i : Int) + 1) (by omega) (by omega)]
  rfl

theorem V_open (hs : s.size ≤ 65536) (hd : d ≤ 65536) (h : i < s.size) (hb : bt s (i : Int) = 60) (ha : i + 4 < s.size → ¬ At s i [60, 33, 45, 45]) (hn : V s (d + 1) 0 false (i + 1) r) : V s d 0 false i r := by
  refine V_plain (b := false) (by omega) (plain_no (by omega) (by omega)) ?_
  refine Ev.step (f := fun k => xml_isValidDirective.l0 k (bytesOf s) ((d + 1 : Nat) : Int) 0 false (bytesOf s) ((bytesOf s).length : Int) ((i + 1 : Nat) : Int)) (fun k => ?_) hn
  simp only [xml_isValidDirective.j1]
  rw [if_neg (by decide), if_pos hb, wr (x := (i : Int) + 4) (by omega) (by omega), wr (x := (i : Int) + 1) (by omega) (by omega), wr (x := (d : Int) + 1) (by omega) (by omega)]
  by_cases h4 : i + 4 < s.size
  · rw [if_pos (by rw [bytesOf_length]; omega), if_pos (by omega), if_pos (by omega), if_pos (by rw [bytesOf_length]; omega), show ((i : Int) + 4).toNat = i + 4 by omega, Int.toNat_natCast, if_neg (fun x => ha h4 ((nums_at s i 4 [60, 33, 45, 45] rfl).1 x))]
    rfl
  · rw [if_neg (by rw [bytesOf_length]; omega)]
    rfl

theorem V_close_none (h : i < s.size) (hb : bt s (i : Int) = 62) : V s 0 0 false i false := by
  refine V_plain (b := false) (by omega) (plain_no (by omega) (by omega)) ?_
  refine ⟨1, fun k hk => ?_⟩
  obtain ⟨k, rfl⟩ : ∃ m, k = m + 1 := ⟨k - 1, by omega⟩
  simp only [xml_isValidDirective.j1]
  rw [if_neg (by decide), if_neg (by omega), if_pos hb]
  rfl

theorem V_close (hs : s.size ≤ 65536) (hd : d ≤ 65536) (h : i < s.size) (hb : bt s (i : Int) = 62) (hn : V s d 0 false (i + 1) r) : V s (d + 1) 0 false i r := by
  refine V_plain (b := false) (by omega) (plain_no (by omega) (by omega)) ?_
  refine Ev.step (f := fun k => xml_isValidDirective.l0 k (bytesOf s) (d : Int) 0 false (bytesOf s) ((bytesOf s).length : Int) ((i + 1 : Nat) : Int)) (fun k => ?_) hn
  simp only [xml_isValidDirective.j1]
  rw [if_neg (by decide), if_neg (by omega), if_pos hb, if_neg (by omega), wr (x := (i : Int) + 1) (by omega) (by omega), show ((d + 1 : Nat) : Int) - 1 = (d : Int) by omega, wr (x := (d : Int)) (by omega) (by omega)]
  rfl

theorem V_other (hs : s.size ≤ 65536) (h : i < s.size) (h39 : bt s (i : Int) ≠ 39) (h34 : bt s (i : Int) ≠ 34) (h60 : bt s (i : Int) ≠ 60) (h62 : bt s (i : Int) ≠ 62) (hn : V s d 0 false (i + 1) r) : V s d 0 false i r := by
  refine V_plain (b := false) (by omega) (plain_no h39 h34) ?_
  refine Ev.step (f := fun k => xml_isValidDirective.l0 k (bytesOf s) (d : Int) 0 false (bytesOf s) ((bytesOf s).length : Int) ((i + 1 : Nat) : Int)) (fun k => ?_) hn
  simp only [xml_isValidDirective.j1]
  rw [if_neg (by decide), if_neg h60, if_neg h62, wr (x := (i : Int) + 1) (by omega) (by omega)]
  rfl
end

/-- Within quotes, up to the next one. -/
theorem V_in_quotes {s : ByteArray} {d : Nat} {r : Bool} (hs : s.size ≤ 65536) (u : UInt8) (hu : (u.toNat : Int) ≠ 0) : ∀ (f j m : Nat), m - j ≤ f → j ≤ m → m < s.size → At s m [u] → (∀ t, j ≤ t → t < m → ¬ At s t [u]) → V s d 0 false (m + 1) r → V s d u.toNat false j r := by
  intro f
  induction f with
  | zero =>
    intro j m h1 h2 h3 h4 _ h
    obtain rfl : j = m := by omega
    exact V_quote_end hs h3 hu ((bt_is s j u h3).2 (h4.get 0 (by simp))) h
  | succ f ih =>
    intro j m h1 h2 h3 h4 h5 h
    by_cases e : j = m
    · subst e
      exact V_quote_end hs h3 hu ((bt_is s j u h3).2 (h4.get 0 (by simp))) h
    · refine V_quote_on hs (by omega) hu (fun hb => h5 j (Nat.le_refl _) (by omega) (At.of fun t ht => ?_)) (ih (j + 1) m (by omega) (by omega) h3 h4 (fun t ht => h5 t (by omega)) h)
      simp at ht
      subst ht
      exact (bt_is s j u (by omega)).1 hb

theorem V_no_quote {s : ByteArray} {d : Nat} (hs : s.size ≤ 65536) (u : UInt8) (hu : (u.toNat : Int) ≠ 0) : ∀ (f j : Nat), s.size - j ≤ f → (∀ t, j ≤ t → ¬ At s t [u]) → V s d u.toNat false j false := by
  intro f
  induction f with
  | zero =>
    intro j h1 _
    refine V_end (by omega) ?_
    rw [decide_eq_false hu]
    simp
  | succ f ih =>
    intro j h1 h5
    by_cases e : s.size ≤ j
    · refine V_end e ?_
      rw [decide_eq_false hu]
      simp
    · refine V_quote_on hs (by omega) hu (fun hb => h5 j (Nat.le_refl _) (At.of fun t ht => ?_)) (ih (j + 1) (by omega) (fun t ht => h5 t (by omega)))
      simp at ht
      subst ht
      exact (bt_is s j u (by omega)).1 hb

/-! ### The reference's jumps -/
def M (s : ByteArray) (d i : Nat) (r : Bool) : Prop := Ev (fun k => spec_Matched.l0 k s (d : Int) (i : Int)) r

section
variable {s : ByteArray} {d i : Nat} {r : Bool}

theorem M_end (h : s.size ≤ i) : M s d i (decide (d = 0)) := by
  refine ⟨1, fun k hk => ?_⟩
  obtain ⟨k, rfl⟩ : ∃ m, k = m + 1 := ⟨k - 1, by omega⟩
  simp only [spec_Matched.l0]
  rw [if_neg (by omega)]
  by_cases hd : d = 0
  · subst hd
    rfl
  · rw [decide_eq_false hd, beq_eq_false_iff_ne.2 (by omega)]

theorem M_j1 (h : i < s.size) {b : Bool} (hb : b = (decide (bt s (i : Int) = 39) || decide (bt s (i : Int) = 34))) (hn : Ev (fun k => spec_Matched.j1 k s (d : Int) (i : Int) b) r) : M s d i r := by
  refine Ev.step (f := fun k => spec_Matched.j1 k s (d : Int) (i : Int) b) (fun k => ?_) hn
  simp only [spec_Matched.l0]
  rw [if_pos (by omega), if_pos (by omega), hb]
  by_cases h34 : bt s (i : Int) = 34
  · rw [if_pos h34, decide_eq_true h34, Bool.or_true]
  · rw [if_neg h34, decide_eq_false h34, Bool.or_false]
    by_cases h39 : bt s (i : Int) = 39
    · rw [h39]
      rfl
    · rw [decide_eq_false h39, beq_eq_false_iff_ne.2 h39]

theorem M_quote {t : Int} (hs : s.size ≤ 65536) (h : i < s.size) (hb : bt s (i : Int) = 39 ∨ bt s (i : Int) = 34) (ht : Ev (fun k => spec_find.l0 k s ((i + 1 : Nat) : Int) (s.extract i (i + 1))) t)
    (hn : (t < 0 ∧ r = false) ∨ ∃ m : Nat, t = m ∧ m ≤ 65536 ∧ M s d (m + 1) r) : M s d i r := by
  refine M_j1 (b := true) h (by rcases hb with hb | hb <;> rw [hb] <;> rfl) ?_
  refine Ev.step (f := fun k => (spec_find.l0 k s ((i + 1 : Nat) : Int) (s.extract i (i + 1))).bind fun t106 => if t106 < 0 then some false else spec_Matched.l0 k s (d : Int) (wrap64 (t106 + 1))) (fun k => ?_) ?_
  · simp only [spec_Matched.j1, spec_find.f]
    rw [if_pos trivial, if_pos (by omega), wr (x := (i : Int) + 1) (by omega) (by omega), if_pos (by omega), if_pos (by omega), show ((i : Int) + 1).toNat = i + 1 by omega, Int.toNat_natCast]
    rfl
  · refine Ev.bind ht ?_
    rcases hn with ⟨h1, rfl⟩ | ⟨m, rfl, hm, h2⟩
    · exact Ev.congr (fun k => if_pos h1) (Ev.now _)
    · refine Ev.congr (f := fun k => spec_Matched.l0 k s (d : Int) ((m + 1 : Nat) : Int)) (fun k => ?_) h2
      rw [if_neg (by omega), wr (by omega) (by omega)]
      rfl

theorem M_j2 (hs : s.size ≤ 65536) (h : i < s.size) (h39 : bt s (i : Int) ≠ 39) (h34 : bt s (i : Int) ≠ 34) {b : Bool} (hb : b = decide (At s i [60, 33, 45, 45])) (hn : Ev (fun k => spec_Matched.j2 k s (d : Int) (i : Int) b) r) : M s d i r := by
  refine M_j1 (b := false) h (plain_no h39 h34) ?_
  refine Ev.step (f := fun k => spec_Matched.j2 k s (d : Int) (i : Int) b) (fun k => ?_) hn
  simp only [spec_Matched.j1]
  rw [if_neg (by decide), wr (by omega) (by omega), hb]
  by_cases h4 : i + 4 ≤ s.size
  · rw [if_pos (by omega), if_pos (by omega), if_pos (by omega), show ((i : Int) + 4).toNat = i + 4 by omega, Int.toNat_natCast]
    have e := extract_at s i 4 [60, 33, 45, 45] rfl
    by_cases ha : At s i [60, 33, 45, 45]
    · rw [decide_eq_true ha, beq_iff_eq.2 (e.2 ha)]
    · rw [decide_eq_false ha, beq_eq_false_iff_ne.2 (fun x => ha (e.1 x))]
  · rw [if_neg (by omega), decide_eq_false (fun ha => h4 (At.le ha (by decide)))]

theorem M_comment {t : Int} (hs : s.size ≤ 65536) (ha : At s i [60, 33, 45, 45]) (ht : Ev (fun k => spec_find.l0 k s ((i + 4 : Nat) : Int) (⟨#[45, 45, 62]⟩ : ByteArray)) t)
    (hn : (t < 0 ∧ r = false) ∨ ∃ m : Nat, t = m ∧ m ≤ 65536 ∧ M s d (m + 3) r) : M s d i r := by
  have hle : i + 4 ≤ s.size := ha.le (by decide)
  have hb : bt s (i : Int) = 60 := (bt_is s i 60 (by omega)).2 (ha.get 0 (by decide))
  refine M_j2 (b := true) hs (by omega) (by omega) (by omega) (decide_eq_true ha).symm ?_
  refine Ev.step (f := fun k => (spec_find.l0 k s ((i + 4 : Nat) : Int) (⟨#[45, 45, 62]⟩ : ByteArray)).bind fun t107 => if t107 < 0 then some false else spec_Matched.l0 k s (d : Int) (wrap64 (wrap64 (t107 + 2) + 1))) (fun k => ?_) ?_
  · simp only [spec_Matched.j2, spec_find.f]
    rw [if_pos trivial, wr (x := (i : Int) + 4) (by omega) (by omega)]
    rfl
  · refine Ev.bind ht ?_
    rcases hn with ⟨h1, rfl⟩ | ⟨m, rfl, hm, h2⟩
    · exact Ev.congr (fun k => if_pos h1) (Ev.now _)
    · refine Ev.congr (f := fun k => spec_Matched.l0 k s (d : Int) ((m + 3 : Nat) : Int)) (fun k => ?_) h2
      rw [if_neg (by omega), wr (x := (m : Int) + 2) (by omega) (by omega), wr (by omega) (by omega), show (m : Int) + 2 + 1 = ((m + 3 : Nat) : Int) by omega]

theorem M_open (hs : s.size ≤ 65536) (hd : d ≤ 65536) (h : i < s.size) (hb : bt s (i : Int) = 60) (ha : ¬ At s i [60, 33, 45, 45]) (hn : M s (d + 1) (i + 1) r) : M s d i r := by
  refine M_j2 (b := false) hs h (by omega) (by omega) (decide_eq_false ha).symm ?_
  refine Ev.step (f := fun k => spec_Matched.l0 k s ((d + 1 : Nat) : Int) ((i + 1 : Nat) : Int)) (fun k => ?_) hn
  simp only [spec_Matched.j2]
  rw [if_neg (by decide), if_pos (by omega), if_pos (by omega), if_pos hb, wr (x := (d : Int) + 1) (by omega) (by omega), wr (by omega) (by omega)]
  rfl

theorem M_close_none (hs : s.size ≤ 65536) (h : i < s.size) (hb : bt s (i : Int) = 62) : M s 0 i false := by
  refine M_j2 (b := false) hs h (by omega) (by omega) (decide_eq_false (fun ha => ?_)).symm ?_
  · have := (bt_is s i 60 h).2 (ha.get 0 (by decide))
    rw [hb] at this
    exact absurd this (by decide)
  · refine ⟨1, fun k hk => ?_⟩
    obtain ⟨k, rfl⟩ : ∃ m, k = m + 1 := ⟨k - 1, by omega⟩
    simp only [spec_Matched.j2]
    rw [if_neg (by decide), if_pos (by omega), if_pos (by omega), if_neg (by omega), if_pos hb, if_pos (by unfold wrap64; omega)]

theorem M_close (hs : s.size ≤ 65536) (hd : d ≤ 65536) (h : i < s.size) (hb : bt s (i : Int) = 62) (hn : M s d (i + 1) r) : M s (d + 1) i r := by
  refine M_j2 (b := false) hs h (by omega) (by omega) (decide_eq_false (fun ha => ?_)).symm ?_
  · have := (bt_is s i 60 h).2 (ha.get 0 (by decide))
    rw [hb] at this
    exact absurd this (by decide)
  · refine Ev.step (f := fun k => spec_Matched.l0 k s (d : Int) ((i + 1 : Nat) : Int)) (fun k => ?_) hn
    simp only [spec_Matched.j2]
    rw [if_neg (by decide), if_pos (by omega), if_pos (by omega), if_neg (by omega), if_pos hb, show ((d + 1 : Nat) : Int) - 1 = (d : Int) by omega, wr (x := (d : Int)) (by omega) (by omega), if_neg (by omega), wr (by omega) (by omega)]
    rfl

theorem M_other (hs : s.size ≤ 65536) (h : i < s.size) (h39 : bt s (i : Int) ≠ 39) (h34 : bt s (i : Int) ≠ 34) (h60 : bt s (i : Int) ≠ 60) (h62 : bt s (i : Int) ≠ 62) (hn : M s d (i + 1) r) : M s d i r := by
  refine M_j2 (b := false) hs h h39 h34 (decide_eq_false (fun ha => h60 ((bt_is s i 60 h).2 (ha.get 0 (by decide))))).symm ?_
  refine Ev.step (f := fun k => spec_Matched.l0 k s (d : Int) ((i + 1 : Nat) : Int)) (fun k => ?_) hn
  simp only [spec_Matched.j2]
  rw [if_neg (by decide), if_pos (by omega), if_pos (by omega), if_neg h60, if_neg h62, wr (by omega) (by omega)]
  rfl
end

/-! ### Both tell the same -/
theorem agree {s : ByteArray} (hs : s.size ≤ 65536) (hn1 : ∀ m, ¬ At s m [60, 33, 45, 45, 62]) (hn2 : ∀ m, ¬ At s m [60, 33, 45, 45, 45, 62]) : ∀ (f i d : Nat), s.size - i ≤ f → d ≤ i → i ≤ s.size → ∃ r, M s d i r ∧ V s d 0 false i r := by
  intro f
  induction f with
  | zero =>
    intro i d h1 h2 h3
    exact ⟨_, M_end (by omega), V_end (by omega) (by simp)⟩
  | succ f ih =>
    intro i d h1 h2 h3
    by_cases e : s.size ≤ i
    · exact ⟨_, M_end e, V_end e (by simp)⟩
    have hi : i < s.size := by omega
    by_cases hq : bt s (i : Int) = 39 ∨ bt s (i : Int) = 34
    · obtain ⟨u, hu⟩ : ∃ u, s.data.toList[i]? = some u := ⟨_, List.getElem?_eq_getElem (by rw [← Lib.size_eq]; exact hi)⟩
      have hbu := (bt_is s i u hi).2 hu
      have hau : At s i [u] := At.of fun t ht => by simp at ht; subst ht; exact hu
      have hex : s.extract i (i + 1) = (⟨#[u]⟩ : ByteArray) := by
        have := (extract_at s i 1 [u] rfl).2 hau
        rw [Lib.toList_data] at this
        rw [← Lib.mk_data (s.extract i (i + 1)), this]
      have hu0 : (u.toNat : Int) ≠ 0 := by rw [← hbu]; omega
      obtain ⟨t, ht, h⟩ := find_tells s (⟨#[u]⟩ : ByteArray) hs (by simp [ByteArray.size]) (by simp [ByteArray.size]) (s.size + 1) (i + 1) (by omega) (by omega)
      have hpl : (⟨#[u]⟩ : ByteArray).toList = [u] := by rw [Lib.toList_data]
      rw [hpl] at h
      rcases h with ⟨rfl, h⟩ | ⟨m, rfl, h4, h5, h6⟩
      · exact ⟨false, M_quote hs hi hq (by rw [hex]; exact ht) (.inl ⟨by omega, rfl⟩), V_quote hs hi hq (by rw [hbu]; exact V_no_quote hs u hu0 (s.size + 1) (i + 1) (by omega) h)⟩
      · have hm := h5.le (by simp)
        simp only [List.length_cons, List.length_nil] at hm
        obtain ⟨r, hM, hV⟩ := ih (m + 1) d (by omega) (by omega) (by omega)
        exact ⟨r, M_quote hs hi hq (by rw [hex]; exact ht) (.inr ⟨m, rfl, by omega, hM⟩), V_quote hs hi hq (by rw [hbu]; exact V_in_quotes hs u hu0 (s.size + 1) (i + 1) m (by omega) h4 (by omega) h5 h6 hV)⟩
    have h39 : bt s (i : Int) ≠ 39 := fun x => hq (.inl x)
    have h34 : bt s (i : Int) ≠ 34 := fun x => hq (.inr x)
    by_cases hc : At s i [60, 33, 45, 45]
    · have h4 : i + 4 ≤ s.size := hc.le (by decide)
      have hb : bt s (i : Int) = 60 := (bt_is s i 60 hi).2 (hc.get 0 (by decide))
      have g1 : s.data.toList[i + 1]? = some 33 := hc.get 1 (by decide)
      have g2 : s.data.toList[i + 2]? = some 45 := hc.get 2 (by decide)
      have g3 : s.data.toList[i + 3]? = some 45 := hc.get 3 (by decide)
      have g0 : s.data.toList[i]? = some 60 := hc.get 0 (by decide)
      obtain ⟨t, ht, h⟩ := find_tells s (⟨#[45, 45, 62]⟩ : ByteArray) hs (by simp [ByteArray.size]) (by simp [ByteArray.size]) (s.size + 1) (i + 4) (by omega) (by omega)
      have hpl : (⟨#[45, 45, 62]⟩ : ByteArray).toList = [45, 45, 62] := by rw [Lib.toList_data]
      rw [hpl] at h
      -- no place ahead of the first "-->" ends the comment
      have hdone : ∀ t, i + 1 ≤ t → Done s t → i + 4 ≤ t - 2 ∧ At s (t - 2) [45, 45, 62] := by
        intro t h5 hd
        refine ⟨?_, hd.2⟩
        have e2 : s.data.toList[t]? = some 62 := by
          have := hd.2.get 2 (by decide)
          rw [show t - 2 + 2 = t by have := hd.1; omega] at this
          exact this
        have e1 : s.data.toList[t - 1]? = some 45 := by
          have := hd.2.get 1 (by decide)
          rw [show t - 2 + 1 = t - 1 by have := hd.1; omega] at this
          exact this
        rcases Nat.lt_or_ge t (i + 6) with hlt | hge
        · exfalso
          obtain rfl | rfl | rfl | rfl | rfl : t = i + 1 ∨ t = i + 2 ∨ t = i + 3 ∨ t = i + 4 ∨ t = i + 5 := by omega
          · rw [g1] at e2; exact absurd e2 (by decide)
          · rw [g2] at e2; exact absurd e2 (by decide)
          · rw [g3] at e2; exact absurd e2 (by decide)
          · refine hn1 i (At.of fun j hj => ?_)
            simp only [List.length_cons, List.length_nil] at hj
            obtain rfl | rfl | rfl | rfl | rfl : j = 0 ∨ j = 1 ∨ j = 2 ∨ j = 3 ∨ j = 4 := by omega
            · exact g0
            · exact g1
            · exact g2
            · exact g3
            · exact e2
          · refine hn2 i (At.of fun j hj => ?_)
            simp only [List.length_cons, List.length_nil] at hj
            obtain rfl | rfl | rfl | rfl | rfl | rfl : j = 0 ∨ j = 1 ∨ j = 2 ∨ j = 3 ∨ j = 4 ∨ j = 5 := by omega
            · exact g0
            · exact g1
            · exact g2
            · exact g3
            · exact e1
            · exact e2
        · omega
      rcases h with ⟨rfl, h⟩ | ⟨m, rfl, h5, h6, h7⟩
      · refine ⟨false, M_comment hs hc ht (.inl ⟨by omega, rfl⟩), ?_⟩
        by_cases h5 : i + 4 < s.size
        · refine V_open_comment hs h5 hc (V_skip hs (s.size + 1) (i + 1) s.size (by omega) (by omega) (Nat.le_refl _) (fun t h6 h7 hd => ?_) (V_end (Nat.le_refl _) (by simp)))
          have := hdone t h6 hd
          exact h _ this.1 this.2
        · have hsz : s.size = i + 4 := by omega
          have nb : ∀ j (c : UInt8), s.data.toList[j]? = some c → j < s.size → bt s (j : Int) = c.toNat := fun j c hg hj => (bt_is s j c hj).2 hg
          have b1 := nb (i + 1) 33 g1 (by omega)
          have b2 := nb (i + 2) 45 g2 (by omega)
          have b3 := nb (i + 3) 45 g3 (by omega)
          refine V_open hs (by omega) hi hb (fun x => absurd x h5) ?_
          refine V_other hs (by omega) (by rw [b1]; decide) (by rw [b1]; decide) (by rw [b1]; decide) (by rw [b1]; decide) ?_
          refine V_other hs (by omega) (by rw [b2]; decide) (by rw [b2]; decide) (by rw [b2]; decide) (by rw [b2]; decide) ?_
          refine V_other hs (by omega) (by rw [b3]; decide) (by rw [b3]; decide) (by rw [b3]; decide) (by rw [b3]; decide) ?_
          exact V_end (by omega) (by simp)
      · have hm := h6.le (by simp)
        simp only [List.length_cons, List.length_nil] at hm
        obtain ⟨r, hM, hV⟩ := ih (m + 3) d (by omega) (by omega) (by omega)
        refine ⟨r, M_comment hs hc ht (.inr ⟨m, rfl, by omega, hM⟩), V_open_comment hs (by omega) hc (V_skip hs (s.size + 1) (i + 1) (m + 2) (by omega) (by omega) (by omega) (fun t h8 h9 hd => ?_) (V_comment hs (by omega) ?_))⟩
        · have := hdone t h8 hd
          exact h7 _ this.1 (by omega) this.2
        · rw [decide_eq_true (show Done s (m + 2) from ⟨by omega, by rw [show m + 2 - 2 = m by omega]; exact h6⟩)]
          exact hV
    by_cases h60 : bt s (i : Int) = 60
    · obtain ⟨r, hM, hV⟩ := ih (i + 1) (d + 1) (by omega) (by omega) (by omega)
      exact ⟨r, M_open hs (by omega) hi h60 hc hM, V_open hs (by omega) hi h60 (fun _ => hc) hV⟩
    by_cases h62 : bt s (i : Int) = 62
    · cases d with
      | zero => exact ⟨false, M_close_none hs hi h62, V_close_none hi h62⟩
      | succ d =>
        obtain ⟨r, hM, hV⟩ := ih (i + 1) d (by omega) (by omega) (by omega)
        exact ⟨r, M_close hs (by omega) hi h62 hM, V_close hs (by omega) hi h62 hV⟩
    obtain ⟨r, hM, hV⟩ := ih (i + 1) d (by omega) (by omega) (by omega)
    exact ⟨r, M_other hs hi h39 h34 h60 h62 hM, V_other hs hi h39 h34 h60 h62 hV⟩

theorem short_tells (s : ByteArray) (hs : s.size ≤ 65536) : Ev (fun k => spec_Short.f k s) true ∨ (Ev (fun k => spec_Short.f k s) false ∧ (∀ m, ¬ At s m [60, 33, 45, 45, 62]) ∧ ∀ m, ¬ At s m [60, 33, 45, 45, 45, 62]) := by
  have e1 : (⟨#[60, 33, 45, 45, 62]⟩ : ByteArray).toList = [60, 33, 45, 45, 62] := by rw [Lib.toList_data]
  have e2 : (⟨#[60, 33, 45, 45, 45, 62]⟩ : ByteArray).toList = [60, 33, 45, 45, 45, 62] := by rw [Lib.toList_data]
  have k1 := holds_tells s (⟨#[60, 33, 45, 45, 62]⟩ : ByteArray) hs (by simp [ByteArray.size]) (by simp [ByteArray.size]) (s.size + 1) 0 (by omega) (by omega)
  have k2 := holds_tells s (⟨#[60, 33, 45, 45, 45, 62]⟩ : ByteArray) hs (by simp [ByteArray.size]) (by simp [ByteArray.size]) (s.size + 1) 0 (by omega) (by omega)
  rw [e1] at k1
  rw [e2] at k2
  unfold spec_Short.f spec_holds.f
  rcases k1 with h1 | ⟨h1, h1'⟩
  · exact .inl (Ev.bind h1 (Ev.congr (fun k => if_pos rfl) (Ev.now _)))
  · rcases k2 with h2 | ⟨h2, h2'⟩
    · exact .inl (Ev.bind h1 (Ev.congr (fun k => if_neg (by decide)) (Ev.bind h2 (Ev.now _))))
    · exact .inr ⟨Ev.bind h1 (Ev.congr (fun k => if_neg (by decide)) (Ev.bind h2 (Ev.now _))), fun m => h1' m (by omega), fun m => h2' m (by omega)⟩

/-- What the statement's walk wants, at one number of rounds. -/
theorem rounds (s : ByteArray) (hs : s.size ≤ 65536) : (∃ k, spec_Short.f k s = some true) ∨ ∃ k b, spec_Short.f k s = some false ∧ xml_isValidDirective.f k (bytesOf s) = some b ∧ spec_Matched.f k s = some b ∧ xml_isValidDirective.f k (bytesOf ⟨#[]⟩) = some true ∧ xml_isValidDirective.f k (bytesOf ⟨#[60]⟩) = some false := by
  rcases short_tells s hs with h | ⟨⟨k0, h⟩, h1, h2⟩
  · exact .inl h.rounds
  · obtain ⟨b, ⟨k1, hM⟩, ⟨k2, hV⟩⟩ := agree hs h1 h2 (s.size + 1) 0 0 (by omega) (by omega) (by omega)
    have hE : V (⟨#[]⟩ : ByteArray) 0 0 false 0 true := V_end (by simp [ByteArray.size]) (by simp)
    have hL : V (⟨#[60]⟩ : ByteArray) 0 0 false 0 false := V_open (by simp [ByteArray.size]) (by omega) (by simp [ByteArray.size]) (by rfl) (fun x => by simp [ByteArray.size] at x) (V_end (by simp [ByteArray.size]) (by simp))
    obtain ⟨k3, hE⟩ := hE
    obtain ⟨k4, hL⟩ := hL
    refine .inr ⟨k0 + k1 + k2 + k3 + k4, b, h _ (by omega), hV _ (by omega), hM _ (by omega), hE _ (by omega), hL _ (by omega)⟩

end Go.Proofs.Ytfcefkenpndblaa.DirPure
