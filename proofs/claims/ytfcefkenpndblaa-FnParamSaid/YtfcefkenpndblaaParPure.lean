/- What is proved here: the first pseudo-attribute of a name in a text of the reference's making is where the package looks for it; plain facts on lists, and the search's own printed function. -/
import Derived.Test.YtfcefkenpndblaaParA
import Derived.Lib.Strings
import Derived.Lib.Bytealg
namespace Go.Proofs.Ytfcefkenpndblaa.ParPure
open Go.RowKit Go.Proofs.YtfcefkenpndblaaW.PrintWords Go.Proofs.YtfcefkenpndblaaW.PrintLast Go.Proofs.YtfcefkenpndblaaW.PrintMore Go.Proofs.Ytfcefkenpndblaa.PFnParam Go.Proofs.Ytfcefkenpndblaa.ParA

set_option linter.unusedVariables false

theorem wr {x : Int} (h0 : -9223372036854775808 ≤ x) (h1 : x < 9223372036854775808) : wrap64 x = x := by
  unfold wrap64
  omega

def At (s : ByteArray) (m : Nat) (p : List UInt8) : Prop := (s.data.toList.drop m).take p.length = p
instance (s : ByteArray) (m : Nat) (p : List UInt8) : Decidable (At s m p) := inferInstanceAs (Decidable (_ = _))

theorem At.le {s : ByteArray} {m : Nat} {p : List UInt8} (h : At s m p) (hp : 0 < p.length) : m + p.length ≤ s.size := by
  have := congrArg List.length h
  rw [List.length_take, List.length_drop, ← Lib.size_eq] at this
  omega

theorem At.get {s : ByteArray} {m : Nat} {p : List UInt8} (h : At s m p) (j : Nat) (hj : j < p.length) : s.data.toList[m + j]? = p[j]? := by
  have e : p[j]? = ((s.data.toList.drop m).take p.length)[j]? := by
    unfold At at h
    rw [h]
  rw [e, List.getElem?_take, if_pos hj, List.getElem?_drop]

theorem extract_at (s : ByteArray) (m n : Nat) (p : List UInt8) (hp : p.length = n) : (s.extract m (m + n)).toList = p ↔ At s m p := by
  rw [Lib.extract_toList]
  unfold At
  rw [hp, show m + n - m = n by omega]

theorem bt_is (s : ByteArray) (i : Nat) (c : UInt8) (h : i < s.size) : bt s (i : Int) = (c.toNat : Int) ↔ s.data.toList[i]? = some c := by
  have h' : i < s.data.toList.length := by rw [← Lib.size_eq]; exact h
  unfold bt
  rw [Int.toNat_natCast, dif_pos h, List.getElem?_eq_getElem h']
  have e : s[i]'h = s.data.toList[i]'h' := rfl
  rw [e]
  simp only [Option.some.injEq]
  constructor
  · intro he
    exact UInt8.toNat_inj.1 (by omega)
  · intro he
    rw [he]

/-- The package's plain search, from a place on. -/
theorem index_tells (s pat : ByteArray) (hs : s.size ≤ 1000000000000) (hp0 : 0 < pat.size) (hp : pat.size ≤ 1000) : ∀ (f i : Nat), s.size + 1 - i ≤ f → i ≤ 2000000000000 →
    ((∀ m, i ≤ m → ¬ At s m pat.toList) → Ev (fun k => xml_zzIndex.l0 k s pat (i : Int)) (-1)) ∧
    ∀ m : Nat, i ≤ m → At s m pat.toList → (∀ m', i ≤ m' → m' < m → ¬ At s m' pat.toList) → Ev (fun k => xml_zzIndex.l0 k s pat (i : Int)) (m : Int) := by
  have hl : pat.toList.length = pat.size := by rw [Lib.toList_data, ← Lib.size_eq]
  have hstop : ∀ i : Nat, i ≤ 2000000000000 → s.size < i + pat.size → Ev (fun k => xml_zzIndex.l0 k s pat (i : Int)) (-1) := by
    intro i hi hle
    refine ⟨1, fun k hk => ?_⟩
    obtain ⟨k, rfl⟩ : ∃ m, k = m + 1 := ⟨k - 1, by omega⟩
    simp only [xml_zzIndex.l0]
    rw [wr (by omega) (by omega), if_neg (by omega)]
  intro f
  induction f with
  | zero =>
    intro i hf hi
    exact ⟨fun _ => hstop i hi (by omega), fun m hm h => by have := h.le (by omega); omega⟩
  | succ f ih =>
    intro i hf hi
    by_cases hle : i + pat.size ≤ s.size
    · by_cases ha : At s i pat.toList
      · refine ⟨fun h => absurd ha (h i (Nat.le_refl _)), fun m hm h hno => ?_⟩
        have e : m = i := by
          rcases Nat.lt_or_ge i m with h1 | h1
          · exact absurd ha (hno i (Nat.le_refl _) h1)
          · omega
        subst e
        refine ⟨1, fun k hk => ?_⟩
        obtain ⟨k, rfl⟩ : ∃ m, k = m + 1 := ⟨k - 1, by omega⟩
        simp only [xml_zzIndex.l0]
        rw [wr (by omega) (by omega), if_pos (by omega), if_pos (by omega), if_pos (by omega), show ((m : Int) + (pat.size : Int)).toNat = m + pat.size by omega, Int.toNat_natCast, if_pos ((extract_at s m pat.size _ hl).2 ha)]
      · have hstep : ∀ k, xml_zzIndex.l0 (k + 1) s pat (i : Int) = xml_zzIndex.l0 k s pat ((i + 1 : Nat) : Int) := by
          intro k
          simp only [xml_zzIndex.l0]
          rw [wr (x := (i : Int) + (pat.size : Int)) (by omega) (by omega), if_pos (by omega), if_pos (by omega), if_pos (by omega), show ((i : Int) + (pat.size : Int)).toNat = i + pat.size by omega, Int.toNat_natCast, if_neg (fun h => ha ((extract_at s i pat.size _ hl).1 h)), wr (by omega) (by omega)]
          rfl
        obtain ⟨i1, i2⟩ := ih (i + 1) (by omega) (by omega)
        refine ⟨fun h => Ev.step hstep (i1 fun m hm => h m (by omega)), fun m hm h hno => ?_⟩
        have hne : m ≠ i := fun e => ha (e ▸ h)
        exact Ev.step hstep (i2 m (by omega) h fun m' h1 h2 => hno m' (by omega) h2)
    · exact ⟨fun _ => hstop i hi (by omega), fun m hm h => by have := h.le (by omega); omega⟩

/-! ### Texts of pseudo-attributes -/
/-- In a text no sign of equality follows the letter c. -/
def NoKey (c : UInt8) (L : List UInt8) : Prop := ∀ j : Nat, L[j]? = some 61 → ∃ b, 0 < j ∧ L[j - 1]? = some b ∧ b ≠ c

theorem NoKey.nil (c : UInt8) : NoKey c [] := fun j h => by simp at h

theorem NoKey.append {c : UInt8} {L X : List UInt8} (h : NoKey c L) (hx : (61 : UInt8) ∉ X) : NoKey c (L ++ X) := by
  intro j hj
  rcases Nat.lt_or_ge j L.length with hlt | hge
  · rw [List.getElem?_append_left hlt] at hj
    obtain ⟨b, h0, h1, h2⟩ := h j hj
    exact ⟨b, h0, by rw [List.getElem?_append_left (by omega)]; exact h1, h2⟩
  · rw [List.getElem?_append_right hge] at hj
    exact absurd (List.mem_of_getElem? hj) hx

theorem NoKey.eq {c b : UInt8} {L : List UInt8} (h : NoKey c (L ++ [b])) (hb : b ≠ c) : NoKey c (L ++ [b] ++ [61]) := by
  intro j hj
  rcases Nat.lt_or_ge j (L ++ [b]).length with hlt | hge
  · rw [List.getElem?_append_left hlt] at hj
    obtain ⟨a, h0, h1, h2⟩ := h j hj
    exact ⟨a, h0, by rw [List.getElem?_append_left (by omega)]; exact h1, h2⟩
  · have e : j = L.length + 1 := by
      have := (List.getElem?_eq_some_iff.1 hj).1
      simp at this hge
      omega
    subst e
    exact ⟨b, by omega, by simp, hb⟩

def lastOf : Nat → UInt8
  | 0 => 110
  | 1 => 103
  | _ => 101
def initOf : Nat → List UInt8
  | 0 => [118, 101, 114, 115, 105, 111]
  | 1 => [101, 110, 99, 111, 100, 105, 110]
  | _ => [115, 116, 97, 110, 100, 97, 108, 111, 110]
theorem name_list (p : Nat) : (nameOf p).data.toList = initOf p ++ [lastOf p] := by
  rcases p with _ | _ | p <;> rfl
theorem init_eq (p : Nat) : (61 : UInt8) ∉ initOf p := by
  unfold initOf
  split <;> decide
theorem last_eq (p : Nat) : (61 : UInt8) ≠ lastOf p := by
  unfold lastOf
  split <;> decide
theorem last_ne {p q : Nat} (hp : p < 3) (hq : q < 3) (h : p ≠ q) : lastOf q ≠ lastOf p := by
  obtain rfl | rfl | rfl : p = 0 ∨ p = 1 ∨ p = 2 := by omega
  all_goals obtain rfl | rfl | rfl : q = 0 ∨ q = 1 ∨ q = 2 := by omega
  all_goals first | exact absurd rfl h | decide

def quoteL (i : Nat) : UInt8 := if i % 2 = 0 then 34 else 39
theorem quote_list (i : Nat) : (quoteOf i).data.toList = [quoteL i] := by
  unfold quoteOf quoteL
  split <;> rfl
theorem quote_is (i : Nat) : quoteL i = 34 ∨ quoteL i = 39 := by
  unfold quoteL
  split
  · exact .inl rfl
  · exact .inr rfl

/-- A value's letters: neither a sign of equality nor a quote. -/
def Clean (v : List UInt8) : Prop := (61 : UInt8) ∉ v ∧ (34 : UInt8) ∉ v ∧ (39 : UInt8) ∉ v

def sepL (i : Nat) : List UInt8 := if i = 0 then [] else [32]
theorem sep_eq (i : Nat) : (61 : UInt8) ∉ sepL i := by
  unfold sepL
  split <;> decide

theorem data_append (a b : ByteArray) : (a ++ b).data.toList = a.data.toList ++ b.data.toList := by
  rw [ByteArray.data_append, Array.toList_append]

theorem text_list (t : St) (i p : Nat) (v : ByteArray) : (t.text i p v).data.toList = t.s.data.toList ++ sepL i ++ initOf p ++ [lastOf p] ++ [61] ++ (quoteL i :: (v.data.toList ++ [quoteL i])) := by
  unfold St.text pairOf
  simp only [data_append, name_list, quote_list]
  unfold sepL
  split
  · simp
  · simp

theorem NoKey.pair {c : UInt8} {L : List UInt8} (h : NoKey c L) (i p : Nat) (v : List UInt8) (hv : Clean v) (hp : lastOf p ≠ c) :
    NoKey c (L ++ sepL i ++ initOf p ++ [lastOf p] ++ [61] ++ (quoteL i :: (v ++ [quoteL i]))) := by
  refine NoKey.append (NoKey.eq (((h.append (sep_eq i)).append (init_eq p)).append (by simpa using last_eq p)) hp) ?_
  have hq : (61 : UInt8) ≠ quoteL i := by
    rcases quote_is i with e | e <;> rw [e] <;> decide
  simp only [List.mem_cons, List.mem_append, List.not_mem_nil, or_false, not_or]
  exact ⟨hq, hv.1, hq⟩

/-- The first pseudo-attribute of the name p stands behind A; its value is v. -/
def First (p : Nat) (v L : List UInt8) : Prop :=
  ∃ (A B : List UInt8) (q : UInt8), L = A ++ (initOf p ++ [lastOf p]) ++ [61] ++ (q :: (v ++ q :: B)) ∧ NoKey (lastOf p) (A ++ (initOf p ++ [lastOf p])) ∧ (q = 34 ∨ q = 39) ∧ Clean v

theorem First.more {p : Nat} {v L : List UInt8} (h : First p v L) (X : List UInt8) : First p v (L ++ X) := by
  obtain ⟨A, B, q, rfl, h1, h2, h3⟩ := h
  exact ⟨A, B ++ X, q, by simp, h1, h2, h3⟩

theorem First.new {p : Nat} {v L : List UInt8} (h : NoKey (lastOf p) L) (i : Nat) (hv : Clean v) : First p v (L ++ sepL i ++ initOf p ++ [lastOf p] ++ [61] ++ (quoteL i :: (v ++ [quoteL i]))) :=
  ⟨L ++ sepL i, [], quoteL i, by simp, by
    have := ((h.append (sep_eq i)).append (init_eq p)).append (X := [lastOf p]) (by simpa using last_eq p)
    simpa using this, quote_is i, hv⟩

/-- What is known of one name. -/
def Known (p : Nat) (z : Bool) (f : ByteArray) (L : List UInt8) : Prop := (z = false → NoKey (lastOf p) L ∧ f = ⟨#[]⟩) ∧ (z = true → First p f.data.toList L)

theorem Known.other {p p' i : Nat} {z : Bool} {f v : ByteArray} {t : St} (h : Known p z f t.s.data.toList) (hp : p < 3) (hp' : p' < 3) (hne : p ≠ p') (hv : Clean v.data.toList) :
    Known p z f (t.text i p' v).data.toList := by
  rw [text_list]
  refine ⟨fun hz => ⟨(h.1 hz).1.pair i p' _ hv (last_ne hp hp' hne), (h.1 hz).2⟩, fun hz => ?_⟩
  have := (h.2 hz).more (sepL i ++ initOf p' ++ [lastOf p'] ++ [61] ++ (quoteL i :: (v.data.toList ++ [quoteL i])))
  simpa using this

theorem Known.self {p i : Nat} {z : Bool} {f v : ByteArray} {t : St} (h : Known p z f t.s.data.toList) (hv : Clean v.data.toList) :
    Known p true (if z then f else v) (t.text i p v).data.toList := by
  rw [text_list]
  refine ⟨fun hz => (by cases hz), fun _ => ?_⟩
  cases z with
  | false => exact First.new (h.1 rfl).1 i hv
  | true =>
    have := (h.2 rfl).more (sepL i ++ initOf p ++ [lastOf p] ++ [61] ++ (quoteL i :: (v.data.toList ++ [quoteL i])))
    simpa using this

theorem begins_no (c : Int) (h : spec_begins.f c = some true) : c ≠ 61 ∧ c ≠ 34 ∧ c ≠ 39 := by
  refine ⟨?_, ?_, ?_⟩
  all_goals
    intro e
    subst e
    revert h
    decide

theorem good_no (c : Int) (h : good c) : c ≠ 61 ∧ c ≠ 34 ∧ c ≠ 39 := by
  obtain ⟨_, _, _, h⟩ := h
  refine ⟨?_, ?_, ?_⟩
  all_goals
    intro e
    subst e
    revert h
    decide

theorem clean_of (v : ByteArray) (h : goodText v) : Clean v.data.toList := by
  have key : ∀ c : UInt8, c ∈ v.data.toList → c.toNat ≠ 61 ∧ c.toNat ≠ 34 ∧ c.toNat ≠ 39 := by
    intro c hc
    obtain ⟨t, ht, he⟩ := List.getElem_of_mem hc
    have ht' : t < v.size := by rw [Lib.size_eq]; exact ht
    have hb := (bt_is v t c ht').2 (by rw [List.getElem?_eq_getElem ht, he])
    have := good_no _ (h t ht')
    rw [hb] at this
    omega
  refine ⟨fun hm => (key _ hm).1 rfl, fun hm => (key _ hm).2.1 rfl, fun hm => (key _ hm).2.2 rfl⟩

theorem known (ns : List Int) (vs : List ByteArray) (k : Nat) (hg : goods ns vs k) :
    Known 0 (run ns vs k).z0 (run ns vs k).f0 (run ns vs k).s.data.toList ∧ Known 1 (run ns vs k).z1 (run ns vs k).f1 (run ns vs k).s.data.toList ∧ Known 2 (run ns vs k).z2 (run ns vs k).f2 (run ns vs k).s.data.toList := by
  induction k with
  | zero => exact ⟨⟨fun _ => ⟨NoKey.nil _, rfl⟩, fun h => by cases h⟩, ⟨fun _ => ⟨NoKey.nil _, rfl⟩, fun h => by cases h⟩, ⟨fun _ => ⟨NoKey.nil _, rfl⟩, fun h => by cases h⟩⟩
  | succ k ih =>
    have hv := clean_of _ (hg.2 k (by omega))
    obtain ⟨k0, k1, k2⟩ := ih ⟨by have := hg.1; omega, fun i hi => hg.2 i (by omega)⟩
    rw [run]
    generalize run ns vs k = T at *
    generalize rdOf ByteArray.empty vs (k : Int) = v at *
    rcases place_lt (rd ns (k : Int)) with h | h | h
    · rw [(pseudo_is _ 0 (by omega) h).1]
      exact ⟨k0.self hv, k1.other (by omega) (by omega) (by omega) hv, k2.other (by omega) (by omega) (by omega) hv⟩
    · rw [(pseudo_is _ 1 (by omega) h).1]
      exact ⟨k0.other (by omega) (by omega) (by omega) hv, k1.self hv, k2.other (by omega) (by omega) (by omega) hv⟩
    · rw [(pseudo_is _ 2 (by omega) h).1]
      exact ⟨k0.other (by omega) (by omega) (by omega) hv, k1.other (by omega) (by omega) (by omega) hv, k2.self hv⟩

/-! ### Where the search finds it -/
theorem key_list (p : Nat) : (nameOf p ++ (⟨#[61]⟩ : ByteArray)).toList = initOf p ++ [lastOf p] ++ [61] := by
  rw [Lib.toList_data, data_append, name_list]

theorem key_at1 (p : Nat) : (initOf p ++ [lastOf p] ++ [61])[(initOf p).length + 1]? = some 61 := by
  rw [List.getElem?_append_right (by simp)]
  simp
theorem key_at0 (p : Nat) : (initOf p ++ [lastOf p] ++ [61])[(initOf p).length]? = some (lastOf p) := by
  rw [List.append_assoc, List.getElem?_append_right (Nat.le_refl _)]
  simp

theorem noKey_at {p m : Nat} {s : ByteArray} (h : NoKey (lastOf p) s.data.toList) : ¬ At s m (initOf p ++ [lastOf p] ++ [61]) := by
  intro ha
  have h1 := ha.get ((initOf p).length + 1) (by simp)
  have h2 := ha.get (initOf p).length (by simp)
  rw [key_at1] at h1
  rw [key_at0] at h2
  obtain ⟨b, h0, h3, h4⟩ := h _ h1
  rw [show m + ((initOf p).length + 1) - 1 = m + (initOf p).length by omega, h2] at h3
  exact h4 (Option.some.inj h3).symm

theorem indexByte_at (v B : List UInt8) (q : UInt8) (h : q ∉ v) : Lib.indexByte (v ++ q :: B) q = v.length := by
  induction v with
  | nil => simp [Lib.indexByte]
  | cons a v ih =>
    have ih := ih (fun x => h (List.mem_cons_of_mem _ x))
    have ha : (a == q) = false := by
      rw [beq_eq_false_iff_ne]
      intro e
      exact h (e ▸ List.mem_cons_self ..)
    rw [List.cons_append, Lib.indexByte, ha, ih]
    have : ((v.length : Int) == -1) = false := by
      rw [beq_eq_false_iff_ne]
      omega
    rw [this]
    simp

/-- What the walk of the package's search asks: absent, or found at m with q, and the value v behind it. -/
theorem search (p : Nat) (hp : p < 3) (z : Bool) (f s : ByteArray) (hs : s.size ≤ 1000000000000) (h : Known p z f s.data.toList) :
    ((∃ k, xml_zzIndex.f k s (nameOf p ++ (⟨#[61]⟩ : ByteArray)) = some (-1)) ∧ f = ⟨#[]⟩) ∨
    ∃ (k m j : Nat) (q : UInt8), xml_zzIndex.f k s (nameOf p ++ (⟨#[61]⟩ : ByteArray)) = some (m : Int) ∧ (nameOf p).size + 1 + m < s.size ∧ (q = 34 ∨ q = 39) ∧ bt s (((nameOf p).size + 1 + m : Nat) : Int) = q.toNat ∧
      Lib.indexByte (s.extract ((nameOf p).size + 1 + m + 1) s.size).data.toList q = (j : Int) ∧ (nameOf p).size + 1 + m + 1 + j ≤ s.size ∧ s.extract ((nameOf p).size + 1 + m + 1) ((nameOf p).size + 1 + m + 1 + j) = f := by
  have hk := key_list p
  have hns : (nameOf p).size = (initOf p).length + 1 := by rw [Lib.size_eq, name_list]; simp
  have hks : (nameOf p ++ (⟨#[61]⟩ : ByteArray)).size = (nameOf p).size + 1 := by rw [ByteArray.size_append]; rfl
  have hle := nameOf_size p
  obtain ⟨i1, i2⟩ := index_tells s (nameOf p ++ (⟨#[61]⟩ : ByteArray)) hs (by omega) (by omega) (s.size + 1) 0 (by omega) (by omega)
  rw [hk] at i1 i2
  cases z with
  | false =>
    obtain ⟨h1, h2⟩ := h.1 rfl
    exact .inl ⟨(i1 fun m _ => noKey_at h1).rounds, h2⟩
  | true =>
    obtain ⟨A, B, q, hL, h1, h2, h3⟩ := h.2 rfl
    have hlen : s.size = A.length + ((initOf p).length + 1) + 1 + (1 + (f.data.toList.length + 1 + B.length)) := by
      rw [Lib.size_eq, hL]
      simp
      omega
    have hat : At s A.length (initOf p ++ [lastOf p] ++ [61]) := by
      unfold At
      rw [hL, show A ++ (initOf p ++ [lastOf p]) ++ [61] ++ (q :: (f.data.toList ++ q :: B)) = A ++ ((initOf p ++ [lastOf p] ++ [61]) ++ (q :: (f.data.toList ++ q :: B))) by simp, List.drop_left, List.take_left]
    have hno : ∀ m', 0 ≤ m' → m' < A.length → ¬ At s m' (initOf p ++ [lastOf p] ++ [61]) := by
      intro m' _ hm ha
      have g1 := ha.get ((initOf p).length + 1) (by simp)
      have g2 := ha.get (initOf p).length (by simp)
      rw [key_at1] at g1
      rw [key_at0] at g2
      have e1 : ∀ j, j < A.length + ((initOf p).length + 1) → s.data.toList[j]? = (A ++ (initOf p ++ [lastOf p]))[j]? := by
        intro j hj
        rw [hL, List.append_assoc (A ++ _), List.getElem?_append_left (by simp; omega)]
      rw [e1 _ (by omega)] at g1 g2
      obtain ⟨b, _, g3, g4⟩ := h1 _ g1
      rw [show m' + ((initOf p).length + 1) - 1 = m' + (initOf p).length by omega, g2] at g3
      exact g4 (Option.some.inj g3).symm
    obtain ⟨k, hkk⟩ := (i2 A.length (Nat.zero_le _) hat hno).rounds
    have hdrop : s.data.toList.drop ((nameOf p).size + 1 + A.length + 1) = f.data.toList ++ q :: B := by
      rw [hL, hns]
      have e : (A ++ (initOf p ++ [lastOf p]) ++ [61] ++ (q :: (f.data.toList ++ q :: B))) = (A ++ (initOf p ++ [lastOf p]) ++ [61] ++ [q]) ++ (f.data.toList ++ q :: B) := by simp
      rw [e, List.drop_append_of_le_length (by simp; omega), List.drop_eq_nil_of_le (by simp; omega)]
      rfl
    refine .inr ⟨k, A.length, f.data.toList.length, q, hkk, by omega, h2, ?_, ?_, by omega, ?_⟩
    · refine (bt_is s _ q (by omega)).2 ?_
      rw [hL, hns, List.getElem?_append_right (by simp; omega)]
      simp
      rw [show (initOf p).length + 1 + 1 + A.length - (A.length + ((initOf p).length + 1 + 1)) = 0 by omega]
      simp
    · rw [Lib.extract_data, hdrop, List.take_of_length_le (by rw [← hdrop, List.length_drop, ← Lib.size_eq]; omega)]
      refine indexByte_at _ _ _ ?_
      rcases h2 with rfl | rfl
      · exact h3.2.1
      · exact h3.2.2
    · rw [← Lib.mk_data (s.extract _ _), Lib.extract_data, hdrop]
      rw [show (nameOf p).size + 1 + A.length + 1 + f.data.toList.length - ((nameOf p).size + 1 + A.length + 1) = f.data.toList.length by omega, List.take_left, Lib.mk_data]

end Go.Proofs.Ytfcefkenpndblaa.ParPure
