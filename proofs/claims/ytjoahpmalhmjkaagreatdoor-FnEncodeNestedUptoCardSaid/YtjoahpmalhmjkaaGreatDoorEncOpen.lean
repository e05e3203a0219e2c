/- What is proved here: a row of tokens that came in, opened, and what its bulk bounds; no condition but those that each theorem names. -/
import Derived.Test.YtjoahpmalhmjkaaGreatDoorEncLaw
import Derived.Test.YtjoahpmalhmjkaaGreatDoorRows
import Derived.Deep.Slices
import Derived.Deep.Strs
namespace Go.Proofs.YtjoahpmalhmjkaaGreatDoor.EncOpen
open Go.RowKit Go.Proofs.YtjoahpmalhmjkaaGreatDoorW.PrintWords Go.Proofs.YtjoahpmalhmjkaaGreatDoorW.PrintLast Go.Proofs.YtjoahpmalhmjkaaGreatDoorW.PrintMore Go.Lib Go.ChangeShapes Go.Deep
open Go.Proofs.YtjoahpmalhmjkaaGreatDoor.PFnEncodeNested Go.Proofs.YtjoahpmalhmjkaaGreatDoor.EncSt Go.Proofs.YtjoahpmalhmjkaaGreatDoor.EncPlain
set_option linter.unusedVariables false
set_option linter.unusedSimpArgs false

section
variable {H : Type} {enc : TypeId × Value → H} {W : World} {base : Nat} {spare : Nat → Bool} {held : Bool}

theorem sum_range {α : Type} (bulk : α → Nat) (f : Nat → α) (D : Nat → DataW H) : ∀ L : List Nat, (∀ i ∈ L, bulk (f i) ≤ Rows.uptoBulk (D i)) → ((L.map f).map bulk).sum ≤ Rows.uptoBulkAll (L.map D)
  | [], _ => by simp
  | i :: L, h => by
    have h1 := h i (by simp)
    have h2 := sum_range bulk f D L (fun j hj => h j (by simp [hj]))
    simp only [List.map_cons, List.sum_cons, Rows.uptoBulkAll]
    omega

/-- A slice opened, its elements told by a word. -/
theorem open_rows {α : Type} [Inhabited α] (d : Kd α) (bulk : α → Nat) {t e : TypeId} (ht : Tryz.prog.underlying t = some (.slice e)) (hce : Tryz.prog.cellsOf e = d.sz)
    (hel : ∀ n cs x, DataW.trod enc Tryz.prog W base spare held n e cs = some x → ∃ a : α, d.K W a cs ∧ bulk a ≤ Rows.uptoBulk x.1) {fuel : Nat} {cs : List Value} {x : DataW H × List MemPlace} (h : DataW.trod enc Tryz.prog W base spare held fuel t cs = some x) :
    ∃ A len cap l, cs = [.slice A len cap] ∧ l.length = len ∧ len ≤ cap ∧ d.C W A len l ∧ (l.map bulk).sum + 1 ≤ Rows.uptoBulk x.1 := by
  rcases open_slice ht h with ⟨rfl, rfl⟩ | ⟨a, len, cap, m, n, D, Pl, rfl, hb, hl, hm, hmm, rfl, hx⟩
  · exact ⟨none, 0, 0, [], rfl, rfl, Nat.le_refl _, ⟨rfl, by omega, fun h0 => by omega⟩, by simp [Rows.uptoBulk]⟩
  · have hlm : len ≤ m := by rw [hmm]; split <;> omega
    obtain ⟨f, hf⟩ := choose_lt (α := α) (n := len) (p := fun i y => ∃ cs', W.cells? base (a.add (i * Tryz.prog.cellsOf e)) (Tryz.prog.cellsOf e) = some cs' ∧ d.K W y cs' ∧ bulk y ≤ Rows.uptoBulk (D i)) (fun i hi => by
      obtain ⟨cs', h1, h2⟩ := hx i (by omega)
      obtain ⟨y, g1, g2⟩ := hel _ _ _ h2
      exact ⟨y, cs', h1, g1, g2⟩)
    refine ⟨some a, len, cap, (List.range len).map f, rfl, by simp, hl, ⟨by simp, by simp only [maxLen] at hm; omega, fun h0 => ⟨a, rfl, fun j p hj => ?_⟩⟩, ?_⟩
    · have hjl : j < len := by have := (List.getElem?_eq_some_iff.1 hj).1; simpa using this
      have hp : f j = p := by simpa [hjl] using hj
      obtain ⟨cs', h1, h2, h3⟩ := hf j hjl
      rw [hp] at h2
      rw [hce] at h1
      obtain ⟨g1, g2, g3⟩ := World.cells?_some h1
      refine ⟨cs', g2, h2, fun i u hu => ?_⟩
      have hil : i < d.sz := by rw [← g2]; exact (List.getElem?_eq_some_iff.1 hu).1
      have h4 := g3 i hil
      rw [Go.Deep.add_add] at h4
      exact h4.trans hu
    · have := sum_range bulk f D (List.range len) (fun i hi => by
        obtain ⟨_, _, _, h3⟩ := hf i (List.mem_range.1 hi)
        exact h3)
      simp only [Rows.uptoBulk]
      omega

def ab (a : S59) : Nat := a.f0.size + a.f1.size + a.f2.size + 4
def tb (t : S28) : Nat := t.f1.size + t.f2.size + (t.f3.map ab).sum + t.f4.size + 7
theorem cells9 : Tryz.prog.cellsOf 9 = 1 := by kernel_rfl
theorem cells3 : Tryz.prog.cellsOf 3 = 1 := by kernel_rfl
theorem cells26 : Tryz.prog.cellsOf 26 = 1 := by kernel_rfl
theorem cells59 : Tryz.prog.cellsOf 59 = 3 := by kernel_rfl
theorem cells28 : Tryz.prog.cellsOf 28 = 6 := by kernel_rfl

theorem open_attr (n : Nat) (cs : List Value) (x : DataW H × List MemPlace) (h : DataW.trod enc Tryz.prog W base spare held n 59 cs = some x) : ∃ a : S59, k59.K W a cs ∧ ab a ≤ Rows.uptoBulk x.1 := by
  obtain ⟨y0, y1, y2, m, rfl, hl, h0, h1, h2⟩ := trod_struct3 Tryz.underlying59 h
  rw [cells59] at hl
  simp only [cells9] at h0 h1 h2
  match cs, hl with
  | [c0, c1, c2], _ =>
    obtain ⟨s0, e0, rfl, _⟩ := DataW.trod_string Tryz.underlying9 h0
    obtain ⟨s1, e1, rfl, _⟩ := DataW.trod_string Tryz.underlying9 h1
    obtain ⟨s2, e2, rfl, _⟩ := DataW.trod_string Tryz.underlying9 h2
    simp at e0 e1 e2
    subst e0 e1 e2
    refine ⟨⟨s0, s1, s2⟩, k59_mk W _, ?_⟩
    simp [ab, Rows.uptoBulk, Rows.uptoBulkAll]
    omega

instance : Inhabited S59 := ⟨z59⟩
instance : Inhabited S28 := ⟨z28⟩

set_option maxRecDepth 100000 in
theorem open_tok (n : Nat) (cs : List Value) (x : DataW H × List MemPlace) (h : DataW.trod enc Tryz.prog W base spare held n 28 cs = some x) : ∃ t : S28, k28.K W t cs ∧ tb t ≤ Rows.uptoBulk x.1 := by
  obtain ⟨xs, m, rfl, rfl, hl, hx, hf⟩ := DataW.trod_struct Tryz.underlying28 h
  rw [cells28] at hl
  match xs, hx with
  | [y0, y1, y2, y3, y4, y5], _ =>
    have h0 : DataW.trod enc Tryz.prog W base spare held m 3 ((cs.drop 0).take (Tryz.prog.cellsOf 3)) = some y0 := hf 0 _ rfl
    have h1 : DataW.trod enc Tryz.prog W base spare held m 9 ((cs.drop 1).take (Tryz.prog.cellsOf 9)) = some y1 := hf 1 _ rfl
    have h2 : DataW.trod enc Tryz.prog W base spare held m 9 ((cs.drop 2).take (Tryz.prog.cellsOf 9)) = some y2 := hf 2 _ rfl
    have h3 : DataW.trod enc Tryz.prog W base spare held m 26 ((cs.drop 3).take (Tryz.prog.cellsOf 26)) = some y3 := hf 3 _ rfl
    have h4 : DataW.trod enc Tryz.prog W base spare held m 9 ((cs.drop 4).take (Tryz.prog.cellsOf 9)) = some y4 := hf 4 _ rfl
    have h5 : DataW.trod enc Tryz.prog W base spare held m 3 ((cs.drop 5).take (Tryz.prog.cellsOf 3)) = some y5 := hf 5 _ rfl
    rw [cells3] at h0 h5
    rw [cells9] at h1 h2 h4
    rw [cells26] at h3
    match cs, hl with
    | [c0, c1, c2, c3, c4, c5], _ =>
      obtain ⟨s0, e0, rfl, _⟩ := DataW.trod_int Tryz.underlying3 h0
      obtain ⟨s1, e1, rfl, _⟩ := DataW.trod_string Tryz.underlying9 h1
      obtain ⟨s2, e2, rfl, _⟩ := DataW.trod_string Tryz.underlying9 h2
      obtain ⟨A3, n3, cap3, l3, e3, rfl, hl3, hC3, hb3⟩ := open_rows k59 ab Tryz.underlying26 cells59 open_attr h3
      obtain ⟨s4, e4, rfl, _⟩ := DataW.trod_string Tryz.underlying9 h4
      obtain ⟨s5, e5, rfl, _⟩ := DataW.trod_int Tryz.underlying3 h5
      simp at e0 e1 e2 e3 e4 e5
      subst e0 e1 e2 e3 e4 e5
      refine ⟨⟨s0, s1, s2, l3, s4, s5⟩, k28_mk W ⟨s0, s1, s2, l3, s4, s5⟩ hl3 hC3, ?_⟩
      simp [tb, Rows.uptoBulk, Rows.uptoBulkAll]
      omega
end

theorem cost_le (l : List S59) : cost (pairsOf (l.map gva)) ≤ 6 * (l.map ab).sum := by
  induction l with
  | nil => simp [cost, pairsOf]
  | cons a r ih =>
    have e : cost (pairsOf ((a :: r).map gva)) = (4 + a.f1.size + 6 * a.f2.size) + cost (pairsOf (r.map gva)) := by
      simp [cost, pairsOf, gva]
    rw [e, List.map_cons, List.sum_cons]
    unfold ab at *
    omega
theorem total_le6 (l : List S28) : total (l.map gv) ≤ 6 * (l.map tb).sum := by
  induction l with
  | nil => simp [total]
  | cons t r ih =>
    have e : total ((t :: r).map gv) = tcost (gv t) + total (r.map gv) := by simp [total]
    have h1 := cost_le t.f3
    rw [e, List.map_cons, List.sum_cons]
    have h2 : tcost (gv t) = 7 + t.f2.size + 6 * t.f4.size + cost (pairsOf (t.f3.map gva)) := rfl
    unfold tb at *
    omega
theorem mem_sum {α : Type} (f : α → Nat) {x : α} : ∀ {l : List α}, x ∈ l → f x ≤ (l.map f).sum
  | y :: l, h => by
    rw [List.map_cons, List.sum_cons]
    rcases List.mem_cons.1 h with rfl | h
    · omega
    · have := mem_sum f h
      omega
theorem len_sum {α : Type} (f : α → Nat) (h1 : ∀ x, 1 ≤ f x) (l : List α) : l.length ≤ (l.map f).sum := by
  induction l with
  | nil => simp
  | cons y l ih =>
    have := h1 y
    rw [List.map_cons, List.sum_cons, List.length_cons]
    omega
theorem small_of (l : List S28) (h : (l.map tb).sum ≤ 1048576) : ∀ t ∈ l, Small t := by
  intro t ht
  have h1 := mem_sum tb ht
  have h2 : t.f3.length ≤ (t.f3.map ab).sum := len_sum ab (fun a => by unfold ab; omega) t.f3
  have h3 : tb t = t.f1.size + t.f2.size + (t.f3.map ab).sum + t.f4.size + 7 := rfl
  refine ⟨by omega, by omega, by omega, by omega, fun a ha => ?_⟩
  have h4 := mem_sum ab ha
  have h5 : ab a = a.f0.size + a.f1.size + a.f2.size + 4 := rfl
  exact ⟨by omega, by omega⟩

end Go.Proofs.YtjoahpmalhmjkaaGreatDoor.EncOpen
