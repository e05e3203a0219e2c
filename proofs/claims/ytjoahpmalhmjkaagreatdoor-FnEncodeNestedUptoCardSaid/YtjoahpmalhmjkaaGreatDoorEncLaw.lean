/- What is proved here: the reference's Plain, the laws' given, and the law FnEncodeNested, walked; conditions: the package variables as laid, at most 2^33 bytes in all. -/
import Derived.Test.YtjoahpmalhmjkaaGreatDoorEncTot
import Derived.Test.YtjoahpmalhmjkaaGreatDoorEncEnc
import Derived.Test.YtjoahpmalhmjkaaGreatDoorEncX8
namespace Go.Proofs.YtjoahpmalhmjkaaGreatDoor.EncPlain
open Go.RowKit Go.Proofs.YtjoahpmalhmjkaaGreatDoorW.PrintWords Go.Proofs.YtjoahpmalhmjkaaGreatDoorW.PrintLast Go.Proofs.YtjoahpmalhmjkaaGreatDoorW.PrintMore Go.Lib
open Go.Proofs.YtjoahpmalhmjkaaGreatDoor.PFnEncodeNested Go.Proofs.YtjoahpmalhmjkaaGreatDoor.EncSt Go.Proofs.YtjoahpmalhmjkaaGreatDoor.EncTot Go.Proofs.YtjoahpmalhmjkaaGreatDoor.IsKind
set_option linter.unusedVariables false
set_option linter.unusedSimpArgs false

/-- A token of the reference, as the thin package is given it. -/
def gva (a : S59) : S60 := ⟨a.f0, a.f1, a.f2⟩
def gv (t : S28) : S49 := ⟨t.f0, t.f1, t.f2, t.f3.map gva, t.f4, 0, 0, 0⟩

/-- What is open behind the tokens l. -/
inductive PRun : List S28 → List ByteArray → Prop
  | nil : PRun [] []
  | start {l : List S28} {st : List ByteArray} {t : S28} (h : PRun l st) (h0 : t.f0 = 1) (h1 : t.f1 = ⟨#[]⟩) (h2 : 0 < t.f2.size) (h3 : ∀ a ∈ t.f3, a.f0 = ⟨#[]⟩ ∧ 0 < a.f1.size) : PRun (l ++ [t]) (st ++ [t.f2])
  | close {l : List S28} {st : List ByteArray} {t : S28} (h : PRun l (st ++ [t.f2])) (h0 : t.f0 = 2) (h1 : t.f1 = ⟨#[]⟩) (h2 : 0 < t.f2.size) : PRun (l ++ [t]) st
  | text {l : List S28} {st : List ByteArray} {t : S28} (h : PRun l st) (h0 : t.f0 = 3) : PRun (l ++ [t]) st
  | comment {l : List S28} {st : List ByteArray} {t : S28} (h : PRun l st) (h0 : t.f0 = 4) (h1 : Nowhere (t.f4 ++ ⟨#[45]⟩) ⟨#[45, 45]⟩) : PRun (l ++ [t]) st
  | proc {l : List S28} {st : List ByteArray} {t : S28} (h : PRun l st) (h0 : t.f0 = 5) (h1 : kindOf t.f2 = 0) (h3 : t.f2.toList ≠ [120, 109, 108]) (h4 : Nowhere t.f4 ⟨#[63, 62]⟩) : PRun (l ++ [t]) st

theorem nowhere_end {s : ByteArray} (h : Nowhere (s ++ ⟨#[45]⟩) ⟨#[45, 45]⟩) : Nowhere s ⟨#[45, 45, 62]⟩ := by
  intro i hi
  have hsz : (⟨#[45, 45, 62]⟩ : ByteArray).size = 3 := rfl
  have hsz2 : (⟨#[45, 45]⟩ : ByteArray).size = 2 := rfl
  rw [hsz] at hi ⊢
  have h2 := h i (by rw [hsz2, ByteArray.size_append]; omega)
  rw [hsz2] at h2
  intro e
  apply h2
  have e2 : (s ++ (⟨#[45]⟩ : ByteArray)).data.toList = s.data.toList ++ [45] := by simp
  have hl : s.data.toList.length = s.size := by simp
  rw [e2, List.drop_append_of_le_length (by omega), List.take_append_of_le_length (by rw [List.length_drop]; omega)]
  have e3 : (s.data.toList.drop i).take 2 = ((s.data.toList.drop i).take 3).take 2 := by rw [List.take_take]; rfl
  rw [e3, e]
  rfl

theorem PRun.enc {l : List S28} {st : List ByteArray} (h : PRun l st) : ∀ (pre : List ByteArray) (rest : List S49) (r : Option (List ByteArray)), Enc (pre ++ st) rest r → Enc pre (l.map gv ++ rest) r := by
  induction h with
  | nil => intro pre rest r h; simpa using h
  | start _ h0 h1 h2 h3 ih =>
    intro pre rest r h
    rw [List.map_append, List.append_assoc]
    refine ih pre _ r (.start h0 h1 h2 ?_ ?_)
    · intro a ha
      obtain ⟨b, hb, rfl⟩ := List.mem_map.1 ha
      exact h3 b hb
    · simpa [gv, List.append_assoc] using h
  | close _ h0 h1 h2 ih =>
    intro pre rest r h
    rw [List.map_append, List.append_assoc]
    refine ih pre _ r ?_
    rw [← List.append_assoc]
    rename_i t _
    exact Enc.close (t := gv t) h0 h1 h2 h
  | text _ h0 ih =>
    intro pre rest r h
    rw [List.map_append, List.append_assoc]
    exact ih pre _ r (.text h0 h)
  | comment _ h0 h1 ih =>
    intro pre rest r h
    rw [List.map_append, List.append_assoc]
    exact ih pre _ r (.comment h0 (nowhere_end h1) h)
  | proc _ h0 h1 h3 h4 ih =>
    intro pre rest r h
    rw [List.map_append, List.append_assoc]
    obtain ⟨_, g1, g2⟩ := name_facts _ h1
    exact ih pre _ r (.proc h0 g1 g2 h3 h4 h)

/-- The row of the open elements. -/
def PRow (base : Nat) (W : World) (v : Value) (st : List ByteArray) : Prop :=
  (∀ s ∈ st, 0 < s.size) ∧ ∃ xs, W.ownsRow base 28 6 v st.length xs ∧ ∀ (j : Nat) (s : ByteArray), st[j]? = some s → xs[j * 6 + 1]? = some (.string ⟨#[]⟩) ∧ xs[j * 6 + 2]? = some (.string s)

theorem own_len {w : World} {base n size : Nat} {e : TypeId} {v : Value} {xs : List Value} (h : w.ownsRow base e size v n xs) : xs.length = n * size := h.1

theorem PRow.move {base : Nat} {W W' : World} {v : Value} {st : List ByteArray} (h : PRow base W v st) (hb : Below W.heap.size W W') : PRow base W' v st := by
  obtain ⟨h1, xs, h2, h3⟩ := h
  exact ⟨h1, xs, own_move h2 (fun k hk => hb.block k (own_lt h2 k hk)), h3⟩

theorem PRow.slice {base : Nat} {W : World} {v : Value} {st : List ByteArray} (h : PRow base W v st) : ∃ A c, v = .slice A st.length c := own_slice h.2.choose_spec.1

theorem PRow.push {base : Nat} {W : World} {v : Value} {st : List ByteArray} {xs : List Value} {nm : ByteArray} {a b c d : Value} (hp : ∀ s ∈ st, 0 < s.size) (h3 : ∀ (j : Nat) (s : ByteArray), st[j]? = some s → xs[j * 6 + 1]? = some (.string ⟨#[]⟩) ∧ xs[j * 6 + 2]? = some (.string s)) (hl : xs.length = st.length * 6) (hn : 0 < nm.size)
    (h : W.ownsRow base 28 6 v (st.length + 1) (xs ++ [a, .string ⟨#[]⟩, .string nm, b, c, d])) : PRow base W v (st ++ [nm]) := by
  refine ⟨?_, _, by rw [List.length_append, List.length_singleton]; exact h, ?_⟩
  · intro s hs
    rcases List.mem_append.1 hs with h | h
    · exact hp s h
    · rw [List.mem_singleton.1 h]; exact hn
  · intro j s hj
    by_cases hjl : j < st.length
    · rw [List.getElem?_append_left hjl] at hj
      obtain ⟨g1, g2⟩ := h3 j s hj
      exact ⟨by rw [List.getElem?_append_left (by omega)]; exact g1, by rw [List.getElem?_append_left (by omega)]; exact g2⟩
    · have hlt := (List.getElem?_eq_some_iff.1 hj).1
      rw [List.length_append, List.length_singleton] at hlt
      obtain rfl : j = st.length := by omega
      have hs : nm = s := by simpa using hj
      subst hs
      exact ⟨by rw [List.getElem?_append_right (by omega), hl, Nat.add_sub_cancel_left]; rfl, by rw [List.getElem?_append_right (by omega), hl, Nat.add_sub_cancel_left]; rfl⟩

theorem PRow.last {base : Nat} {W : World} {v : Value} {st : List ByteArray} {s : ByteArray} (h : PRow base W v (st ++ [s])) :
    ∃ x c, v = .slice (some ⟨x, 0, none⟩) (st.length + 1) c ∧ st.length + 1 ≤ c ∧ W.cell? ⟨x, st.length * 6 + 1, none⟩ = some (.string ⟨#[]⟩) ∧ W.cell? ⟨x, st.length * 6 + 2, none⟩ = some (.string s) ∧ 0 < s.size ∧
      ∀ W', W' = W → PRow base W' (.slice (some ⟨x, 0, none⟩) st.length c) st := by
  obtain ⟨h1, xs, h2, h3⟩ := h
  obtain ⟨x, c, rfl, hle, hc⟩ := own_form h2 (by simp)
  obtain ⟨g1, g2⟩ := h3 st.length s (by simp)
  have h2' := h2
  rw [List.length_append, List.length_singleton] at hle h2' ⊢
  refine ⟨x, c, rfl, hle, hc _ _ g1, hc _ _ g2, h1 s (by simp), ?_⟩
  rintro W' rfl
  refine ⟨fun u hu => h1 u (by simp [hu]), _, own_shrink h2' (m := st.length) (by omega), ?_⟩
  intro j u hj
  have hlt := (List.getElem?_eq_some_iff.1 hj).1
  obtain ⟨k1, k2⟩ := h3 j u (by rw [List.getElem?_append_left hlt]; exact hj)
  exact ⟨by rw [List.getElem?_take_of_lt (by omega)]; exact k1, by rw [List.getElem?_take_of_lt (by omega)]; exact k2⟩

theorem cut_tok (x m c : Nat) (hc : m + 1 ≤ c) (W : World) : (Instr.slice 22 (.slice (some ⟨x, 0, none⟩) (m + 1) c) none (some (.int .i64 (m : Int))) none).run Tryz.prog W = .ok (.slice (some ⟨x, 0, none⟩) m c) W := by
  have hel : Tryz.prog.elem 22 = 28 := by simp [Program.elem, Tryz.underlying22]
  have hu : Tryz.prog.underlying 22 = some (.slice (Tryz.prog.elem 22)) := by rw [hel]; exact Tryz.underlying22
  obtain ⟨i0, hi, hz⟩ := Option.map_eq_some_iff.1 (show (Tryz.prog.info? 28).map (·.size) = some 6 by kernel_rfl)
  rw [run_slice_h W 22 _ (m + 1) c hu .i64 (m : Int) (Int.natCast_nonneg _) (by omega), hel]
  simp [sizeOf, typeInfo, hi, hz, sliced, Result.andThen, Addr.add]

/-- A token's own block, its cells. -/
def tcells (t : S28) (A3 : Option Addr) (c3 : Nat) : Array Value := #[.int .i64 t.f0, .string t.f1, .string t.f2, .slice A3 t.f3.length c3, .string t.f4, .int .i64 t.f5]
structure Box (W : World) (B : Nat) (t : S28) (A3 : Option Addr) (c3 : Nat) : Prop where
  blk : W.heap[B]? = some (.cells (tcells t A3 c3) 28 (0, 0))
  at3 : k59.C W A3 t.f3.length t.f3
section
variable {W W' : World} {B : Nat} {t : S28} {A3 : Option Addr} {C3 : Nat}
theorem Box.c0 (h : Box W B t A3 C3) : W.cell? ⟨B, 0, none⟩ = some (.int .i64 t.f0) := blk_cell h.blk 0
theorem Box.c1 (h : Box W B t A3 C3) : W.cell? ⟨B, 1, none⟩ = some (.string t.f1) := blk_cell h.blk 1
theorem Box.c2 (h : Box W B t A3 C3) : W.cell? ⟨B, 2, none⟩ = some (.string t.f2) := blk_cell h.blk 2
theorem Box.c3 (h : Box W B t A3 C3) : W.cell? ⟨B, 3, none⟩ = some (.slice A3 t.f3.length C3) := blk_cell h.blk 3
theorem Box.c4 (h : Box W B t A3 C3) : W.cell? ⟨B, 4, none⟩ = some (.string t.f4) := blk_cell h.blk 4
theorem Box.c5 (h : Box W B t A3 C3) : W.cell? ⟨B, 5, none⟩ = some (.int .i64 t.f5) := blk_cell h.blk 5
theorem Box.move (h : Box W B t A3 C3) (hb : Below W.heap.size W W') : Box W' B t A3 C3 := ⟨blk_below h.blk hb, Kd.C_below h.at3 hb⟩
end

/-- What is asked of a token's sizes. -/
structure Small (t : S28) : Prop where
  s1 : t.f1.size ≤ 549755813888
  s2 : t.f2.size ≤ 549755813888
  s4 : t.f4.size ≤ 549755813888
  s3 : t.f3.length ≤ 549755813888
  sa : ∀ a ∈ t.f3, a.f1.size ≤ 549755813888 ∧ a.f2.size ≤ 549755813888

theorem drawn_below {W W' : World} (h : Drawn0 W W') : Below W.heap.size W W' := by
  exact h.below

/-- What is kept from round to round. -/
structure PInv (W : World) (l : List S28) (i : Nat) (v : Value) (st : List ByteArray) (W1 : World) : Prop where
  run : PRun (l.take i) st
  row : PRow W.heap.size W1 v st
  bel : Below W.heap.size W W1
  len : st.length ≤ i
theorem PInv.move {W W1 W2 : World} {l : List S28} {i : Nat} {v : Value} {st : List ByteArray} (h : PInv W l i v st W1) (hb : Below W1.heap.size W1 W2) : PInv W l i v st W2 :=
  ⟨h.run, h.row.move hb, below_step h.bel hb, h.len⟩

set_option maxHeartbeats 8000000 in
set_option maxRecDepth 100000 in
theorem plain_any (W : World) (A : Option Addr) (c : Nat) (l : List S28) (hc : l.length ≤ c) (hr : Kd.C k28 W A l.length l) (hl : l.length ≤ 4294967296) (hs : ∀ t ∈ l, Small t) :
    Calls Tryz.prog 5 #[.slice A l.length c, .bool false] W fun e W' => ∃ r : Bool, e = .returned (.bool r) ∧ (r = true → PRun l []) ∧ Below W.heap.size W W' := by
  have HR := Aside0.mk hr
  have HI := Aside0.mk (show PInv W l 0 (.slice none 0 0) [] W from ⟨.nil, ⟨by simp, [], own_nil _ _ _ _, by simp⟩, Below.refl _ _, Nat.le_refl _⟩)
  clear hr
  go_enter Tryz.func5, Tryz.ntmps5
  go_wp2_with fail
  go_loopw [5, 11] (fun v5 v11 W1 => ∃ (i : Nat) (st : List ByteArray), v11 = .int .i64 (i : Int) ∧ i ≤ l.length ∧ Aside0 (PInv W l i v5 st W1)) (fun _ v11 _ => l.length - (RowKit.intOf v11).toNat)
  case atStart => exact ⟨0, [], rfl, Nat.zero_le _, HI⟩
  case round =>
    obtain ⟨i, st, rfl, hi, HP⟩ := hrel
    clear HI
    by_cases hlt : i < l.length
    · have hr := Kd.C_below HR.out HP.out.bel
      obtain ⟨ad, A3, c3, rfl, x0, x1, x2, x3, x4, x5, hc3, hat⟩ := at_T28 hr (i : Int) (by omega) (by omega)
      have hrd : rd_T28 l (i : Int) = l[i] := by
        unfold rd_T28
        rw [List.getD_eq_getElem?_getD]
        simp [hlt]
      rw [hrd] at x0 x1 x2 x3 x4 x5 hc3 hat
      have HS := Aside0.mk (hs _ (List.getElem_mem hlt))
      have HT := Aside0.mk (List.take_succ_eq_append_getElem hlt)
      generalize l[i] = t at x0 x1 x2 x3 x4 x5 hc3 hat HS HT
      simp only [Int.toNat_natCast] at x0 x1 x2 x3 x4 x5
      have HAT := Aside0.mk hat
      clear hr hrd hat
      go_wp2_with fail
      have HB := Aside0.mk (show Box (wr.alloc (.cells (tcells t A3 c3) 28)) wr.heap.size t A3 c3 from ⟨blk_new _ _, Kd.C_below HAT.out (below_alloc (Below.refl _ _) _)⟩)
      have HQ := Aside0.mk (HP.out.move (below_alloc (Below.refl wr.heap.size wr) (.cells (tcells t A3 c3) 28)))
      clear x0 x1 x2 x3 x4 x5 HAT HP
      unfold tcells at HB HQ
      generalize wr.alloc (.cells #[.int .i64 t.f0, .string t.f1, .string t.f2, .slice A3 t.f3.length c3, .string t.f4, .int .i64 t.f5] 28) = w1 at HB HQ ⊢
      generalize wr.heap.size = B at HB ⊢
      obtain ⟨rn, hrn⟩ := neat_tot t
      with_reducible refine (spec_neat.calls t.f0 t.f1 t.f2 A3 c3 t.f3 t.f4 t.f5 rn w1 HB.out.at3 hc3 hrn).mono ?_
      rintro e w2 ⟨rfl, hb⟩
      have HB2 := Aside0.mk (HB.out.move hb)
      have HQ2 := Aside0.mk (HQ.out.move hb)
      clear hb HB HQ hrn
      have y0 := HB2.out.c0
      have y1 := HB2.out.c1
      have y2 := HB2.out.c2
      have y3 := HB2.out.c3
      have y4 := HB2.out.c4
      have y5 := HB2.out.c5
      cases rn
      · go_wp2_with fail
        go_ret
        exact ⟨false, rfl, by simp, HQ2.out.bel⟩
      by_cases k1 : t.f0 = 1
      · obtain ⟨r1, hr1, hp1⟩ := named_tot t.f1 t.f2 (by have := HS.out.s2; omega)
        obtain ⟨n1, hn1⟩ := hr1.rounds
        have HP1 := Aside0.mk hp1
        clear hr1 hp1
        go_wp2_with fail
        with_reducible refine (spec_named.calls n1 t.f1 t.f2 false false r1 w2 hn1).mono ?_
        rintro e w3 ⟨rfl, hd⟩
        have HB3 := Aside0.mk (HB2.out.move hd.below)
        have HQ3 := Aside0.mk (HQ2.out.move hd.below)
        clear y0 y1 y2 y3 y4 y5 HB2 HQ2
        have y0 := HB3.out.c0
        have y1 := HB3.out.c1
        have y2 := HB3.out.c2
        have y3 := HB3.out.c3
        have y4 := HB3.out.c4
        have y5 := HB3.out.c5
        clear hd hn1
        cases r1
        · go_wp2_with fail
          go_ret
          exact ⟨false, rfl, by simp, HQ3.out.bel⟩
        obtain ⟨r2, hr2, hp2⟩ := attr_tot t.f3 (by have := HS.out.s3; omega) (fun a ha => by have := HS.out.sa a ha; omega)
        obtain ⟨n2, hn2⟩ := hr2.rounds
        have HP2 := Aside0.mk hp2
        clear hr2 hp2
        go_wp2_with fail
        with_reducible refine (spec_attributes.calls n2 A3 c3 t.f3 false r2 w3 HB3.out.at3 hc3 hn2).mono ?_
        rintro e w4 ⟨rfl, hd⟩
        have HB4 := Aside0.mk (HB3.out.move hd)
        have HQ4 := Aside0.mk (HQ3.out.move hd)
        clear y0 y1 y2 y3 y4 y5 HB3 HQ3
        have y0 := HB4.out.c0
        have y1 := HB4.out.c1
        have y2 := HB4.out.c2
        have y3 := HB4.out.c3
        have y4 := HB4.out.c4
        have y5 := HB4.out.c5
        clear hd hn2
        cases r2
        · go_wp2_with fail
          go_ret
          exact ⟨false, rfl, by simp, HQ4.out.bel⟩
        obtain ⟨A0, c0, rfl⟩ := HQ4.out.row.slice
        obtain ⟨hpp, xs, hown, hcell⟩ := HQ4.out.row
        have HCE := Aside0.mk hcell
        have HPP := Aside0.mk hpp
        have HOW := Aside0.mk hown
        have hname := name_facts _ (HP1.out (by simp)).2
        have hsp := (HP1.out (by simp)).1
        have HSP := Aside0.mk hsp
        have HN := Aside0.mk hname
        have hst := HQ4.out.len
        clear hcell hpp hown hname
        rw [hsp] at y1
        clear hsp
        go_wp2_with (at_builtin; refine print_append_cells (w0 := W) W.heap.size rfl _ _ 22 28 (.agg #[.int .i64 0, .string ⟨#[]⟩, .string ⟨#[]⟩, .slice none 0 0, .string ⟨#[]⟩, .int .i64 0]) 6 88 rfl Tryz.underlying22 info28 rfl (by decide) (by decide) (.slice A0 st.length c0) st.length xs [.int .i64 1, .string ⟨#[]⟩, .string t.f2, .slice A3 t.f3.length c3, .string t.f4, .int .i64 t.f5] rfl (by simp [Act.eval, Act.put]) rfl (by intro u hu; simp at hu; rcases hu with rfl | rfl | rfl | rfl | rfl | rfl <;> rfl) HOW.out HQ4.out.bel (HQ4.out.bel.size) (by omega) ?_; intro v1 w5 hown5 hbel5 hgr5 hat5; have HO5 := Aside0.mk hown5; have HB5 := Aside0.mk hbel5; clear hown5 hbel5 hgr5 hat5)
        go_roundw
        case rel =>
          go_light
          exact ⟨i + 1, st ++ [t.f2], by go_num, by omega, ⟨by rw [HT.out]; exact .start HQ4.out.run k1 HSP.out HN.out.1 (HP2.out (by simp)), PRow.push HPP.out HCE.out (own_len HOW.out) HN.out.1 HO5.out, HB5.out, by rw [List.length_append, List.length_singleton]; omega⟩⟩
        case measure =>
          go_light
          simp [RowKit.intOf]
          omega
      by_cases k2 : t.f0 = 2
      · rcases List.eq_nil_or_concat st with hst | ⟨st0, s0, hst⟩
        · subst hst
          obtain ⟨A0, c0, hv0⟩ : ∃ A c, u5 = .slice A 0 c := HQ2.out.row.slice
          subst hv0
          go_wp2_with fail
          go_quiet (fail)
          go_wp2_with fail
          go_ret
          exact ⟨false, rfl, by simp, pw_below_drewN HQ2.out.bel _⟩
        rw [List.concat_eq_append] at hst
        subst hst
        obtain ⟨x, c0, hv, hle, z1, z2, z0, hcut⟩ := HQ2.out.row.last
        obtain ⟨m, hm⟩ : ∃ m, m = st0.length := ⟨_, rfl⟩
        have hlen := HQ2.out.len
        rw [List.length_append, List.length_singleton] at hlen
        have HCUT := Aside0.mk hcut
        rw [← hm] at hv hle z1 z2 hlen
        subst hv
        have hcutr := cut_tok x m c0 hle
        have HM := Aside0.mk hm
        clear hcut hm
        have hg0 : ((m : Int) + 1 == 0) = false := beq_eq_false_iff_ne.2 (by omega)
        have hgd : decide ((m : Int) + 1 = 0) = false := decide_eq_false (by omega)
        by_cases j1 : t.f1 = ⟨#[]⟩
        · rw [j1] at y1
          by_cases j2 : s0 = t.f2
          · have HJ := Aside0.mk (And.intro j1 j2)
            have hbn : (s0.toList == t.f2.toList) = true := by rw [j2]; simp
            clear j1 j2
            go_wp2_with fail
            go_quiet (fail)
            go_wp2_with fail
            go_roundw
            case rel =>
              go_light
              exact ⟨i + 1, st0, by go_num, by omega, ⟨by rw [HT.out]; exact .close (by rw [← HJ.out.2]; exact HQ2.out.run) k2 HJ.out.1 (by rw [← HJ.out.2]; exact z0), by rw [HM.out]; exact (HCUT.out _ rfl).move (pw_below_drewN (Below.refl _ _) _), pw_below_drewN HQ2.out.bel _, by have := HM.out; omega⟩⟩
            case measure =>
              go_light
              simp [RowKit.intOf]
              omega
          · have hbn : (s0.toList == t.f2.toList) = false := beq_eq_false_iff_ne.2 (fun e => j2 (ByteArray.ext (Array.toList_inj.1 (by rw [← Lib.toList_data, ← Lib.toList_data]; exact e))))
            clear j1 j2
            go_wp2_with fail
            go_quiet (fail)
            go_wp2_with fail
            go_ret
            exact ⟨false, rfl, by simp, pw_below_drewN HQ2.out.bel _⟩
        · have hbn : (([] : List UInt8) == t.f1.toList) = false := beq_eq_false_iff_ne.2 (fun e => j1 (empty_eq e.symm))
          have hbm : t.f1.toList.isEmpty = false := List.isEmpty_eq_false_iff.2 (fun e => j1 (empty_eq e))
          clear j1
          go_wp2_with fail
          go_quiet (fail)
          go_wp2_with fail
          go_ret
          exact ⟨false, rfl, by simp, pw_below_drewN HQ2.out.bel _⟩
      by_cases k3 : t.f0 = 3
      · obtain ⟨r1, hr1⟩ := chars_any t.f4 (by have := HS.out.s4; omega)
        obtain ⟨n1, hn1⟩ := hr1.rounds
        clear hr1
        go_wp2_with fail
        with_reducible refine (spec_Chars.calls n1 t.f4 r1 w2 hn1).mono ?_
        rintro e w3 ⟨rfl, hd⟩
        have HQ3 := Aside0.mk (HQ2.out.move hd.below)
        clear hd hn1 HQ2 HB2 y0 y1 y2 y3 y4 y5
        cases r1
        · go_wp2_with fail
          go_ret
          exact ⟨false, rfl, by simp, HQ3.out.bel⟩
        go_wp2_with fail
        go_roundw
        case rel =>
          go_light
          exact ⟨i + 1, st, by go_num, by omega, ⟨by rw [HT.out]; exact .text HQ3.out.run k3, HQ3.out.row, HQ3.out.bel, by have := HQ3.out.len; omega⟩⟩
        case measure =>
          go_light
          simp [RowKit.intOf]
          omega
      by_cases k4 : t.f0 = 4
      · obtain ⟨r1, hr1⟩ := verbatim_tot t.f4 (by have := HS.out.s4; omega)
        obtain ⟨n1, hn1⟩ := hr1.rounds
        clear hr1
        go_wp2_with fail
        with_reducible refine (spec_verbatim.calls n1 t.f4 r1 w2 hn1).mono ?_
        rintro e w3 ⟨rfl, hd⟩
        have HB3 := Aside0.mk (HB2.out.move hd.below)
        have HQ3 := Aside0.mk (HQ2.out.move hd.below)
        clear y0 y1 y2 y3 y4 y5 HB2 HQ2
        have y0 := HB3.out.c0
        have y1 := HB3.out.c1
        have y2 := HB3.out.c2
        have y3 := HB3.out.c3
        have y4 := HB3.out.c4
        have y5 := HB3.out.c5
        clear hd hn1
        cases r1
        · go_wp2_with fail
          go_ret
          exact ⟨false, rfl, by simp, HQ3.out.bel⟩
        obtain ⟨r2, hr2, hp2⟩ := holds_tot (t.f4 ++ ⟨#[45]⟩) ⟨#[45, 45]⟩ (by rw [ByteArray.size_append]; have := HS.out.s4; have : (⟨#[45]⟩ : ByteArray).size = 1 := rfl; omega) (by decide)
        obtain ⟨n2, hn2⟩ := hr2.rounds
        have HP2 := Aside0.mk hp2
        have hcat : t.f4.size + 1 ≤ 9223372036854775807 := by have := HS.out.s4; omega
        clear hr2 hp2
        go_wp2_with fail
        with_reducible refine (spec_holds.calls n2 (t.f4 ++ (⟨#[45]⟩ : ByteArray)) (⟨#[45, 45]⟩ : ByteArray) r2 w3 hn2).mono ?_
        rintro e w4 ⟨rfl, hd⟩
        have HQ4 := Aside0.mk (HQ3.out.move hd.below)
        clear hd hn2 HQ3 HB3 y0 y1 y2 y3 y4 y5
        cases r2
        · go_wp2_with fail
          go_roundw
          case rel =>
            go_light
            exact ⟨i + 1, st, by go_num, by omega, ⟨by rw [HT.out]; exact .comment HQ4.out.run k4 (HP2.out (by simp)), HQ4.out.row, HQ4.out.bel, by have := HQ4.out.len; omega⟩⟩
          case measure =>
            go_light
            simp [RowKit.intOf]
            omega
        · go_wp2_with fail
          go_ret
          exact ⟨false, rfl, by simp, HQ4.out.bel⟩
      by_cases k5 : t.f0 = 5
      · obtain ⟨r1, hr1, hp1⟩ := isName_tot t.f2 (by have := HS.out.s2; omega)
        obtain ⟨n1, hn1⟩ := hr1.rounds
        have HP1 := Aside0.mk hp1
        clear hr1 hp1
        go_wp2_with fail
        with_reducible refine (spec_IsName.calls n1 t.f2 r1 w2 hn1).mono ?_
        rintro e w3 ⟨rfl, hd⟩
        have HB3 := Aside0.mk (HB2.out.move hd.below)
        have HQ3 := Aside0.mk (HQ2.out.move hd.below)
        clear y0 y1 y2 y3 y4 y5 HB2 HQ2
        have y0 := HB3.out.c0
        have y1 := HB3.out.c1
        have y2 := HB3.out.c2
        have y3 := HB3.out.c3
        have y4 := HB3.out.c4
        have y5 := HB3.out.c5
        clear hd hn1
        cases r1
        · go_wp2_with fail
          go_ret
          exact ⟨false, rfl, by simp, HQ3.out.bel⟩
        obtain ⟨r2, hr2, hp2⟩ := reserved_tot t.f2
        have HP2 := Aside0.mk hp2
        clear hp2
        go_wp2_with fail
        with_reducible refine (spec_reserved.calls t.f2 r2 w3 hr2).mono ?_
        rintro e w4 ⟨rfl, hd⟩
        have HB4 := Aside0.mk (HB3.out.move hd.below)
        have HQ4 := Aside0.mk (HQ3.out.move hd.below)
        clear y0 y1 y2 y3 y4 y5 HB3 HQ3
        have y0 := HB4.out.c0
        have y1 := HB4.out.c1
        have y2 := HB4.out.c2
        have y3 := HB4.out.c3
        have y4 := HB4.out.c4
        have y5 := HB4.out.c5
        clear hd hr2
        cases r2
        case true =>
          go_wp2_with fail
          go_ret
          exact ⟨false, rfl, by simp, HQ4.out.bel⟩
        obtain ⟨r3, hr3⟩ := verbatim_tot t.f4 (by have := HS.out.s4; omega)
        obtain ⟨n3, hn3⟩ := hr3.rounds
        clear hr3
        go_wp2_with fail
        with_reducible refine (spec_verbatim.calls n3 t.f4 r3 w4 hn3).mono ?_
        rintro e w5 ⟨rfl, hd⟩
        have HB5 := Aside0.mk (HB4.out.move hd.below)
        have HQ5 := Aside0.mk (HQ4.out.move hd.below)
        clear y0 y1 y2 y3 y4 y5 HB4 HQ4
        have y0 := HB5.out.c0
        have y1 := HB5.out.c1
        have y2 := HB5.out.c2
        have y3 := HB5.out.c3
        have y4 := HB5.out.c4
        have y5 := HB5.out.c5
        clear hd hn3
        cases r3
        · go_wp2_with fail
          go_ret
          exact ⟨false, rfl, by simp, HQ5.out.bel⟩
        obtain ⟨r4, hr4, hp4⟩ := holds_tot t.f4 ⟨#[63, 62]⟩ (by have := HS.out.s4; omega) (by decide)
        obtain ⟨n4, hn4⟩ := hr4.rounds
        have HP4 := Aside0.mk hp4
        clear hr4 hp4
        go_wp2_with fail
        with_reducible refine (spec_holds.calls n4 t.f4 (⟨#[63, 62]⟩ : ByteArray) r4 w5 hn4).mono ?_
        rintro e w6 ⟨rfl, hd⟩
        have HB6 := Aside0.mk (HB5.out.move hd.below)
        have HQ6 := Aside0.mk (HQ5.out.move hd.below)
        clear y0 y1 y2 y3 y4 y5 HB5 HQ5
        have y0 := HB6.out.c0
        have y1 := HB6.out.c1
        have y2 := HB6.out.c2
        have y3 := HB6.out.c3
        have y4 := HB6.out.c4
        have y5 := HB6.out.c5
        clear hd hn4
        cases r4
        case true =>
          go_wp2_with fail
          go_ret
          exact ⟨false, rfl, by simp, HQ6.out.bel⟩
        by_cases hem : 0 < t.f4.size
        · have hne : (t.f4.toList == ([] : List UInt8)) = false := beq_eq_false_iff_ne.2 (ne_toList hem)
          have hnb : t.f4.toList.isEmpty = false := List.isEmpty_eq_false_iff.2 (ne_toList hem)
          have hnb2 : (t.f4.toList != ([] : List UInt8)) = true := bne_iff_ne.2 (ne_toList hem)
          obtain ⟨r5, hr5⟩ := isSpace_tot (((t.f4[0]'hem).toNat : Nat) : Int)
          go_wp2_with fail
          with_reducible refine (spec_isSpace.calls (((t.f4[0]'hem).toNat : Nat) : Int) r5 w6 hr5).mono ?_
          rintro e w7 ⟨rfl, hd⟩
          have HQ7 := Aside0.mk (HQ6.out.move hd.below)
          clear hd hr5 HQ6 HB6 y0 y1 y2 y3 y4 y5
          cases r5
          · go_wp2_with fail
            go_roundw
            case rel =>
              go_light
              exact ⟨i + 1, st, by go_num, by omega, ⟨by rw [HT.out]; exact .proc HQ7.out.run k5 (HP1.out (by simp)) (HP2.out (by simp)) (HP4.out (by simp)), HQ7.out.row, HQ7.out.bel, by have := HQ7.out.len; omega⟩⟩
            case measure =>
              go_light
              simp [RowKit.intOf]
              omega
          · go_wp2_with fail
            go_ret
            exact ⟨false, rfl, by simp, HQ7.out.bel⟩
        · have he : t.f4 = ⟨#[]⟩ := by
            apply empty_eq
            rw [Lib.toList_data]
            have hl0 : t.f4.data.toList.length = t.f4.size := by simp
            exact List.eq_nil_of_length_eq_zero (by omega)
          rw [he] at y4
          go_wp2_with fail
          go_roundw
          case rel =>
            go_light
            exact ⟨i + 1, st, by go_num, by omega, ⟨by rw [HT.out]; exact .proc HQ6.out.run k5 (HP1.out (by simp)) (HP2.out (by simp)) (HP4.out (by simp)), HQ6.out.row, HQ6.out.bel, by have := HQ6.out.len; omega⟩⟩
          case measure =>
            go_light
            simp [RowKit.intOf]
            omega
      go_wp2_with fail
      go_ret
      exact ⟨false, rfl, by simp, HQ2.out.bel⟩
    · obtain rfl : i = l.length := by omega
      obtain ⟨A0, c0, rfl⟩ := HP.out.row.slice
      go_wp2_with fail
      go_ret
      refine ⟨_, rfl, fun h => ?_, HP.out.bel⟩
      have hr := HP.out.run
      rw [List.take_length] at hr
      simp at h
      have : st = [] := by simpa using h
      rwa [this] at hr

end Go.Proofs.YtjoahpmalhmjkaaGreatDoor.EncPlain

namespace Go.Proofs.YtjoahpmalhmjkaaGreatDoor.EncPlain
open Go.RowKit Go.Proofs.YtjoahpmalhmjkaaGreatDoorW.PrintWords Go.Proofs.YtjoahpmalhmjkaaGreatDoorW.PrintLast Go.Proofs.YtjoahpmalhmjkaaGreatDoorW.PrintMore Go.Lib
open Go.Proofs.YtjoahpmalhmjkaaGreatDoor.PFnEncodeNested Go.Proofs.YtjoahpmalhmjkaaGreatDoor.EncSt Go.Proofs.YtjoahpmalhmjkaaGreatDoor.EncTot Go.Proofs.YtjoahpmalhmjkaaGreatDoor.IsKind
set_option linter.unusedVariables false
set_option linter.unusedSimpArgs false

theorem given_inner (acc : List S49) (l : List S28) (i : Nat) (t : S28) (r : List S49) (hl : l.length ≤ 1099511627776) (hi : i ≤ l.length) (ha : acc.length ≤ 1099511627776) (ht : t.f3.length ≤ 1099511627776)
    (h2 : Ev (fun k => laws_given.l0 k (acc ++ [gv t]) l (l.length : Int) ((i + 1 : Nat) : Int)) r) :
    ∀ d m : Nat, t.f3.length - m ≤ d → m ≤ t.f3.length → Ev (fun k => laws_given.l1 k acc ((t.f3.take m).map gva) l (l.length : Int) (i : Int) t.f3 (t.f3.length : Int) (m : Int) t.f0 t.f1 t.f2 t.f3 t.f4 t.f5) r := by
  have hend : Ev (fun k => laws_given.l1 k acc ((t.f3.take t.f3.length).map gva) l (l.length : Int) (i : Int) t.f3 (t.f3.length : Int) (t.f3.length : Int) t.f0 t.f1 t.f2 t.f3 t.f4 t.f5) r := by
    refine Ev.step (f := fun k => laws_given.l0 k (acc ++ [gv t]) l (l.length : Int) ((i + 1 : Nat) : Int)) (fun k => ?_) h2
    simp only [laws_given.l1]
    rw [if_neg (by omega), if_pos (by omega), wr1 i (by omega), List.take_length]
    rfl
  intro d
  induction d with
  | zero =>
    intro m h1 h3
    obtain rfl : m = t.f3.length := by omega
    exact hend
  | succ d ih =>
    intro m h1 h3
    by_cases hlt : m < t.f3.length
    · refine Ev.step (f := fun k => laws_given.l1 k acc ((t.f3.take (m + 1)).map gva) l (l.length : Int) (i : Int) t.f3 (t.f3.length : Int) ((m + 1 : Nat) : Int) t.f0 t.f1 t.f2 t.f3 t.f4 t.f5) (fun k => ?_) (ih (m + 1) (by omega) (by omega))
      have hrd : rd_T59 t.f3 (m : Int) = t.f3[m] := by
        unfold rd_T59
        rw [List.getD_eq_getElem?_getD]
        simp [hlt]
      simp only [laws_given.l1]
      rw [if_pos (by omega), if_pos (by omega), if_pos (by omega), if_pos (by rw [List.length_map, List.length_take]; omega), wr1 m (by omega), hrd, List.take_succ_eq_append_getElem hlt, List.map_append]
      rfl
    · obtain rfl : m = t.f3.length := by omega
      exact hend

theorem given_from (l : List S28) (hl : l.length ≤ 1099511627776) (hs : ∀ x ∈ l, x.f3.length ≤ 1099511627776) : ∀ d i : Nat, l.length - i ≤ d → i ≤ l.length → Ev (fun k => laws_given.l0 k ((l.take i).map gv) l (l.length : Int) (i : Int)) (l.map gv) := by
  have hend : Ev (fun k => laws_given.l0 k ((l.take l.length).map gv) l (l.length : Int) (l.length : Int)) (l.map gv) := by
    refine Ev.step (f := fun _ => some (l.map gv)) (fun k => ?_) (Ev.now _)
    simp only [laws_given.l0]
    rw [if_neg (by omega), List.take_length]
  intro d
  induction d with
  | zero =>
    intro i h1 h3
    obtain rfl : i = l.length := by omega
    exact hend
  | succ d ih =>
    intro i h1 h3
    by_cases hlt : i < l.length
    · have hrd : rd_T28 l (i : Int) = l[i] := by
        unfold rd_T28
        rw [List.getD_eq_getElem?_getD]
        simp [hlt]
      have h2 := ih (i + 1) (by omega) (by omega)
      rw [List.take_succ_eq_append_getElem hlt, List.map_append] at h2
      have h4 := given_inner ((l.take i).map gv) l i l[i] (l.map gv) hl (by omega) (by rw [List.length_map, List.length_take]; omega) (hs _ (List.getElem_mem hlt)) h2 (l[i].f3.length) 0 (by omega) (by omega)
      refine Ev.step (f := fun k => laws_given.l1 k ((l.take i).map gv) ((l[i].f3.take 0).map gva) l (l.length : Int) (i : Int) l[i].f3 (l[i].f3.length : Int) ((0 : Nat) : Int) l[i].f0 l[i].f1 l[i].f2 l[i].f3 l[i].f4 l[i].f5) (fun k => ?_) h4
      simp only [laws_given.l0]
      rw [if_pos (by omega), if_pos (by omega), if_pos (by omega), hrd]
      rfl
    · obtain rfl : i = l.length := by omega
      exact hend
theorem given_tot (l : List S28) (hl : l.length ≤ 1099511627776) (hs : ∀ x ∈ l, x.f3.length ≤ 1099511627776) : Ev (fun k => laws_given.f k l) (l.map gv) := given_from l hl hs l.length 0 (by omega) (by omega)

/-- given, by what it hands back. -/
theorem given_list (W : World) (A : Option Addr) (c : Nat) (l : List S28) (hc : l.length ≤ c) (hr : Kd.C k28 W A l.length l) (hl : l.length ≤ 1099511627776) (hs : ∀ x ∈ l, x.f3.length ≤ 1099511627776) :
    Calls Tryz.prog 8 #[.slice A l.length c] W fun e W' => ∃ A' c', e = .returned (.slice A' (l.map gv).length c') ∧ (l.map gv).length ≤ c' ∧ Kd.C k49 W' A' (l.map gv).length (l.map gv) ∧ Below W.heap.size W W' := by
  obtain ⟨k, hk⟩ := (given_tot l hl hs).rounds
  refine (laws_given.calls k A c l (l.map gv) W hr hc hk).mono ?_
  rintro e W' ⟨v, rfl, hS, hB⟩
  have hR := Kd.S_R hS
  obtain ⟨A', c', rfl, h1⟩ := OwnRow.slice_ hR.2
  obtain ⟨g1, g2, g3⟩ := Kd.R_reads' hR
  exact ⟨A', c', rfl, g2, g3, hB⟩

section
variable {P : Program} {ops : Array Oper} {rest : List Oper} {o : Oper} {a : Act} {Q : Exit → Act → World → Prop} {α : Type} {R : α → List Value → Prop}
/-- append(v, ys...), the elements' cells told by one word in all worlds. -/
theorem own_append_rows {w0 W : World} (base : Nat) (hgd : o.guard = none) (s x : Operand) (t e : TypeId) (z : Value) (size bytes : Nat)
    (ho : o.op = .call { callee := .builtin .append, args := #[s, x], argTypes := #[t, t] })
    (ht : P.underlying t = some (.slice e)) (hinfo : (P.info? e).map (fun i => (i.zero, i.size, i.bytes)) = some (some z, size, bytes)) (hz : z.cells.size = size) (hs0 : 0 < size) (hb0 : 0 < bytes)
    (v : Value) (xs ys : List α) (A : Option Addr) (m c : Nat) (hs : a.eval s = v) (hx : a.eval x = .slice A m c)
    (HO : OwnRow R e size W base v xs) (HR : ReadsRow R size W A m ys) (hR1 : ∀ p cs, R p cs → ∀ u ∈ cs, u.oneCell' = true)
    (HB : Below base w0 W) (hbase : base ≤ W.heap.size) (hl : (xs.length + m) * bytes ≤ 140737488355328)
    (h : ∀ v1 w1, OwnRow R e size w1 base v1 (xs ++ ys) → Below base w0 w1 → W.grownBy w1 v.ownBlock → (v1.ownBlock = v.ownBlock ∨ ∃ b, v1.ownBlock = some b ∧ W.heap.size ≤ b) → wpList P ops Q rest (a.put o.dst v1) w1) :
    wpList P ops Q (o :: rest) a W := by
  obtain ⟨i0, hi, hzz⟩ := Option.map_eq_some_iff.1 hinfo
  simp only [Prod.mk.injEq] at hzz
  obtain ⟨hz0, hz1, hz2⟩ := hzz
  have hm : ys.length = m := HR.1
  have hlen : xs.length + m ≤ 140737488355328 := Nat.le_trans (Nat.le_mul_of_pos_right _ hb0) hl
  obtain ⟨inner, hown, hr⟩ := HO
  have hrun : ∃ v1 w1, (Builtin.append_ #[t, t] o.type #[v, .slice A m c]).run P W = .ok v1 w1 ∧ OwnRow R e size w1 base v1 (xs ++ ys) ∧ W.grownBy w1 v.ownBlock ∧ (v1.ownBlock = v.ownBlock ∨ ∃ b, v1.ownBlock = some b ∧ W.heap.size ≤ b) := by
    rcases A with _ | ad
    · have h0 : m = 0 := by
        rcases Nat.eq_zero_or_pos m with h0 | h0
        · exact h0
        · obtain ⟨ad, h, _⟩ := HR.2.2 h0
          cases h
      subst h0
      obtain rfl : ys = [] := List.eq_nil_of_length_eq_zero hm
      refine ⟨v, W, ?_, by rw [List.append_nil]; exact ⟨inner, hown, hr⟩, World.grownBy.refl W _, .inl rfl⟩
      rcases hown.2 with ⟨rfl, hn⟩ | ⟨g, cap, cur, rfl, _, _, hnc, _⟩
      · simp [Builtin.append_, run_underlying ht, sizeOf, typeInfo, hi, Builtin.lenOf, Builtin.firstCells]
      · simp [Builtin.append_, run_underlying ht, sizeOf, typeInfo, hi, Builtin.lenOf, Builtin.firstCells, hnc, storeCells]
    · obtain ⟨news, hnr, hnc⟩ := ReadsRow.inner_ HR
      have hone : ∀ u ∈ news, u.oneCell' = true := by
        intro u hu
        obtain ⟨q, hq, rfl⟩ := List.mem_iff_getElem.1 hu
        have hql : q / size < ys.length := by
          rw [Nat.div_lt_iff_lt_mul hs0]
          rw [← hnr.1]
          exact hq
        have hc := hnr.2 (q / size) _ (List.getElem?_eq_getElem hql)
        refine hR1 _ _ hc _ ?_
        rw [List.mem_iff_getElem?]
        refine ⟨q % size, ?_⟩
        rw [List.getElem?_take, if_pos (Nat.mod_lt _ hs0), List.getElem?_drop, Nat.mul_comm, Nat.div_add_mod, List.getElem?_eq_getElem hq]
      obtain ⟨v1, w1, hrun, h2, hg, _, hat⟩ := run_append_own_at (P := P) W base t o.type e i0 z size bytes ht hi hz0 hz1 hz2 hz hs0 v xs.length inner hown ad m c news (by rw [hnr.1, hm]) hnc hone (by simp only [maxLen]; omega) hl hbase
      have hat' : v1.ownBlock = v.ownBlock ∨ ∃ b, v1.ownBlock = some b ∧ W.heap.size ≤ b := by
        rcases hat with hat | hat
        · exact .inl hat
        · exact .inr ⟨_, hat, Nat.le_refl _⟩
      exact ⟨v1, w1, hrun, ⟨inner ++ news, by rw [List.length_append, hm]; exact h2, Kd.reps_append hr hnr⟩, hg, hat'⟩
  obtain ⟨v1, w1, hr1, h1, hg, hat⟩ := hrun
  refine wpList_plain hgd fun K hK => ?_
  unfold Oper.wp execOp
  simp only [ho, resolve, invoke, builtin, Sem.run_bind, Sem.run_pure, Result.andThen_ok, List.map_toArray, List.map_cons, List.map_nil, hs, hx, hr1]
  exact hK _ _ (h v1 w1 h1 (HB.grown hg hbase (own_base hown)) hg hat)
end

end Go.Proofs.YtjoahpmalhmjkaaGreatDoor.EncPlain

namespace Go.Proofs.YtjoahpmalhmjkaaGreatDoor.EncPlain
open Go.RowKit Go.Proofs.YtjoahpmalhmjkaaGreatDoorW.PrintWords Go.Proofs.YtjoahpmalhmjkaaGreatDoorW.PrintLast Go.Proofs.YtjoahpmalhmjkaaGreatDoorW.PrintMore Go.Lib
open Go.Proofs.YtjoahpmalhmjkaaGreatDoor.PFnEncodeNested Go.Proofs.YtjoahpmalhmjkaaGreatDoor.EncSt Go.Proofs.YtjoahpmalhmjkaaGreatDoor.EncTot Go.Proofs.YtjoahpmalhmjkaaGreatDoor.IsKind
set_option linter.unusedVariables false
set_option linter.unusedSimpArgs false

/-- A row of tokens of one's own, its attributes told in the world W0. -/
def TRow (W0 : World) (B : Nat) (W : World) (v : Value) (l : List S28) : Prop := OwnRow (k28.K W0) 28 6 W B v l
theorem TRow.move {W0 W W' : World} {B : Nat} {v : Value} {l : List S28} (h : TRow W0 B W v l) (hb : Below W.heap.size W W') : TRow W0 B W' v l := OwnRow.below h hb
theorem TRow.sees {W0 W : World} {B : Nat} {v : Value} {l : List S28} (h : TRow W0 B W v l) (hb : Below W0.heap.size W0 W) : ∃ A c, v = .slice A l.length c ∧ l.length ≤ c ∧ ReadsRow (k28.K W0) 6 W A l.length l ∧ Kd.C k28 W A l.length l := by
  obtain ⟨A, c, h1, h2, h3⟩ := OwnRow.reads h
  exact ⟨A, c, h1, h2, h3, h3.imp_ (Below.refl _ _) (fun p c hp => k28.K_below hb hp)⟩
theorem one28 (W0 : World) (p : S28) (cs : List Value) (h : k28.K W0 p cs) : ∀ u ∈ cs, u.oneCell' = true := k28.K_one h
theorem start_K (W0 : World) (k : Int) (nm : ByteArray) : k28.K W0 ⟨k, ⟨#[]⟩, nm, [], ⟨#[]⟩, 0⟩ [.int .i64 k, .string ⟨#[]⟩, .string nm, .slice none 0 0, .string ⟨#[]⟩, .int .i64 0] :=
  k28_mk W0 ⟨k, ⟨#[]⟩, nm, [], ⟨#[]⟩, 0⟩ (A3 := none) (c3 := 0) (Nat.le_refl _) ⟨rfl, by simp, fun h => by simp at h⟩

/-- A token of an element, by its kind and name. -/
def elem (k : Int) (nm : ByteArray) : S28 := ⟨k, ⟨#[]⟩, nm, [], ⟨#[]⟩, 0⟩
theorem lit1 (W0 W : World) (B : Nat) (i : Int) (nm : ByteArray) (hb : B ≤ W.heap.size) : TRow W0 B (W.alloc (.cells #[.int .i64 i, .string ⟨#[]⟩, .string nm, .slice none 0 0, .string ⟨#[]⟩, .int .i64 0] 28)) (.slice (some ⟨W.heap.size, 0, none⟩) 1 1) [elem i nm] :=
  OwnRow.lit (ps := [elem i nm]) W B (inner := [.int .i64 i, .string ⟨#[]⟩, .string nm, .slice none 0 0, .string ⟨#[]⟩, .int .i64 0]) ⟨rfl, fun j p hj => by
    rcases j with _ | j
    · simp only [List.getElem?_cons_zero, Option.some.injEq] at hj
      subst hj
      exact start_K W0 i nm
    · simp at hj⟩ hb (by simp)
theorem lit0 (W0 W : World) (B : Nat) (hb : B ≤ W.heap.size) : TRow W0 B (W.alloc (.cells #[] 28)) (.slice (some ⟨W.heap.size, 0, none⟩) 0 0) [] :=
  OwnRow.lit (ps := []) W B (inner := []) (Reps.none _ _) hb (by simp)
theorem given_gv (W : World) (A : Option Addr) (c : Nat) (l : List S28) (hc : l.length ≤ c) (hr : Kd.C k28 W A l.length l) (hl : l.length ≤ 1099511627776) (hs : ∀ x ∈ l, x.f3.length ≤ 1099511627776) :
    Calls Tryz.prog 8 #[.slice A l.length c] W fun e W' => ∃ A' c', e = .returned (.slice A' l.length c') ∧ l.length ≤ c' ∧ Kd.C k49 W' A' l.length (l.map gv) ∧ Below W.heap.size W W' := by
  have h := given_list W A c l hc hr hl hs
  simp only [List.length_map] at h
  exact h
theorem encode_gv (W : World) (A : Option Addr) (c : Nat) (l : List S28) (r : Option (List ByteArray)) (close : Bool) (hV : Vars W) (hc : l.length ≤ c) (hr : Kd.C k49 W A l.length (l.map gv)) (hE : Enc [] (l.map gv) r) (hl : l.length ≤ 2147483648) (ht : total (l.map gv) ≤ 8589934592) :
    Calls Tryz.prog 7 #[.slice A l.length c, .string ⟨#[]⟩, .string ⟨#[]⟩, .bool close] W fun e W' => ∃ s : ByteArray, e = .returned (.tuple #[.string s, .int .i64 (codeOf r close)]) ∧ Below W.heap.size W W' := by
  have h := fun h1 h2 h3 => encode_any W A c (l.map gv) r close hV h1 h2 hE h3 ht
  simp only [List.length_map] at h
  exact h hc hr hl
theorem TRow.rr {W0 W : World} {B n c : Nat} {A : Option Addr} {l : List S28} (h : TRow W0 B W (.slice A n c) l) : ReadsRow (k28.K W0) 6 W A n l := by
  obtain ⟨A1, c1, h1, h2, h3⟩ := OwnRow.reads h
  injection h1 with e1 e2 e3
  subst e1 e2
  exact h3
theorem lit2 (W0 W : World) (B : Nat) (i j : Int) (nm nm2 : ByteArray) (hb : B ≤ W.heap.size) : TRow W0 B (W.alloc (.cells #[.int .i64 i, .string ⟨#[]⟩, .string nm, .slice none 0 0, .string ⟨#[]⟩, .int .i64 0, .int .i64 j, .string ⟨#[]⟩, .string nm2, .slice none 0 0, .string ⟨#[]⟩, .int .i64 0] 28)) (.slice (some ⟨W.heap.size, 0, none⟩) 2 2) [elem i nm, elem j nm2] :=
  OwnRow.lit (ps := [elem i nm, elem j nm2]) W B (inner := [.int .i64 i, .string ⟨#[]⟩, .string nm, .slice none 0 0, .string ⟨#[]⟩, .int .i64 0, .int .i64 j, .string ⟨#[]⟩, .string nm2, .slice none 0 0, .string ⟨#[]⟩, .int .i64 0]) ⟨rfl, fun q p hj => by
    rcases q with _ | _ | q
    · simp only [List.getElem?_cons_zero, Option.some.injEq] at hj
      subst hj
      exact start_K W0 i nm
    · simp only [List.getElem?_cons_succ, List.getElem?_cons_zero, Option.some.injEq] at hj
      subst hj
      exact start_K W0 j nm2
    · simp at hj⟩ hb (by simp)

/-- The tokens' bounds. -/
structure Fine (L : List S28) : Prop where
  len : L.length ≤ 2147483600
  att : ∀ x ∈ L, x.f3.length ≤ 1099511627776
theorem elem_fine {L : List S28} (h : Fine L) (hl : L.length ≤ 2147483590) (i : Int) (nm : ByteArray) : Fine (L ++ [elem i nm]) :=
  ⟨by simp; omega, fun x hx => by
    rcases List.mem_append.1 hx with hx | hx
    · exact h.att x hx
    · rw [List.mem_singleton.1 hx]; simp [elem]⟩
theorem total_append (l m : List S49) : total (l ++ m) = total l + total m := by
  unfold total
  rw [List.map_append, List.sum_append]
theorem total_elem (i : Int) (nm : ByteArray) : total ([elem i nm].map gv) = 7 + nm.size := by
  simp [total, tcost, gv, elem, cost, pairsOf]
  rfl

theorem total_two (i j : Int) (nm : ByteArray) : total ([elem i nm, elem j nm].map gv) = 14 + 2 * nm.size := by
  have h := total_append ([elem i nm].map gv) ([elem j nm].map gv)
  rw [total_elem, total_elem] at h
  have e : [elem i nm, elem j nm].map gv = [elem i nm].map gv ++ [elem j nm].map gv := rfl
  rw [e, h]
  omega
theorem enc_open {l : List S28} (h : PRun l []) (nm : ByteArray) (hz : 0 < nm.size) (rest : List S49) (r : Option (List ByteArray)) (hE : Enc [nm] rest r) : Enc [] (([elem 1 nm] ++ l).map gv ++ rest) r := by
  have h1 := h.enc [nm] rest r hE
  rw [List.map_append, List.append_assoc]
  exact Enc.start (st := []) (t := gv (elem 1 nm)) rfl rfl hz (fun a ha => by simp [gv, elem] at ha) h1
theorem enc_close (nm : ByteArray) (hz : 0 < nm.size) (rest : List S49) (r : Option (List ByteArray)) (hE : Enc [] rest r) : Enc [nm] (gv (elem 2 nm) :: rest) r :=
  Enc.close (st := []) (t := gv (elem 2 nm)) rfl rfl hz hE
theorem enc_wrong (nm nm2 : ByteArray) (hz : 0 < nm.size) (hz2 : 0 < nm2.size) (hne : nm.toList ≠ nm2.toList) : Enc [nm] ([elem 2 nm2].map gv) none :=
  Enc.wrong (ts := []) (t0 := nm) (t := gv (elem 2 nm2)) rfl rfl hz2 hz hne

set_option maxHeartbeats 16000000 in
set_option maxRecDepth 100000 in
theorem law_any (W : World) (A : Option Addr) (c : Nat) (l : List S28) (nm : ByteArray) (hV : Vars W) (hc : l.length ≤ c) (hr : Kd.C k28 W A l.length l) (hs : ∀ t ∈ l, Small t) (hl : l.length ≤ 4294967296) (hn : nm.size ≤ 1073741824) (ht : total (l.map gv) + 10 * nm.size + 1000 ≤ 8589934592) :
    Calls Tryz.prog 3 #[.slice A l.length c, .string nm] W fun e W' => e = .returned (.bool true) ∧ Below W.heap.size W W' := by
  have HR := Aside0.mk hr
  have HV := Aside0.mk hV
  have HS := Aside0.mk hs
  have HT := Aside0.mk ht
  clear hr hV hs ht
  obtain ⟨r4, hr4⟩ := fits4_tot l (by omega) (fun x hx => by have := (HS.out x hx).s3; omega)
  obtain ⟨n4, hn4⟩ := hr4.rounds
  clear hr4
  have hq2 : decide ((2147483647 : Int) < (nm.size : Int)) = false := decide_eq_false (by omega)
  go_enter Tryz.func3, Tryz.ntmps3
  go_wp2_with fail
  with_reducible refine (laws_zzFits4.calls n4 A c l r4 W HR.out hc hn4).mono ?_
  rintro e w1 ⟨rfl, hb⟩
  have HB1 := Aside0.mk hb
  clear hb hn4
  cases r4
  · go_wp2_with fail
    go_ret
    exact ⟨rfl, HB1.out⟩
  by_cases hlen : l.length ≤ 65536
  case neg =>
    go_wp2_with fail
    go_ret
    exact ⟨rfl, HB1.out⟩
  have hq1 : decide ((65536 : Int) < (l.length : Int)) = false := decide_eq_false (by omega)
  go_wp2_with fail
  with_reducible refine (plain_any w1 A c l hc (Kd.C_below HR.out HB1.out) (by omega) HS.out).mono ?_
  rintro e w2 ⟨r5, rfl, hp5, hb⟩
  have HB2 := Aside0.mk (below_step HB1.out hb)
  have HP5 := Aside0.mk hp5
  clear hb hp5 HB1
  cases r5
  · go_wp2_with fail
    go_ret
    exact ⟨rfl, HB2.out⟩
  obtain ⟨r6, hr6, hp6⟩ := isName_tot nm (by omega)
  obtain ⟨n6, hn6⟩ := hr6.rounds
  have HP6 := Aside0.mk hp6
  clear hr6 hp6
  go_wp2_with fail
  with_reducible refine (spec_IsName.calls n6 nm r6 w2 hn6).mono ?_
  rintro e w3 ⟨rfl, hd⟩
  have HB3 := Aside0.mk (below_step HB2.out hd.below)
  clear hd hn6 HB2
  cases r6
  · go_wp2_with fail
    go_ret
    exact ⟨rfl, HB3.out⟩
  have hz := (name_facts nm (HP6.out (by simp))).1
  by_cases hx : (nm.toList == ([120, 109, 108, 110, 115] : List UInt8)) = true
  · go_wp2_with fail
    go_ret
    exact ⟨rfl, HB3.out⟩
  have hx2 := eq_false_of_ne_true hx
  clear hx
  obtain ⟨L, hLD⟩ : ∃ L, L = [elem 1 nm] ++ l := ⟨_, rfl⟩
  have HF := Aside0.mk (show Fine L from hLD ▸ ⟨by simp; omega, fun x hx => by
    rcases List.mem_append.1 hx with hx | hx
    · rw [List.mem_singleton.1 hx]; simp [elem]
    · have := (HS.out x hx).s3; omega⟩)
  have HTL := Aside0.mk (show total (L.map gv) + 9 * nm.size + 990 ≤ 8589934592 by
    have h1 := HT.out
    rw [hLD, List.map_append, total_append, total_elem]
    omega)
  have HLL := Aside0.mk (show L.length ≤ 65537 by rw [hLD]; simp; omega)
  have HEN := Aside0.mk (show ∀ rest r, Enc [nm] rest r → Enc [] (L.map gv ++ rest) r from hLD ▸ fun rest r hE => enc_open (HP5.out (by simp)) nm hz rest r hE)
  have HLD := Aside0.mk hLD
  clear hLD
  go_wp2_with (at_builtin; refine own_append_rows (R := k28.K W) (w0 := W) W.heap.size rfl _ _ 22 28 (.agg #[.int .i64 0, .string ⟨#[]⟩, .string ⟨#[]⟩, .slice none 0 0, .string ⟨#[]⟩, .int .i64 0]) 6 88 rfl Tryz.underlying22 info28 rfl (by decide) (by decide) (.slice (some ⟨w3.heap.size, 0, none⟩) 1 1) [elem 1 nm] l A l.length c (by first | rfl | simp [Act.eval, Act.put]) (by first | rfl | simp [Act.eval, Act.put]) (lit1 W w3 W.heap.size 1 nm HB3.out.size) (ReadsRow.imp_ HR.out (below_alloc HB3.out _) (fun _ _ h => h)) (one28 W) (below_alloc HB3.out _) ((below_alloc HB3.out _)).size (by simp; omega) ?_; intro v1 w4 ho hb hg hat; rw [← HLD.out] at ho; obtain ⟨A4, c4, rfl, hc4, hrd4, hC4⟩ := TRow.sees ho hb; have HO4 := Aside0.mk ho; have HB4 := Aside0.mk hb; have HC4 := Aside0.mk hC4; have HRD4 := Aside0.mk hrd4; clear ho hb hg hat hrd4 hC4)
  clear HT HR HP5 HP6 hc HLD
  have hone : (⟨#[120]⟩ : ByteArray).size = 1 := rfl
  have hz2 : 0 < (nm ++ (⟨#[120]⟩ : ByteArray)).size := by rw [ByteArray.size_append]; omega
  have hnx : nm.toList ≠ (nm ++ (⟨#[120]⟩ : ByteArray)).toList := by
    intro e
    have h1 := congrArg List.length e
    rw [Lib.toList_data, Lib.toList_data] at h1
    simp at h1
  have hcat : nm.size + 1 ≤ 9223372036854775807 := by omega
  with_reducible refine (given_gv w4 A4 c4 L hc4 HC4.out (by have := HLL.out; omega) HF.out.att).mono ?_
  rintro e w5 ⟨A5, c5, rfl, hc5, hC5, hb⟩
  have HB5 := Aside0.mk (below_step HB4.out hb)
  have HO5 : Aside0 (TRow W W.heap.size w5 (.slice A4 L.length c4) L) := ⟨TRow.move HO4.out hb⟩
  have HC5 := Aside0.mk hC5
  clear hb hC5 HB4 HO4 HC4 HRD4
  go_wp2_with fail
  with_reducible refine (encode_gv w5 A5 c5 L (some [nm]) true (HV.out.below HB5.out) hc5 HC5.out (by have := HEN.out [] (some [nm]) (.nil _); rwa [List.append_nil] at this) (by have := HLL.out; omega) (by have := HTL.out; omega)).mono ?_
  rintro e w6 ⟨s6, rfl, hb⟩
  have HB6 := Aside0.mk (below_step HB5.out hb)
  have HO6 : Aside0 (TRow W W.heap.size w6 (.slice A4 L.length c4) L) := ⟨TRow.move HO5.out hb⟩
  clear hb HC5 HB5 HO5
  obtain ⟨A6, c6, hv6, hc6, hrd6, _⟩ := TRow.sees HO6.out HB6.out
  injection hv6 with hv6a hv6b hv6c
  subst hv6a hv6c
  have HRD6 := Aside0.mk hrd6
  clear hrd6

  obtain ⟨M6, hMD6⟩ : ∃ M, M = L ++ [elem 2 (nm ++ ⟨#[120]⟩)] := ⟨_, rfl⟩
  have HMF6 := Aside0.mk (show Fine M6 from hMD6 ▸ ⟨by have := HLL.out; simp; omega, fun x hx => by
    rcases List.mem_append.1 hx with hx | hx
    · exact HF.out.att x hx
    · simp at hx
      rcases hx with rfl | rfl <;> simp [elem]⟩)
  have HMT6 := Aside0.mk (show total (M6.map gv) ≤ 8589934592 ∧ M6.length ≤ 65600 from hMD6 ▸ ⟨by
    have h1 := HTL.out
    rw [List.map_append, total_append]
    rw [total_elem, ByteArray.size_append]; omega, by have := HLL.out; simp; omega⟩)
  have HME6 := Aside0.mk (show Enc [] (M6.map gv) none from hMD6 ▸ by
    rw [List.map_append]
    exact HEN.out _ _ (enc_wrong _ _ hz hz2 hnx))
  have HMD6 := Aside0.mk hMD6
  clear hMD6
  go_wp2_with (at_builtin; first | (refine own_append_rows (R := k28.K W) (w0 := w6) w6.heap.size rfl _ _ 22 28 (.agg #[.int .i64 0, .string ⟨#[]⟩, .string ⟨#[]⟩, .slice none 0 0, .string ⟨#[]⟩, .int .i64 0]) 6 88 rfl Tryz.underlying22 info28 rfl (by decide) (by decide) (.slice (some ⟨w6.heap.size, 0, none⟩) 0 0) [] L A4 L.length c4 (by first | rfl | simp [Act.eval, Act.put]) (by first | rfl | simp [Act.eval, Act.put]) (lit0 W w6 w6.heap.size (Nat.le_refl _)) (ReadsRow.imp_ HRD6.out (below_alloc (Below.refl _ _) _) (fun _ _ h => h)) (one28 W) (below_alloc (Below.refl w6.heap.size w6) (.cells #[] 28)) ((below_alloc (Below.refl w6.heap.size w6) (.cells #[] 28))).size (by have := HLL.out; simp; omega) ?_; intro v7 w7 ho hb hg hat; rw [List.nil_append] at ho; have HO7 : Aside0 (TRow W w6.heap.size w7 v7 L) := ⟨ho⟩; have HB7 := Aside0.mk hb; clear ho hb hg hat) | (refine own_append_rows (R := k28.K W) (w0 := w6) w6.heap.size rfl _ _ 22 28 (.agg #[.int .i64 0, .string ⟨#[]⟩, .string ⟨#[]⟩, .slice none 0 0, .string ⟨#[]⟩, .int .i64 0]) 6 88 rfl Tryz.underlying22 info28 rfl (by decide) (by decide) v7 L [elem 2 (nm ++ ⟨#[120]⟩)] (some ⟨w7.heap.size, 0, none⟩) 1 1 (by first | rfl | simp [Act.eval, Act.put]) (by first | rfl | simp [Act.eval, Act.put]) (TRow.move HO7.out (below_alloc (Below.refl _ _) _)) (TRow.rr (lit1 W w7 w7.heap.size 2 (nm ++ ⟨#[120]⟩) (Nat.le_refl _))) (one28 W) (below_alloc HB7.out _) ((below_alloc HB7.out _)).size (by have := HLL.out; omega) ?_; intro v8 w8 ho hb hg hat; rw [← HMD6.out] at ho; obtain ⟨A8, c8, rfl, hc8, hrd8, hC8⟩ := TRow.sees ho (below_step HB6.out hb); have HB8 := Aside0.mk hb; have HC8 := Aside0.mk hC8; clear ho hb hg hat hrd8 hC8))
  with_reducible refine (given_gv w8 A8 c8 M6 hc8 HC8.out (by have := HMT6.out.2; omega) HMF6.out.att).mono ?_
  rintro e w9 ⟨A9, c9, rfl, hc9, hC9, hb⟩
  have HB9 := Aside0.mk (below_step HB8.out hb)
  have HC9 := Aside0.mk hC9
  clear hb hC9 HB8 HC8 HO7 HB7
  go_wp2_with fail
  with_reducible refine (encode_gv w9 A9 c9 M6 none false (HV.out.below (below_step HB6.out HB9.out)) hc9 HC9.out HME6.out (by have := HMT6.out.2; omega) HMT6.out.1).mono ?_
  rintro e w10 ⟨s10, rfl, hb⟩
  have HBS10 := Aside0.mk (below_step HB9.out hb)
  have HRD10 := Aside0.mk (ReadsRow.imp_ HRD6.out HBS10.out (fun _ _ h => h))
  have HB10 := Aside0.mk (below_step HB6.out HBS10.out)
  clear hb HC9 HB9 HB6 HRD6 HBS10 HMD6 HMF6 HMT6 HME6

  obtain ⟨M10, hMD10⟩ : ∃ M, M = L ++ [elem 2 nm, elem 2 nm] := ⟨_, rfl⟩
  have HMF10 := Aside0.mk (show Fine M10 from hMD10 ▸ ⟨by have := HLL.out; simp; omega, fun x hx => by
    rcases List.mem_append.1 hx with hx | hx
    · exact HF.out.att x hx
    · simp at hx
      rcases hx with rfl | rfl <;> simp [elem]⟩)
  have HMT10 := Aside0.mk (show total (M10.map gv) ≤ 8589934592 ∧ M10.length ≤ 65600 from hMD10 ▸ ⟨by
    have h1 := HTL.out
    rw [List.map_append, total_append]
    rw [total_two]; omega, by have := HLL.out; simp; omega⟩)
  have HME10 := Aside0.mk (show Enc [] (M10.map gv) none from hMD10 ▸ by
    rw [List.map_append]
    exact HEN.out _ _ (enc_close nm hz _ _ (Enc.bare rfl rfl hz)))
  have HMD10 := Aside0.mk hMD10
  clear hMD10
  go_wp2_with (at_builtin; first | (refine own_append_rows (R := k28.K W) (w0 := w10) w10.heap.size rfl _ _ 22 28 (.agg #[.int .i64 0, .string ⟨#[]⟩, .string ⟨#[]⟩, .slice none 0 0, .string ⟨#[]⟩, .int .i64 0]) 6 88 rfl Tryz.underlying22 info28 rfl (by decide) (by decide) (.slice (some ⟨w10.heap.size, 0, none⟩) 0 0) [] L A4 L.length c4 (by first | rfl | simp [Act.eval, Act.put]) (by first | rfl | simp [Act.eval, Act.put]) (lit0 W w10 w10.heap.size (Nat.le_refl _)) (ReadsRow.imp_ HRD10.out (below_alloc (Below.refl _ _) _) (fun _ _ h => h)) (one28 W) (below_alloc (Below.refl w10.heap.size w10) (.cells #[] 28)) ((below_alloc (Below.refl w10.heap.size w10) (.cells #[] 28))).size (by have := HLL.out; simp; omega) ?_; intro v11 w11 ho hb hg hat; rw [List.nil_append] at ho; have HO11 : Aside0 (TRow W w10.heap.size w11 v11 L) := ⟨ho⟩; have HB11 := Aside0.mk hb; clear ho hb hg hat) | (refine own_append_rows (R := k28.K W) (w0 := w10) w10.heap.size rfl _ _ 22 28 (.agg #[.int .i64 0, .string ⟨#[]⟩, .string ⟨#[]⟩, .slice none 0 0, .string ⟨#[]⟩, .int .i64 0]) 6 88 rfl Tryz.underlying22 info28 rfl (by decide) (by decide) v11 L [elem 2 nm, elem 2 nm] (some ⟨w11.heap.size, 0, none⟩) 2 2 (by first | rfl | simp [Act.eval, Act.put]) (by first | rfl | simp [Act.eval, Act.put]) (TRow.move HO11.out (below_alloc (Below.refl _ _) _)) (TRow.rr (lit2 W w11 w11.heap.size 2 2 nm nm (Nat.le_refl _))) (one28 W) (below_alloc HB11.out _) ((below_alloc HB11.out _)).size (by have := HLL.out; omega) ?_; intro v12 w12 ho hb hg hat; rw [← HMD10.out] at ho; obtain ⟨A12, c12, rfl, hc12, hrd12, hC12⟩ := TRow.sees ho (below_step HB10.out hb); have HB12 := Aside0.mk hb; have HC12 := Aside0.mk hC12; clear ho hb hg hat hrd12 hC12))
  with_reducible refine (given_gv w12 A12 c12 M10 hc12 HC12.out (by have := HMT10.out.2; omega) HMF10.out.att).mono ?_
  rintro e w13 ⟨A13, c13, rfl, hc13, hC13, hb⟩
  have HB13 := Aside0.mk (below_step HB12.out hb)
  have HC13 := Aside0.mk hC13
  clear hb hC13 HB12 HC12 HO11 HB11
  go_wp2_with fail
  with_reducible refine (encode_gv w13 A13 c13 M10 none false (HV.out.below (below_step HB10.out HB13.out)) hc13 HC13.out HME10.out (by have := HMT10.out.2; omega) HMT10.out.1).mono ?_
  rintro e w14 ⟨s14, rfl, hb⟩
  have HBS14 := Aside0.mk (below_step HB13.out hb)
  have HRD14 := Aside0.mk (ReadsRow.imp_ HRD10.out HBS14.out (fun _ _ h => h))
  have HB14 := Aside0.mk (below_step HB10.out HBS14.out)
  clear hb HC13 HB13 HB10 HRD10 HBS14 HMD10 HMF10 HMT10 HME10

  obtain ⟨M14, hMD14⟩ : ∃ M, M = L ++ [elem 2 nm] := ⟨_, rfl⟩
  have HMF14 := Aside0.mk (show Fine M14 from hMD14 ▸ ⟨by have := HLL.out; simp; omega, fun x hx => by
    rcases List.mem_append.1 hx with hx | hx
    · exact HF.out.att x hx
    · simp at hx
      rcases hx with rfl | rfl <;> simp [elem]⟩)
  have HMT14 := Aside0.mk (show total (M14.map gv) ≤ 8589934592 ∧ M14.length ≤ 65600 from hMD14 ▸ ⟨by
    have h1 := HTL.out
    rw [List.map_append, total_append]
    rw [total_elem]; omega, by have := HLL.out; simp; omega⟩)
  have HME14 := Aside0.mk (show Enc [] (M14.map gv) (some []) from hMD14 ▸ by
    rw [List.map_append]
    exact HEN.out _ _ (enc_close nm hz _ _ (Enc.nil [])))
  have HMD14 := Aside0.mk hMD14
  clear hMD14
  go_wp2_with (at_builtin; first | (refine own_append_rows (R := k28.K W) (w0 := w14) w14.heap.size rfl _ _ 22 28 (.agg #[.int .i64 0, .string ⟨#[]⟩, .string ⟨#[]⟩, .slice none 0 0, .string ⟨#[]⟩, .int .i64 0]) 6 88 rfl Tryz.underlying22 info28 rfl (by decide) (by decide) (.slice (some ⟨w14.heap.size, 0, none⟩) 0 0) [] L A4 L.length c4 (by first | rfl | simp [Act.eval, Act.put]) (by first | rfl | simp [Act.eval, Act.put]) (lit0 W w14 w14.heap.size (Nat.le_refl _)) (ReadsRow.imp_ HRD14.out (below_alloc (Below.refl _ _) _) (fun _ _ h => h)) (one28 W) (below_alloc (Below.refl w14.heap.size w14) (.cells #[] 28)) ((below_alloc (Below.refl w14.heap.size w14) (.cells #[] 28))).size (by have := HLL.out; simp; omega) ?_; intro v15 w15 ho hb hg hat; rw [List.nil_append] at ho; have HO15 : Aside0 (TRow W w14.heap.size w15 v15 L) := ⟨ho⟩; have HB15 := Aside0.mk hb; clear ho hb hg hat) | (refine own_append_rows (R := k28.K W) (w0 := w14) w14.heap.size rfl _ _ 22 28 (.agg #[.int .i64 0, .string ⟨#[]⟩, .string ⟨#[]⟩, .slice none 0 0, .string ⟨#[]⟩, .int .i64 0]) 6 88 rfl Tryz.underlying22 info28 rfl (by decide) (by decide) v15 L [elem 2 nm] (some ⟨w15.heap.size, 0, none⟩) 1 1 (by first | rfl | simp [Act.eval, Act.put]) (by first | rfl | simp [Act.eval, Act.put]) (TRow.move HO15.out (below_alloc (Below.refl _ _) _)) (TRow.rr (lit1 W w15 w15.heap.size 2 nm (Nat.le_refl _))) (one28 W) (below_alloc HB15.out _) ((below_alloc HB15.out _)).size (by have := HLL.out; omega) ?_; intro v16 w16 ho hb hg hat; rw [← HMD14.out] at ho; obtain ⟨A16, c16, rfl, hc16, hrd16, hC16⟩ := TRow.sees ho (below_step HB14.out hb); have HB16 := Aside0.mk hb; have HC16 := Aside0.mk hC16; clear ho hb hg hat hrd16 hC16))
  with_reducible refine (given_gv w16 A16 c16 M14 hc16 HC16.out (by have := HMT14.out.2; omega) HMF14.out.att).mono ?_
  rintro e w17 ⟨A17, c17, rfl, hc17, hC17, hb⟩
  have HB17 := Aside0.mk (below_step HB16.out hb)
  have HC17 := Aside0.mk hC17
  clear hb hC17 HB16 HC16 HO15 HB15
  go_wp2_with fail
  with_reducible refine (encode_gv w17 A17 c17 M14 (some []) true (HV.out.below (below_step HB14.out HB17.out)) hc17 HC17.out HME14.out (by have := HMT14.out.2; omega) HMT14.out.1).mono ?_
  rintro e w18 ⟨s18, rfl, hb⟩
  have HBS18 := Aside0.mk (below_step HB17.out hb)
  have HRD18 := Aside0.mk (ReadsRow.imp_ HRD14.out HBS18.out (fun _ _ h => h))
  have HB18 := Aside0.mk (below_step HB14.out HBS18.out)
  clear hb HC17 HB17 HB14 HRD14 HBS18 HMD14 HMF14 HMT14 HME14
  have q1 : codeOf (some [nm]) true = 3 := by simp [codeOf]
  have q2 : codeOf none false = 3 := rfl
  have q3 : codeOf (some []) true = 0 := by simp [codeOf]
  rw [q1, q2, q3]
  go_wp2_with fail
  go_ret
  exact ⟨rfl, HB18.out⟩

end Go.Proofs.YtjoahpmalhmjkaaGreatDoor.EncPlain
