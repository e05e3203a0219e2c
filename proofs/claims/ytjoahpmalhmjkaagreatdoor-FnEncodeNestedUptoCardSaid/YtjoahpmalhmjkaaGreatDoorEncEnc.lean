/- What is proved here: the thin package's Encode answers as Enc tells; conditions: the package variables as laid, at most 2^33 bytes in all. -/
import Derived.Test.YtjoahpmalhmjkaaGreatDoorEncGiv
import Derived.Test.YtjoahpmalhmjkaaGreatDoorEncNew
import Derived.Test.YtjoahpmalhmjkaaGreatDoorEncErr
namespace Go.Proofs.YtjoahpmalhmjkaaGreatDoor.EncSt
open Go.RowKit Go.Proofs.YtjoahpmalhmjkaaGreatDoorW.PrintWords Go.Proofs.YtjoahpmalhmjkaaGreatDoorW.PrintLast Go.Proofs.YtjoahpmalhmjkaaGreatDoorW.PrintMore Go.Lib
open Go.Proofs.YtjoahpmalhmjkaaGreatDoor.PFnEncodeNested
set_option linter.unusedVariables false
set_option linter.unusedSimpArgs false

/-- From the open elements st on the Encoder takes the tokens: none: there is an error; some st': st' are open in the end. -/
inductive Enc : List ByteArray → List S49 → Option (List ByteArray) → Prop
  | nil (st : List ByteArray) : Enc st [] (some st)
  | start {st : List ByteArray} {t : S49} {rest : List S49} {r : Option (List ByteArray)} (h0 : t.f0 = 1) (h1 : t.f1 = ⟨#[]⟩) (h2 : 0 < t.f2.size) (h3 : ∀ a ∈ t.f3, a.f0 = ⟨#[]⟩ ∧ 0 < a.f1.size) (h : Enc (st ++ [t.f2]) rest r) : Enc st (t :: rest) r
  | close {st : List ByteArray} {t : S49} {rest : List S49} {r : Option (List ByteArray)} (h0 : t.f0 = 2) (h1 : t.f1 = ⟨#[]⟩) (h2 : 0 < t.f2.size) (h : Enc st rest r) : Enc (st ++ [t.f2]) (t :: rest) r
  | text {st : List ByteArray} {t : S49} {rest : List S49} {r : Option (List ByteArray)} (h0 : t.f0 = 3) (h : Enc st rest r) : Enc st (t :: rest) r
  | comment {st : List ByteArray} {t : S49} {rest : List S49} {r : Option (List ByteArray)} (h0 : t.f0 = 4) (h1 : Nowhere t.f4 ⟨#[45, 45, 62]⟩) (h : Enc st rest r) : Enc st (t :: rest) r
  | proc {st : List ByteArray} {t : S49} {rest : List S49} {r : Option (List ByteArray)} (h0 : t.f0 = 5) (h1 : IsWalk.okFrom t.f2 t.f2.size 0) (h2 : IsWalk.nameOf t.f2 = true) (h3 : t.f2.toList ≠ [120, 109, 108]) (h4 : Nowhere t.f4 ⟨#[63, 62]⟩) (h : Enc st rest r) : Enc st (t :: rest) r
  | wrong {ts : List ByteArray} {t0 : ByteArray} {t : S49} {rest : List S49} (h0 : t.f0 = 2) (h1 : t.f1 = ⟨#[]⟩) (h2 : 0 < t.f2.size) (h3 : 0 < t0.size) (h4 : t0.toList ≠ t.f2.toList) : Enc (ts ++ [t0]) (t :: rest) none
  | bare {t : S49} {rest : List S49} (h0 : t.f0 = 2) (h1 : t.f1 = ⟨#[]⟩) (h2 : 0 < t.f2.size) : Enc [] (t :: rest) none

def tcost (t : S49) : Nat := 7 + t.f2.size + 6 * t.f4.size + cost (pairsOf t.f3)

theorem cost_len (ps : List (ByteArray × ByteArray)) : 4 * ps.length ≤ cost ps := by
  unfold cost
  induction ps with
  | nil => simp
  | cons p r ih =>
    simp only [List.map_cons, List.sum_cons, List.length_cons]
    omega

/-- What comes of a token. -/
def Out (K : Nat → Prop) (w0 : World) (q b p g T : Nat) (st : List ByteArray) (rest : List S49) (r : Option (List ByteArray)) (e : Ending) (W : World) : Prop :=
  (∃ st', e = .returned .nilIface ∧ SA K w0 q b p g T st' st'.length false W ∧ st'.length ≤ st.length + 1 ∧ Enc st' rest r) ∨ (r = none ∧ Err w0 e W ∧ SA K w0 q b p g T st st.length false W)

theorem Err.mono {w0 w1 : World} {e : Ending} {W : World} (h : Err w1 e W) (hs : w0.heap.size ≤ w1.heap.size) : Err w0 e W := by
  obtain ⟨x, s, h1, h2, h3⟩ := h
  exact ⟨x, s, h1, h2, by omega⟩

theorem src_fresh {K : Nat → Prop} {W W' : World} {x c : Nat} {tx : ByteArray} (h1 : W.heap.size ≤ x) (h2 : x < W'.heap.size) (hc : tx.size ≤ c) (hr : ReadsInt W' .u8 (some ⟨x, 0, none⟩) tx.size (bytesOf tx)) :
    SrcS (fun i => K i ∨ (W.heap.size ≤ i ∧ i < W'.heap.size)) W' tx x c := ⟨.inr ⟨h1, h2⟩, hc, hr⟩

theorem tok_any {st : List ByteArray} {t : S49} {rest : List S49} {r : Option (List ByteArray)} (hE : Enc st (t :: rest) r) (W : World) (A : Option Addr) (c : Nat) (hc : t.f3.length ≤ c) (hr : Kd.C k60 W A t.f3.length t.f3) (hcost : tcost t ≤ 8589934592) :
    Calls Tryz.prog 21 #[tokV t.f0 t.f1 t.f2 A t.f3.length c t.f4 t.f5 t.f6 t.f7] W fun e W' => ∃ x, e = .returned (.tuple #[x, .bool true]) ∧ Below W.heap.size W W' ∧
      ∀ (K : Nat → Prop) (w0 : World) (q b p g T : Nat), SA K w0 q b p g T st st.length false W → Glob K w0 → T + tcost t ≤ 70368744177664 → st.length ≤ 4294967295 →
        Calls Tryz.prog 23 #[.pointer (some ⟨g, 0, none⟩), x] W' fun e2 W2 => Out K w0 q b p g (T + tcost t) st rest r e2 W2 := by
  have hlen := cost_len (pairsOf t.f3)
  have hpl : (pairsOf t.f3).length = t.f3.length := by simp [pairsOf]
  unfold tcost at hcost
  cases hE with
  | start h0 h1 h2 h3 h =>
    rw [h0]
    refine (given_start t.f2 t.f1 t.f4 A t.f3 c t.f5 t.f6 t.f7 W h1 hc hr (by omega) (fun z hz => (h3 z hz).1)).mono ?_
    rintro e W' ⟨A', c', rfl, hb, hc', hat⟩
    refine ⟨_, rfl, hb, fun K w0 q b p g T hS G hl hst => ?_⟩
    unfold tcost at hl
    have hks := (hS.below hb).ks
    refine (tok_start (hS.fresh hb) (G.at_ hks _) (ps := pairsOf t.f3) (n := t.f3.length) (c := c') (A := A') ⟨hpl, hc', fun hp => ?_⟩ h2 (by omega) (by omega) (by omega) (by omega)).mono ?_
    · obtain ⟨x, e, hx1, hx2, hx3⟩ := hat hp
      refine ⟨x, e, .inr ⟨hx1, hx2⟩, fun j pr hj => ⟨?_, hx3 j pr hj⟩⟩
      unfold pairsOf at hj
      rw [List.getElem?_map] at hj
      cases hz : t.f3[j]? with
      | none => rw [hz] at hj; cases hj
      | some z =>
        rw [hz] at hj
        simp at hj
        subst hj
        exact (h3 z (List.mem_of_getElem? hz)).2
    · rintro e2 W2 ⟨rfl, h'⟩
      exact .inl ⟨st ++ [t.f2], rfl, by rw [List.length_append, List.length_singleton]; exact (h'.back hks).mono (by unfold tcost; omega), by simp, h⟩
  | close h0 h1 h2 h =>
    rename_i st
    rw [h0]
    refine (given_end t.f2 t.f1 t.f4 A t.f3.length c t.f5 t.f6 t.f7 W h1).mono ?_
    rintro e W' ⟨rfl, hb⟩
    refine ⟨_, rfl, hb, fun K w0 q b p g T hS G hl hst => ?_⟩
    unfold tcost at hl
    rw [List.length_append, List.length_singleton] at hS hst
    refine (tok_end (hS.below hb) (by omega) (by omega) h2 (by omega)).mono ?_
    rintro e2 W2 ⟨rfl, h'⟩
    exact .inl ⟨st, rfl, h'.mono (by unfold tcost; omega), by simp; omega, h⟩
  | text h0 h =>
    rw [h0]
    refine (given_bytes 3 85 t.f2 t.f1 t.f4 A t.f3.length c t.f5 t.f6 t.f7 W (.inl ⟨rfl, rfl⟩) (by omega)).mono ?_
    rintro e W' ⟨x, c', rfl, hb, hx1, hx2, hc', hrd⟩
    refine ⟨_, rfl, hb, fun K w0 q b p g T hS G hl hst => ?_⟩
    unfold tcost at hl
    have hks := (hS.below hb).ks
    refine (tok_text (hS.fresh hb) (G.at_ hks _) t.f4 x c' (src_fresh hx1 hx2 hc' hrd) (by omega)).mono ?_
    rintro e2 W2 ⟨rfl, h'⟩
    exact .inl ⟨st, rfl, (h'.back hks).mono (by unfold tcost; omega), by omega, h⟩
  | comment h0 h1 h =>
    rw [h0]
    refine (given_bytes 4 86 t.f2 t.f1 t.f4 A t.f3.length c t.f5 t.f6 t.f7 W (.inr ⟨rfl, rfl⟩) (by omega)).mono ?_
    rintro e W' ⟨x, c', rfl, hb, hx1, hx2, hc', hrd⟩
    refine ⟨_, rfl, hb, fun K w0 q b p g T hS G hl hst => ?_⟩
    unfold tcost at hl
    have hks := (hS.below hb).ks
    refine (tok_comment (hS.fresh hb) t.f4 x c' (src_fresh hx1 hx2 hc' hrd) (by omega) h1 (by omega)).mono ?_
    rintro e2 W2 ⟨rfl, h'⟩
    exact .inl ⟨st, rfl, (h'.back hks).mono (by unfold tcost; omega), by omega, h⟩
  | proc h0 h1 h2 h3 h4 h =>
    rw [h0]
    refine (given_proc t.f2 t.f1 t.f4 A t.f3.length c t.f5 t.f6 t.f7 W (by omega)).mono ?_
    rintro e W' ⟨x, c', rfl, hb, hx1, hx2, hc', hrd⟩
    refine ⟨_, rfl, hb, fun K w0 q b p g T hS G hl hst => ?_⟩
    unfold tcost at hl
    have hks := (hS.below hb).ks
    refine (tok_proc (hS.fresh hb) (G.at_ hks _) t.f2 t.f4 x c' (src_fresh hx1 hx2 hc' hrd) (by omega) (by omega) h1 h2 h3 h4 (by omega)).mono ?_
    rintro e2 W2 ⟨rfl, h'⟩
    exact .inl ⟨st, rfl, (h'.back hks).mono (by unfold tcost; omega), by omega, h⟩
  | wrong h0 h1 h2 h3 h4 =>
    rw [h0]
    refine (given_end t.f2 t.f1 t.f4 A t.f3.length c t.f5 t.f6 t.f7 W h1).mono ?_
    rintro e W' ⟨rfl, hb⟩
    refine ⟨_, rfl, hb, fun K w0 q b p g T hS G hl hst => ?_⟩
    have hst2 := hst
    rw [List.length_append, List.length_singleton] at hst2
    refine (tok_end_wrong (hS.below hb) (by omega) h2 h3 h4).mono ?_
    rintro e2 W2 ⟨he, h'⟩
    exact .inr ⟨rfl, he, h'.mono (by omega)⟩
  | bare h0 h1 h2 =>
    rw [h0]
    refine (given_end t.f2 t.f1 t.f4 A t.f3.length c t.f5 t.f6 t.f7 W h1).mono ?_
    rintro e W' ⟨rfl, hb⟩
    refine ⟨_, rfl, hb, fun K w0 q b p g T hS G hl hst => ?_⟩
    refine (tok_end_none (hS.below hb) h2).mono ?_
    rintro e2 W2 ⟨he, h'⟩
    exact .inr ⟨rfl, he, h'.mono (by omega)⟩

end Go.Proofs.YtjoahpmalhmjkaaGreatDoor.EncSt

namespace Go.Proofs.YtjoahpmalhmjkaaGreatDoor.EncSt
open Go.RowKit Go.Proofs.YtjoahpmalhmjkaaGreatDoorW.PrintWords Go.Proofs.YtjoahpmalhmjkaaGreatDoorW.PrintLast Go.Proofs.YtjoahpmalhmjkaaGreatDoorW.PrintMore Go.Lib
open Go.Proofs.YtjoahpmalhmjkaaGreatDoor.PFnEncodeNested
set_option linter.unusedVariables false
set_option linter.unusedSimpArgs false

/-- The package variables that are read, as they are laid. -/
structure Vars (W : World) : Prop where
  tabs : Lib.Utf8Tabs 3 4 W
  eof : ∃ (y : Addr) (cs : Array Value) (t : TypeId), W.cell? ⟨0, 0, none⟩ = some (.iface 134 (.pointer (some y))) ∧ W.heap[y.block]? = some (.cells cs t (0, 0))
  typ : W.cell? ⟨1, 0, none⟩ = some (.iface 145 (.agg #[.pointer (some ⟨12, 55, none⟩)]))

theorem Vars.below {W W' : World} (h : Vars W) (hb : Below W.heap.size W W') : Vars W' := by
  obtain ⟨y, cs, t, h1, h2⟩ := h.eof
  exact ⟨Utf8Tabs_below h.tabs hb, ⟨y, cs, t, pw_cell_below hb h1, blk_below h2 hb⟩, pw_cell_below hb h.typ⟩

/-- What Encode answers. -/
def codeOf (r : Option (List ByteArray)) (close : Bool) : Int := match r with
  | none => 3
  | some st => if close = true ∧ st ≠ [] then 3 else 0

def total (l : List S49) : Nat := (l.map tcost).sum
theorem total_take (l : List S49) (i : Nat) (h : i < l.length) : total (l.take (i + 1)) = total (l.take i) + tcost l[i] := by
  unfold total
  rw [List.take_succ_eq_append_getElem h, List.map_append, List.sum_append]
  simp
theorem total_le (l : List S49) (i : Nat) : total (l.take i) ≤ total l := by
  unfold total
  have h2 : (l.map tcost).sum = ((l.take i).map tcost).sum + ((l.drop i).map tcost).sum := by
    rw [← List.sum_append, ← List.map_append, List.take_append_drop]
  omega

section
variable {K : Nat → Prop} {w0 W W' : World} {q b p g T : Nat} {tags : List ByteArray} {np : Nat} {cl : Bool}

theorem SA.below0 {W0 : World} (h : SA (fun i => i < W0.heap.size + 1 ∧ i ≠ W0.heap.size) (W0.alloc (.cells #[.slice none 0 0] 43)) q b p g T tags np cl W) : Below W0.heap.size W0 W := by
  have hk := h.ks
  have hb := below_alloc (Below.refl W0.heap.size W0) (.cells #[.slice none 0 0] 43)
  exact ⟨hk.os.trans hb.os, hk.tape.trans hb.tape, hk.output.trans hb.output, Nat.le_trans hb.size hk.size, fun i hi => (hk.kept i ⟨by omega, by omega⟩).trans (hb.block i hi)⟩

theorem code_of_err (G : Glob K w0) (hk : Keeps K w0 q b p g W) {e : Ending} (he : Err w0 e W) :
    ∃ v, e = .returned v ∧ Calls Tryz.prog 22 #[v] W fun e2 W2 => e2 = .returned (.int .i64 3) ∧ Below W.heap.size W W2 := by
  obtain ⟨x, s, rfl, hx, hge⟩ := he
  obtain ⟨y, cs, t, h1, h2, h3⟩ := G.eof
  refine ⟨_, rfl, EncErr.code_err x y _ _ _ W hx (hk.blk h2 h3) ?_ ((hk.cell (a := ⟨0, 0, none⟩) G.k0).trans h1) ((hk.cell (a := ⟨1, 0, none⟩) G.k1).trans G.typ)⟩
  have := hk.lt y.block h2
  omega

/-- What was written. -/
theorem SA.all (h : SA K w0 q b p g T tags np cl W) : ∃ A0 n0 c0 s, W.cell? ⟨q, 0, none⟩ = some (.slice A0 n0 c0) ∧ (convert 41 9 (.slice A0 n0 c0)).run Tryz.prog W = .ok (.string s) W := by
  obtain ⟨_, _, k, n, va, vp, vt, _, h⟩ := h
  obtain ⟨xs, hxs, ho⟩ := h.qo
  obtain ⟨A0, c0, rfl⟩ := own_slice ho
  exact ⟨A0, k, c0, _, h.q0, own_string (P := Tryz.prog) (src := 41) (dst := 9) (e := 5) Tryz.underlying41 Tryz.underlying5 Tryz.underlying9 ho⟩

theorem close_some (h : SA K w0 q b p g T tags np false W) (hl : T ≤ 70368744177664) (ht : tags.length ≤ 4294967296) :
    Calls Tryz.prog 25 #[.pointer (some ⟨g, 0, none⟩)] W fun e W' => ∃ v, e = .returned v ∧ SA K w0 q b p g T tags np true W' := by
  refine (close_any h hl ht).mono ?_
  rintro e W' ⟨h1, h2, h3⟩
  by_cases h0 : tags = []
  · exact ⟨_, h1 h0, h3⟩
  · obtain ⟨x, s, he, _⟩ := h2 h0
    exact ⟨_, he, h3⟩

end

set_option maxHeartbeats 8000000 in
set_option maxRecDepth 100000 in
theorem encode_any (W : World) (A : Option Addr) (c : Nat) (l : List S49) (r : Option (List ByteArray)) (close : Bool) (hV : Vars W) (hc : l.length ≤ c) (hr : Kd.C k49 W A l.length l) (hE : Enc [] l r) (hl : l.length ≤ 2147483648) (ht : total l ≤ 8589934592) :
    Calls Tryz.prog 7 #[.slice A l.length c, .string ⟨#[]⟩, .string ⟨#[]⟩, .bool close] W fun e W' => ∃ s : ByteArray, e = .returned (.tuple #[.string s, .int .i64 (codeOf r close)]) ∧ Below W.heap.size W W' := by
  have HV := Aside0.mk hV
  have HR := Aside0.mk hr
  have HE := Aside0.mk hE
  clear hV hr hE
  go_enter Tryz.func7, Tryz.ntmps7
  go_wp2_with fail
  have hq := blk_new W (.cells #[.slice none 0 0] 43)
  have hsz : (W.alloc (.cells #[.slice none 0 0] 43)).heap.size = W.heap.size + 1 := by simp
  with_reducible refine (new_enc _ W.heap.size hq).mono ?_
  rintro e w1 ⟨b, p, g, rfl, hb, hS⟩
  rw [hsz] at hS
  have HS := Aside0.mk hS
  have HG := Aside0.mk (show Glob (fun i => i < W.heap.size + 1 ∧ i ≠ W.heap.size) (W.alloc (.cells #[.slice none 0 0] 43)) from by
    have hV1 := HV.out.below (below_alloc (Below.refl W.heap.size W) (.cells #[.slice none 0 0] 43))
    have h4 : 4 < W.heap.size := World.block_lt_of_cell? W ⟨4, 0, none⟩ (HV.out.tabs.2 0 (by omega)).1
    obtain ⟨y, cs, t, g1, g2⟩ := HV.out.eof
    have hy := blk_lt g2
    exact ⟨hV1.tabs, ⟨by omega, by omega⟩, ⟨by omega, by omega⟩, ⟨by omega, by omega⟩, ⟨by omega, by omega⟩, ⟨y, cs, t, pw_cell_below (below_alloc (Below.refl W.heap.size W) _) g1, ⟨by omega, by omega⟩, blk_alloc g2 _⟩, hV1.typ⟩)
  clear hq hb hS hsz
  go_wp2_with fail
  go_loopw [12, 36] (fun v12 v36 W1 => ∃ (i : Nat) (st : List ByteArray), v12 = .int .i64 0 ∧ v36 = .int .i64 (i : Int) ∧ i ≤ l.length ∧ Aside0 (st.length ≤ i) ∧ Aside0 (Enc st (l.drop i) r) ∧ Aside0 (SA (fun i => i < W.heap.size + 1 ∧ i ≠ W.heap.size) (W.alloc (.cells #[.slice none 0 0] 43)) W.heap.size b p g (total (l.take i)) st st.length false W1)) (fun _ v36 _ => l.length - (RowKit.intOf v36).toNat)
  case atStart => exact ⟨0, [], rfl, rfl, Nat.zero_le _, ⟨Nat.le_refl _⟩, HE, HS⟩
  case round =>
    obtain ⟨i, st, rfl, rfl, hi, HST, HEI, HW⟩ := hrel
    clear HS HE
    by_cases hlt : i < l.length
    · have hr := Kd.C_below HR.out HW.out.below0
      obtain ⟨ad, A3, c3, rfl, x0, x1, x2, x3, x4, x5, x6, x7, hc3, hat⟩ := at_T49 hr (i : Int) (by omega) (by omega)
      have hrd : rd_T49 l (i : Int) = l[i] := by
        unfold rd_T49
        rw [List.getD_eq_getElem?_getD]
        simp [hlt]
      rw [hrd] at x0 x1 x2 x3 x4 x5 x6 x7 hc3 hat
      have hdrop : l.drop i = l[i] :: l.drop (i + 1) := List.drop_eq_getElem_cons hlt
      have HTT := Aside0.mk (total_take l i hlt)
      have HEN := Aside0.mk (show Enc st (l[i] :: l.drop (i + 1)) r by rw [← hdrop]; exact HEI.out)
      have HTL := Aside0.mk (total_le l (i + 1))
      generalize l[i] = t at x0 x1 x2 x3 x4 x5 x6 x7 hc3 hat HTT HEN
      simp only [Int.toNat_natCast] at x0 x1 x2 x3 x4 x5 x6 x7
      have HAT := Aside0.mk hat
      clear hr hrd hdrop hat HEI
      go_wp2_with fail
      have hbl := below_alloc (Below.refl wr.heap.size wr) (.cells #[.int .i64 t.f0, .string t.f1, .string t.f2, .slice A3 t.f3.length c3, .string t.f4, .int .i64 t.f5, .int .i64 t.f6, .int .i64 t.f7] 49)
      have HW2 := Aside0.mk (HW.out.below hbl)
      have htok := tok_any HEN.out (wr.alloc (.cells #[.int .i64 t.f0, .string t.f1, .string t.f2, .slice A3 t.f3.length c3, .string t.f4, .int .i64 t.f5, .int .i64 t.f6, .int .i64 t.f7] 49)) A3 c3 hc3 (Kd.C_below HAT.out hbl) (by have := HTT.out; have := HTL.out; omega)
      unfold tokV at htok
      clear hbl x0 x1 x2 x3 x4 x5 x6 x7
      with_reducible refine htok.mono ?_
      rintro e w2 ⟨x, rfl, hb2, hnext⟩
      have HN := Aside0.mk (hnext _ _ _ b p g _ HW2.out HG.out (by have := HTT.out; have := HTL.out; omega) (by have := HST.out; omega))
      clear htok hnext hb2
      go_wp2_with fail
      with_reducible refine HN.out.mono ?_
      rintro e w3 hout
      rcases hout with ⟨st', rfl, hS3, hst3, hE3⟩ | ⟨rfl, he, hS3⟩
      · have HS3 := Aside0.mk hS3
        have HST3 := Aside0.mk hst3
        have HE3 := Aside0.mk hE3
        clear hS3 hst3 hE3
        go_wp2_with fail
        with_reducible refine (EncErr.code_nil _).mono ?_
        rintro e w4 ⟨rfl, hb4⟩
        have HS4 := Aside0.mk (HS3.out.below hb4)
        clear hb4
        go_wp2_with fail
        go_roundw
        case rel =>
          go_light
          exact ⟨i + 1, st', rfl, by go_num, by omega, ⟨by have := HST.out; have := HST3.out; omega⟩, HE3, ⟨by rw [HTT.out]; exact HS4.out⟩⟩
        case measure =>
          go_light
          simp [RowKit.intOf]
          omega
      · have HS3 := Aside0.mk hS3
        obtain ⟨v, rfl, hcode⟩ := code_of_err HG.out hS3.ks he
        have HC := Aside0.mk hcode
        clear hS3 he hcode
        go_wp2_with fail
        with_reducible refine HC.out.mono ?_
        rintro e w4 ⟨rfl, hb4⟩
        have HS4 := Aside0.mk (HS3.out.below hb4)
        clear hb4
        go_wp2_with fail
        with_reducible refine (sa_flush HS4.out (by have := HTT.out; have := HTL.out; omega)).mono ?_
        rintro e w5 ⟨rfl, hS5⟩
        have HS5 := Aside0.mk hS5
        clear hS5
        cases close
        · obtain ⟨A0, n0, c0, s0, hq0, hcv⟩ := HS5.out.all
          have HF := Aside0.mk HS5.out.below0
          go_wp2_with fail
          go_ret2
          exact ⟨_, rfl, HF.out⟩
        · go_wp2_with fail
          with_reducible refine (close_some HS5.out (by have := HTT.out; have := HTL.out; omega) (by have := HST.out; omega)).mono ?_
          rintro e w6 ⟨v6, rfl, hS6⟩
          have HS6 := Aside0.mk hS6
          clear hS6
          obtain ⟨A0, n0, c0, s0, hq0, hcv⟩ := HS6.out.all
          have HF := Aside0.mk HS6.out.below0
          go_wp2_with fail
          go_ret2
          exact ⟨_, rfl, HF.out⟩
    · obtain rfl : i = l.length := by omega
      have hdrop : l.drop l.length = [] := List.drop_length
      have hE := HEI.out
      rw [hdrop] at hE
      have hrs : r = some st := by cases hE; rfl
      subst hrs
      have htl := total_le l l.length
      have hst := HST.out
      clear hE hdrop HEI
      go_wp2_with fail
      with_reducible refine (sa_flush HW.out (by omega)).mono ?_
      rintro e w5 ⟨rfl, hS5⟩
      have HS5 := Aside0.mk hS5
      clear hS5
      go_wp2_with fail
      with_reducible refine (EncErr.code_nil _).mono ?_
      rintro e w6 ⟨rfl, hb6⟩
      have HS6 := Aside0.mk (HS5.out.below hb6)
      clear hb6
      cases close
      · obtain ⟨A0, n0, c0, s0, hq0, hcv⟩ := HS6.out.all
        have HF := Aside0.mk HS6.out.below0
        go_wp2_with fail
        go_ret2
        exact ⟨_, by simp [codeOf]; rfl, HF.out⟩
      · go_wp2_with fail
        by_cases h0 : st = []
        · with_reducible refine (close_any HS6.out (by omega) (by omega)).mono ?_
          rintro e w7 ⟨h1, _, hS7⟩
          obtain rfl := h1 h0
          have HS7 := Aside0.mk hS7
          clear hS7 h1
          go_wp2_with fail
          with_reducible refine (EncErr.code_nil _).mono ?_
          rintro e w8 ⟨rfl, hb8⟩
          have HS8 := Aside0.mk (HS7.out.below hb8)
          clear hb8
          obtain ⟨A0, n0, c0, s0, hq0, hcv⟩ := HS8.out.all
          have HF := Aside0.mk HS8.out.below0
          go_wp2_with fail
          go_ret2
          exact ⟨_, by simp [codeOf, h0]; rfl, HF.out⟩
        · with_reducible refine (close_any HS6.out (by omega) (by omega)).mono ?_
          rintro e w7 ⟨_, h1, hS7⟩
          have HS7 := Aside0.mk hS7
          obtain ⟨v, rfl, hcode⟩ := code_of_err HG.out hS7.ks (h1 h0)
          have HC := Aside0.mk hcode
          clear hS7 h1 hcode
          go_wp2_with fail
          with_reducible refine HC.out.mono ?_
          rintro e w8 ⟨rfl, hb8⟩
          have HS8 := Aside0.mk (HS7.out.below hb8)
          clear hb8
          obtain ⟨A0, n0, c0, s0, hq0, hcv⟩ := HS8.out.all
          have HF := Aside0.mk HS8.out.below0
          go_wp2_with fail
          go_ret2
          exact ⟨_, by simp [codeOf, h0]; rfl, HF.out⟩

end Go.Proofs.YtjoahpmalhmjkaaGreatDoor.EncSt
