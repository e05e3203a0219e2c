/- What is proved here: the printer's methods, told with a bound on what has been written (SA), and the printer's Close; conditions: those that each theorem names. -/
import Derived.Test.YtjoahpmalhmjkaaGreatDoorEncPr
import Derived.Lib.LaidU8T
namespace Go.Proofs.YtjoahpmalhmjkaaGreatDoor.EncSt
open Go.RowKit Go.Proofs.YtjoahpmalhmjkaaGreatDoorW.PrintWords Go.Proofs.YtjoahpmalhmjkaaGreatDoorW.PrintLast Go.Proofs.YtjoahpmalhmjkaaGreatDoorW.PrintMore Go.Lib
set_option linter.unusedVariables false
set_option linter.unusedSimpArgs false

/-- The encoder, at most T bytes written in all. -/
def SA (K : Nat → Prop) (w0 : World) (q b p g T : Nat) (tags : List ByteArray) (np : Nat) (cl : Bool) (W : World) : Prop := ∃ T', T' ≤ T ∧ SB K w0 q b p g T' tags np cl W

/-- What is read of package variables: the tables of unicode/utf8, io.EOF, errors.errorType; all of it kept. -/
structure Glob (K : Nat → Prop) (w0 : World) : Prop where
  tabs : Lib.Utf8Tabs 3 4 w0
  k0 : K 0
  k1 : K 1
  k3 : K 3
  k4 : K 4
  eof : ∃ (y : Addr) (cs : Array Value) (t : TypeId), w0.cell? ⟨0, 0, none⟩ = some (.iface 134 (.pointer (some y))) ∧ K y.block ∧ w0.heap[y.block]? = some (.cells cs t (0, 0))
  typ : w0.cell? ⟨1, 0, none⟩ = some (.iface 145 (.agg #[.pointer (some ⟨12, 55, none⟩)]))

section
variable {K : Nat → Prop} {w0 W W' : World} {q b p g T : Nat} {tags : List ByteArray} {np : Nat} {cl : Bool}

theorem SA.of (h : SB K w0 q b p g T tags np cl W) : SA K w0 q b p g T tags np cl W := ⟨T, Nat.le_refl _, h⟩
theorem SA.mono (h : SA K w0 q b p g T tags np cl W) {T' : Nat} (hT : T ≤ T') : SA K w0 q b p g T' tags np cl W := by
  obtain ⟨t, h1, h2⟩ := h
  exact ⟨t, Nat.le_trans h1 hT, h2⟩
theorem SA.below (h : SA K w0 q b p g T tags np cl W) (hb : Below W.heap.size W W') : SA K w0 q b p g T tags np cl W' := by
  obtain ⟨t, h1, h2⟩ := h
  exact ⟨t, h1, h2.below hb⟩
theorem SA.drew (h : SA K w0 q b p g T tags np cl W) : SA K w0 q b p g T tags np cl W.drew := h.below (below_drew (Below.refl _ _))
theorem SA.drewN (h : SA K w0 q b p g T tags np cl W) (m : Nat) : SA K w0 q b p g T tags np cl (W.drewN m) := h.below (pw_below_drewN (Below.refl _ _) m)
theorem SA.alloc (h : SA K w0 q b p g T tags np cl W) (o : Obj) : SA K w0 q b p g T tags np cl (W.alloc o) := h.below (below_alloc (Below.refl _ _) o)
theorem SA.drawn (h : SA K w0 q b p g T tags np cl W) (hd : Drawn0 W W') : SA K w0 q b p g T tags np cl W' := h.below hd.below
theorem SA.ks (h : SA K w0 q b p g T tags np cl W) : Keeps K w0 q b p g W := by
  obtain ⟨t, h1, h2⟩ := h
  exact h2.ks
theorem SA.g0 (h : SA K w0 q b p g T tags np cl W) : W.cell? ⟨g, 0, none⟩ = some (.pointer (some ⟨p, 0, none⟩)) := by
  obtain ⟨t, h1, h2⟩ := h
  exact h2.g0
theorem SA.back {X : Nat → Prop} {W1 : World} (hk : Keeps K w0 q b p g W1) (h : SA (fun i => K i ∨ X i) W1 q b p g T tags np cl W) : SA K w0 q b p g T tags np cl W := by
  obtain ⟨t, h1, h2⟩ := h
  exact ⟨t, h1, h2.back hk⟩
theorem SA.box (h : SA K w0 q b p g T tags np cl W) (o : Obj) : SA (fun i => K i ∨ i = W.heap.size) (W.alloc o) q b p g T tags np cl (W.alloc o) := by
  obtain ⟨t, h1, h2⟩ := h
  exact ⟨t, h1, h2.box o⟩
theorem SA.reads {S : Option Addr} {m c : Nat} (hs : Src K w0 S m c) (h : SA K w0 q b p g T tags np cl W) : ∃ ys, ReadsInt W .u8 S m ys := by
  obtain ⟨t, h1, h2⟩ := h
  exact SB.reads hs h2

theorem Glob.tabs_at (G : Glob K w0) (h : Keeps K w0 q b p g W) : Lib.Utf8Tabs 3 4 W :=
  ⟨fun c hc => (h.cell (a := ⟨3, c, none⟩) G.k3).trans (G.tabs.1 c hc), fun i hi => ⟨(h.cell (a := ⟨4, 2 * i, none⟩) G.k4).trans (G.tabs.2 i hi).1, (h.cell (a := ⟨4, 2 * i + 1, none⟩) G.k4).trans (G.tabs.2 i hi).2⟩⟩
theorem Glob.at_ (G : Glob K w0) (h : Keeps K w0 q b p g W) (X : Nat → Prop) : Glob (fun i => K i ∨ X i) W := by
  obtain ⟨y, cs, t, h1, h2, h3⟩ := G.eof
  exact ⟨G.tabs_at h, .inl G.k0, .inl G.k1, .inl G.k3, .inl G.k4, ⟨y, cs, t, (h.cell G.k0).trans h1, .inl h2, h.blk h2 h3⟩, (h.cell G.k1).trans G.typ⟩

theorem sa_string (h : SA K w0 q b p g T tags np false W) (s : ByteArray) (hl : T + s.size ≤ 70368744177664) :
    Calls Tryz.prog 39 #[.pointer (some ⟨g, 0, none⟩), .string s] W fun e W' => ∃ x : Int, e = .returned (.tuple #[.int .i64 x, .nilIface]) ∧ SA K w0 q b p g (T + s.size) tags np false W' := by
  obtain ⟨t, h1, h2⟩ := h
  refine (p_string h2 s (by omega)).mono ?_
  rintro e W' ⟨x, rfl, h'⟩
  exact ⟨x, rfl, _, by omega, h'⟩
theorem sa_bytes (h : SA K w0 q b p g T tags np false W) {S : Option Addr} {m c : Nat} (hs : Src K w0 S m c) (hl : T + m ≤ 70368744177664) :
    Calls Tryz.prog 40 #[.pointer (some ⟨g, 0, none⟩), .slice S m c] W fun e W' => ∃ x : Int, e = .returned (.tuple #[.int .i64 x, .nilIface]) ∧ SA K w0 q b p g (T + m) tags np false W' := by
  obtain ⟨t, h1, h2⟩ := h
  refine (p_bytes h2 hs (by omega)).mono ?_
  rintro e W' ⟨x, rfl, h'⟩
  exact ⟨x, rfl, _, by omega, h'⟩
theorem sa_byte (h : SA K w0 q b p g T tags np false W) (x : Int) (hl : T ≤ 70368744177664) :
    Calls Tryz.prog 44 #[.pointer (some ⟨g, 0, none⟩), .int .u8 x] W fun e W' => e = .returned .nilIface ∧ SA K w0 q b p g (T + 1) tags np false W' := by
  obtain ⟨t, h1, h2⟩ := h
  refine (p_byte h2 x (by omega)).mono ?_
  rintro e W' ⟨rfl, h'⟩
  exact ⟨rfl, _, by omega, h'⟩
theorem sa_cached (h : SA K w0 q b p g T tags np false W) (hl : T ≤ 70368744177664) :
    Calls Tryz.prog 41 #[.pointer (some ⟨g, 0, none⟩)] W fun e W' => e = .returned .nilIface ∧ SA K w0 q b p g T tags np false W' := by
  obtain ⟨t, h1, h2⟩ := h
  refine (p_cached h2 (by omega)).mono ?_
  rintro e W' ⟨rfl, h'⟩
  exact ⟨rfl, _, h1, h'⟩
theorem sa_indent (h : SA K w0 q b p g T tags np false W) (x : Int) :
    Calls Tryz.prog 57 #[.pointer (some ⟨g, 0, none⟩), .int .i64 x] W fun e W' => e = .returned (.tuple #[]) ∧ SA K w0 q b p g T tags np false W' := by
  obtain ⟨t, h1, h2⟩ := h
  refine (p_indent h2 x).mono ?_
  rintro e W' ⟨rfl, h'⟩
  exact ⟨rfl, _, h1, h'⟩
theorem sa_mark (h : SA K w0 q b p g T tags np cl W) (hn : np ≤ 4294967296) :
    Calls Tryz.prog 56 #[.pointer (some ⟨g, 0, none⟩)] W fun e W' => e = .returned (.tuple #[]) ∧ SA K w0 q b p g T tags (np + 1) cl W' := by
  obtain ⟨t, h1, h2⟩ := h
  refine (mark_any h2 hn).mono ?_
  rintro e W' ⟨rfl, h'⟩
  exact ⟨rfl, _, h1, h'⟩
theorem sa_flush (h : SA K w0 q b p g T tags np cl W) (hl : T ≤ 70368744177664) :
    Calls Tryz.prog 24 #[.pointer (some ⟨g, 0, none⟩)] W fun e W' => e = .returned .nilIface ∧ SA K w0 q b p g T tags np cl W' := by
  obtain ⟨t, h1, h2⟩ := h
  refine (enc_flush h2 (by omega)).mono ?_
  rintro e W' ⟨rfl, h'⟩
  exact ⟨rfl, _, h1, h'⟩
theorem sa_end_ok {ts : List ByteArray} {nm : ByteArray} (h : SA K w0 q b p g T (ts ++ [nm]) (np + 1) false W) (hn : np ≤ 4294967296) (hts : ts.length ≤ 4294967296) (h0 : 0 < nm.size) (hl : T + 3 + nm.size ≤ 70368744177664) :
    Calls Tryz.prog 35 #[.pointer (some ⟨g, 0, none⟩), .agg #[.string ⟨#[]⟩, .string nm]] W fun e W' => e = .returned .nilIface ∧ SA K w0 q b p g (T + 3 + nm.size) ts np false W' := by
  obtain ⟨t, h1, h2⟩ := h
  refine (end_ok h2 hn hts h0 (by omega)).mono ?_
  rintro e W' ⟨rfl, h'⟩
  exact ⟨rfl, _, by omega, h'⟩
theorem sa_end_wrong {ts : List ByteArray} {t nm : ByteArray} (h : SA K w0 q b p g T (ts ++ [t]) np cl W) (hts : ts.length ≤ 4294967296) (h0 : 0 < nm.size) (ht0 : 0 < t.size) (htn : t.toList ≠ nm.toList) :
    Calls Tryz.prog 35 #[.pointer (some ⟨g, 0, none⟩), .agg #[.string ⟨#[]⟩, .string nm]] W fun e W' => Err w0 e W' ∧ SA K w0 q b p g T (ts ++ [t]) np cl W' := by
  obtain ⟨t', h1, h2⟩ := h
  refine (end_wrong h2 hts h0 ht0 htn).mono ?_
  rintro e W' ⟨he, h'⟩
  exact ⟨he, _, h1, h'⟩
theorem sa_end_none {nm : ByteArray} (h : SA K w0 q b p g T [] np cl W) (h0 : 0 < nm.size) :
    Calls Tryz.prog 35 #[.pointer (some ⟨g, 0, none⟩), .agg #[.string ⟨#[]⟩, .string nm]] W fun e W' => Err w0 e W' ∧ SA K w0 q b p g T [] np cl W' := by
  obtain ⟨t', h1, h2⟩ := h
  refine (end_none h2 h0).mono ?_
  rintro e W' ⟨he, h'⟩
  exact ⟨he, _, h1, h'⟩

set_option maxRecDepth 100000 in
theorem pclose_any (h : SA K w0 q b p g T tags np false W) (hl : T ≤ 70368744177664) (ht : tags.length ≤ 4294967296) :
    Calls Tryz.prog 47 #[.pointer (some ⟨g, 0, none⟩)] W fun e W' => (tags = [] → e = .returned .nilIface) ∧ (tags ≠ [] → Err w0 e W') ∧ SA K w0 q b p g T tags np true W' := by
  obtain ⟨t, h1, k, n, va, vp, vt, hk, h2⟩ := h
  have H := Aside0.mk h2
  have g0 := h2.g0
  have g12 := h2.g12
  have gf := h2.gf
  have hc := h2.close
  have c0 := hc.g0
  have HC := Aside0.mk (show SB K w0 q b p g t tags np true _ from ⟨k, n, va, vp, vt, hk, hc⟩)
  clear h2 hc
  go_enter Tryz.func47, Tryz.ntmps47
  go_wp2_with fail
  with_reducible refine (bw_flush HC.out (by omega)).mono ?_
  rintro e w1 ⟨rfl, hw1⟩
  have HW1 := Aside0.mk hw1
  obtain ⟨k1, n1, va1, vp1, vt1, hk1, h3⟩ := hw1
  obtain ⟨A, c, rfl⟩ := own_slice h3.tg
  have j11 := h3.g11
  clear h3
  by_cases h0 : tags.length = 0
  · have hq : decide ((0 : Int) < (tags.length : Int)) = false := decide_eq_false (by omega)
    go_wp2_with fail
    go_ret
    exact ⟨fun _ => rfl, fun hne => absurd (List.eq_nil_of_length_eq_zero h0) hne, t, h1, HW1.out⟩
  · have hq : decide ((0 : Int) < (tags.length : Int)) = true := decide_eq_true (by omega)
    go_wp2_with fail
    with_reducible refine (new_any _ _).mono ?_
    rintro e w5 ⟨rfl, rfl⟩
    have HE := Aside0.mk (HW1.out.made ⟨#[117, 110, 99, 108, 111, 115, 101, 100, 32, 116, 97, 103]⟩)
    go_wp2_with fail
    go_ret
    exact ⟨fun he => absurd (by rw [he]; rfl) h0, fun _ => HE.out.1, t, h1, HE.out.2⟩

theorem close_any (h : SA K w0 q b p g T tags np false W) (hl : T ≤ 70368744177664) (ht : tags.length ≤ 4294967296) :
    Calls Tryz.prog 25 #[.pointer (some ⟨g, 0, none⟩)] W fun e W' => (tags = [] → e = .returned .nilIface) ∧ (tags ≠ [] → Err w0 e W') ∧ SA K w0 q b p g T tags np true W' := by
  have H := Aside0.mk h
  clear h
  by_cases h0 : tags = []
  · go_enter Tryz.func25, Tryz.ntmps25
    go_wp2_with fail
    with_reducible refine (pclose_any H.out hl ht).mono ?_
    rintro e w1 ⟨h1, h2, h3⟩
    obtain rfl := h1 h0
    have H3 := Aside0.mk h3
    clear h1 h2 h3
    go_wp2_with fail
    go_ret
    exact ⟨fun _ => rfl, fun hne => absurd h0 hne, H3.out⟩
  · go_enter Tryz.func25, Tryz.ntmps25
    go_wp2_with fail
    with_reducible refine (pclose_any H.out hl ht).mono ?_
    rintro e w1 ⟨h1, h2, h3⟩
    obtain ⟨x, s, rfl, he2, he3⟩ := h2 h0
    have H3 := Aside0.mk h3
    have HE := Aside0.mk (And.intro he2 he3)
    clear h1 h2 h3 he2 he3
    go_wp2_with fail
    go_ret
    exact ⟨fun he => absurd he h0, fun _ => ⟨x, s, rfl, HE.out⟩, H3.out⟩

end
end Go.Proofs.YtjoahpmalhmjkaaGreatDoor.EncSt
