/- What is proved here: the Encoder's EncodeToken, by the kinds of tokens; conditions: those that each theorem names. -/
import Derived.Test.YtjoahpmalhmjkaaGreatDoorEncStart
import Derived.Test.YtjoahpmalhmjkaaGreatDoorEncHas
import Derived.Test.YtjoahpmalhmjkaaGreatDoorIsWalk
import Derived.Lib.SlBytesConst
namespace Go.Proofs.YtjoahpmalhmjkaaGreatDoor.EncSt
open Go.RowKit Go.Proofs.YtjoahpmalhmjkaaGreatDoorW.PrintWords Go.Proofs.YtjoahpmalhmjkaaGreatDoorW.PrintLast Go.Proofs.YtjoahpmalhmjkaaGreatDoorW.PrintMore Go.Lib
open Go.Proofs.YtjoahpmalhmjkaaGreatDoor.EscPure
set_option linter.unusedVariables false
set_option linter.unusedSimpArgs false

theorem is80 (v : Value) (w : World) : (Instr.typeAssert (.iface 80 v) 50 80 true).run Tryz.prog w = .ok (.tuple #[v, .bool true]) w := by kernel_rfl
theorem is84 (v : Value) (w : World) : (Instr.typeAssert (.iface 84 v) 50 84 true).run Tryz.prog w = .ok (.tuple #[v, .bool true]) w := by kernel_rfl
theorem is85 (v : Value) (w : World) : (Instr.typeAssert (.iface 85 v) 50 85 true).run Tryz.prog w = .ok (.tuple #[v, .bool true]) w := by kernel_rfl
theorem is86 (v : Value) (w : World) : (Instr.typeAssert (.iface 86 v) 50 86 true).run Tryz.prog w = .ok (.tuple #[v, .bool true]) w := by kernel_rfl
theorem is88 (v : Value) (w : World) : (Instr.typeAssert (.iface 88 v) 50 88 true).run Tryz.prog w = .ok (.tuple #[v, .bool true]) w := by kernel_rfl
theorem no84_80 (v : Value) (w : World) : (Instr.typeAssert (.iface 84 v) 50 80 true).run Tryz.prog w = .ok (.tuple #[.agg #[.string ⟨#[]⟩, .string ⟨#[]⟩, .slice none 0 0], .bool false]) w := by kernel_rfl
theorem no85_80 (v : Value) (w : World) : (Instr.typeAssert (.iface 85 v) 50 80 true).run Tryz.prog w = .ok (.tuple #[.agg #[.string ⟨#[]⟩, .string ⟨#[]⟩, .slice none 0 0], .bool false]) w := by kernel_rfl
theorem no86_80 (v : Value) (w : World) : (Instr.typeAssert (.iface 86 v) 50 80 true).run Tryz.prog w = .ok (.tuple #[.agg #[.string ⟨#[]⟩, .string ⟨#[]⟩, .slice none 0 0], .bool false]) w := by kernel_rfl
theorem no88_80 (v : Value) (w : World) : (Instr.typeAssert (.iface 88 v) 50 80 true).run Tryz.prog w = .ok (.tuple #[.agg #[.string ⟨#[]⟩, .string ⟨#[]⟩, .slice none 0 0], .bool false]) w := by kernel_rfl
theorem no85_84 (v : Value) (w : World) : (Instr.typeAssert (.iface 85 v) 50 84 true).run Tryz.prog w = .ok (.tuple #[.agg #[.string ⟨#[]⟩, .string ⟨#[]⟩], .bool false]) w := by kernel_rfl
theorem no86_84 (v : Value) (w : World) : (Instr.typeAssert (.iface 86 v) 50 84 true).run Tryz.prog w = .ok (.tuple #[.agg #[.string ⟨#[]⟩, .string ⟨#[]⟩], .bool false]) w := by kernel_rfl
theorem no88_84 (v : Value) (w : World) : (Instr.typeAssert (.iface 88 v) 50 84 true).run Tryz.prog w = .ok (.tuple #[.agg #[.string ⟨#[]⟩, .string ⟨#[]⟩], .bool false]) w := by kernel_rfl
theorem no86_85 (v : Value) (w : World) : (Instr.typeAssert (.iface 86 v) 50 85 true).run Tryz.prog w = .ok (.tuple #[.slice none 0 0, .bool false]) w := by kernel_rfl
theorem no88_85 (v : Value) (w : World) : (Instr.typeAssert (.iface 88 v) 50 85 true).run Tryz.prog w = .ok (.tuple #[.slice none 0 0, .bool false]) w := by kernel_rfl
theorem no88_86 (v : Value) (w : World) : (Instr.typeAssert (.iface 88 v) 50 86 true).run Tryz.prog w = .ok (.tuple #[.slice none 0 0, .bool false]) w := by kernel_rfl

section
variable {K : Nat → Prop} {w0 W W' : World} {q b p g T : Nat} {tags : List ByteArray} {np : Nat} {cl : Bool}

theorem Attrs.at_ {A : Option Addr} {n c : Nat} {ps : List (ByteArray × ByteArray)} (h : Attrs K w0 A n c ps) (hk : Keeps K w0 q b p g W) (X : Nat → Prop) : Attrs (fun i => K i ∨ X i) W A n c ps := by
  obtain ⟨h1, h2, h3⟩ := h
  refine ⟨h1, h2, fun h0 => ?_⟩
  obtain ⟨x, e, hx, hc⟩ := h3 h0
  refine ⟨x, e, .inl hx, fun j pr hj => ?_⟩
  obtain ⟨a0, a1, a2, a3⟩ := hc j pr hj
  exact ⟨a0, (hk.cell (a := ⟨x, j * 3, none⟩) hx).trans a1, (hk.cell (a := ⟨x, j * 3 + 1, none⟩) hx).trans a2, (hk.cell (a := ⟨x, j * 3 + 2, none⟩) hx).trans a3⟩

set_option maxHeartbeats 2000000 in
set_option maxRecDepth 100000 in
theorem tok_start (h : SA K w0 q b p g T tags np false W) (G : Glob K w0) {n c : Nat} {A : Option Addr} {nm : ByteArray} {ps : List (ByteArray × ByteArray)} (hA : Attrs K w0 A n c ps)
    (h0 : 0 < nm.size) (hn : np ≤ 4294967296) (ht : tags.length ≤ 4294967296) (hps : n ≤ 4294967296) (hl : T + 2 + nm.size + cost ps ≤ 70368744177664) :
    Calls Tryz.prog 23 #[.pointer (some ⟨g, 0, none⟩), .iface 80 (.agg #[.string ⟨#[]⟩, .string nm, .slice A n c])] W fun e W' => e = .returned .nilIface ∧ SA K w0 q b p g (T + 2 + nm.size + cost ps) (tags ++ [nm]) (np + 1) false W' := by
  have H := Aside0.mk h
  have HG := Aside0.mk G
  have HA := Aside0.mk hA
  have t1 := is80
  clear h G hA
  go_enter Tryz.func23, Tryz.ntmps23
  go_wp2_with fail
  have hbl := below_alloc (Below.refl W.heap.size W) (.cells #[.string ⟨#[]⟩, .string nm, .slice A n c] 80)
  have HKS := Aside0.mk (H.out.below hbl).ks
  have HF := Aside0.mk (H.out.box (.cells #[.string ⟨#[]⟩, .string nm, .slice A n c] 80))
  have HGF := Aside0.mk (HG.out.at_ HKS.out (fun j => j = W.heap.size))
  have HAF := Aside0.mk (HA.out.at_ HKS.out (fun j => j = W.heap.size))
  have HB := Aside0.mk (blk_new W (.cells #[.string ⟨#[]⟩, .string nm, .slice A n c] 80))
  clear hbl
  with_reducible refine (start_any HF.out HGF.out HB.out (.inr rfl) HAF.out h0 hn ht hps hl).mono ?_
  rintro e w1 ⟨rfl, hw⟩
  have HS1 := Aside0.mk (hw.back HKS.out)
  clear hw
  go_wp2_with fail
  with_reducible refine (sa_cached HS1.out hl).mono ?_
  rintro e w2 ⟨rfl, hw⟩
  have HS2 := Aside0.mk hw
  clear hw
  go_wp2_with fail
  go_ret
  exact ⟨rfl, HS2.out⟩

set_option maxRecDepth 100000 in
theorem tok_end {ts : List ByteArray} {nm : ByteArray} (h : SA K w0 q b p g T (ts ++ [nm]) (np + 1) false W) (hn : np ≤ 4294967296) (hts : ts.length ≤ 4294967296) (h0 : 0 < nm.size) (hl : T + 3 + nm.size ≤ 70368744177664) :
    Calls Tryz.prog 23 #[.pointer (some ⟨g, 0, none⟩), .iface 84 (.agg #[.string ⟨#[]⟩, .string nm])] W fun e W' => e = .returned .nilIface ∧ SA K w0 q b p g (T + 3 + nm.size) ts np false W' := by
  have H := Aside0.mk h
  have t1 := is84
  have t2 := no84_80
  clear h
  go_enter Tryz.func23, Tryz.ntmps23
  go_wp2_with fail
  have HA := Aside0.mk (H.out.alloc (.cells #[.string ⟨#[]⟩, .string nm] 84))
  with_reducible refine (sa_end_ok HA.out hn hts h0 hl).mono ?_
  rintro e w1 ⟨rfl, hw⟩
  have HS1 := Aside0.mk hw
  clear hw
  go_wp2_with fail
  with_reducible refine (sa_cached HS1.out hl).mono ?_
  rintro e w2 ⟨rfl, hw⟩
  have HS2 := Aside0.mk hw
  clear hw
  go_wp2_with fail
  go_ret
  exact ⟨rfl, HS2.out⟩

set_option maxRecDepth 100000 in
theorem tok_end_wrong {ts : List ByteArray} {t nm : ByteArray} (h : SA K w0 q b p g T (ts ++ [t]) np false W) (hts : ts.length ≤ 4294967296) (h0 : 0 < nm.size) (ht0 : 0 < t.size) (htn : t.toList ≠ nm.toList) :
    Calls Tryz.prog 23 #[.pointer (some ⟨g, 0, none⟩), .iface 84 (.agg #[.string ⟨#[]⟩, .string nm])] W fun e W' => Err w0 e W' ∧ SA K w0 q b p g T (ts ++ [t]) np false W' := by
  have H := Aside0.mk h
  have t1 := is84
  have t2 := no84_80
  clear h
  have HTN := Aside0.mk htn
  clear htn
  go_enter Tryz.func23, Tryz.ntmps23
  go_wp2_with fail
  have HA := Aside0.mk (H.out.alloc (.cells #[.string ⟨#[]⟩, .string nm] 84))
  with_reducible refine (sa_end_wrong HA.out hts h0 ht0 HTN.out).mono ?_
  rintro e w1 ⟨⟨x, s, rfl, hx1, hx2⟩, hw⟩
  have HS1 := Aside0.mk hw
  have HX := Aside0.mk (And.intro hx1 hx2)
  clear hw hx1 hx2
  go_wp2_with fail
  go_ret
  exact ⟨⟨x, s, rfl, HX.out⟩, HS1.out⟩

set_option maxRecDepth 100000 in
theorem tok_end_none {nm : ByteArray} (h : SA K w0 q b p g T [] np false W) (h0 : 0 < nm.size) :
    Calls Tryz.prog 23 #[.pointer (some ⟨g, 0, none⟩), .iface 84 (.agg #[.string ⟨#[]⟩, .string nm])] W fun e W' => Err w0 e W' ∧ SA K w0 q b p g T [] np false W' := by
  have H := Aside0.mk h
  have t1 := is84
  have t2 := no84_80
  clear h
  go_enter Tryz.func23, Tryz.ntmps23
  go_wp2_with fail
  have HA := Aside0.mk (H.out.alloc (.cells #[.string ⟨#[]⟩, .string nm] 84))
  with_reducible refine (sa_end_none HA.out h0).mono ?_
  rintro e w1 ⟨⟨x, s, rfl, hx1, hx2⟩, hw⟩
  have HS1 := Aside0.mk hw
  have HX := Aside0.mk (And.intro hx1 hx2)
  clear hw hx1 hx2
  go_wp2_with fail
  go_ret
  exact ⟨⟨x, s, rfl, HX.out⟩, HS1.out⟩

set_option maxRecDepth 100000 in
theorem tok_text (h : SA K w0 q b p g T tags np false W) (G : Glob K w0) (s : ByteArray) (b1 c : Nat) (hs : SrcS K w0 s b1 c) (hl : T + 6 * s.size ≤ 70368744177664) :
    Calls Tryz.prog 23 #[.pointer (some ⟨g, 0, none⟩), .iface 85 (.slice (some ⟨b1, 0, none⟩) s.size c)] W fun e W' => e = .returned .nilIface ∧ SA K w0 q b p g (T + 6 * s.size) tags np false W' := by
  have H := Aside0.mk h
  have HG := Aside0.mk G
  have HS := Aside0.mk hs
  have t1 := is85
  have t2 := no85_80
  have t3 := no85_84
  clear h G hs
  go_enter Tryz.func23, Tryz.ntmps23
  go_wp2_with fail
  with_reducible refine (esct_any H.out HG.out s b1 c HS.out hl).mono ?_
  rintro e w1 ⟨rfl, hw⟩
  have HS1 := Aside0.mk hw
  clear hw
  go_wp2_with fail
  with_reducible refine (sa_cached HS1.out hl).mono ?_
  rintro e w2 ⟨rfl, hw⟩
  have HS2 := Aside0.mk hw
  clear hw
  go_wp2_with fail
  go_ret
  exact ⟨rfl, HS2.out⟩

theorem SrcS.whole {s : ByteArray} {b1 c : Nat} (hs : SrcS K w0 s b1 c) : Src K w0 (some ⟨b1, 0, none⟩) s.size c := ⟨hs.le, _, hs.src, fun ad e _ => by injection e with e; subst e; exact hs.k⟩

theorem lit_reads (W : World) (t : ByteArray) (cs : Array Value) (fr : Nat × Nat) (h : cs.toList = nums .u8 (bytesOf t)) (hs : t.size ≤ 9223372036854775807) : ReadsInt (W.alloc (.cells cs 5 fr)) .u8 (some ⟨W.heap.size, 0, none⟩) t.size (bytesOf t) := by
  refine ⟨bytesOf_length t, hs, fun _ => ⟨_, rfl, fun j hj => ?_⟩⟩
  rw [add_plain, show (W.alloc (.cells cs 5 fr)).cell? ⟨W.heap.size, j, none⟩ = cs[j]? by unfold World.cell?; simp only [heap_alloc_new]; rfl, ← Array.getElem?_toList, h]
  have hl : j < (bytesOf t).length := by rw [bytesOf_length]; exact hj
  simp [nums, List.getD_eq_getElem?_getD, hl]

set_option maxRecDepth 100000 in
theorem tok_comment (h : SA K w0 q b p g T tags np false W) (s : ByteArray) (b1 c : Nat) (hs : SrcS K w0 s b1 c) (hsz : s.size ≤ 1099511627776) (hno : Nowhere s ⟨#[45, 45, 62]⟩) (hl : T + 7 + s.size ≤ 70368744177664) :
    Calls Tryz.prog 23 #[.pointer (some ⟨g, 0, none⟩), .iface 86 (.slice (some ⟨b1, 0, none⟩) s.size c)] W fun e W' => e = .returned .nilIface ∧ SA K w0 q b p g (T + 7 + s.size) tags np false W' := by
  have H := Aside0.mk h
  have HS := Aside0.mk hs
  have HN := Aside0.mk hno
  have t1 := is86
  have t2 := no86_80
  have t3 := no86_84
  have t4 := no86_85
  have t5 : (convert 41 41 (.slice (some ⟨W.heap.size, 0, none⟩) 3 3)).run Tryz.prog (W.alloc (.cells #[.int .u8 45, .int .u8 45, .int .u8 62] 5)) = .ok (.slice (some ⟨W.heap.size, 0, none⟩) 3 3) (W.alloc (.cells #[.int .u8 45, .int .u8 45, .int .u8 62] 5 (3, 4))) := run_convert_bytes_const W 41 5 #[.int .u8 45, .int .u8 45, .int .u8 62] 3 3 Tryz.underlying41 Tryz.underlying5
  clear h hs hno
  go_enter Tryz.func23, Tryz.ntmps23
  go_wp2_with fail
  have HA := Aside0.mk (H.out.alloc (.cells #[.int .u8 45, .int .u8 45, .int .u8 62] 5 (3, 4)))
  have HL := Aside0.mk (lit_reads W (⟨#[45, 45, 62]⟩ : ByteArray) #[.int .u8 45, .int .u8 45, .int .u8 62] (3, 4) rfl (by decide))
  have HR := Aside0.mk (HS.out.at_ HA.out.ks)
  clear t5
  generalize W.alloc (.cells #[.int .u8 45, .int .u8 45, .int .u8 62] 5 (3, 4)) = W1 at HA HL HR ⊢
  refine (contains_none s (⟨#[45, 45, 62]⟩ : ByteArray) b1 W.heap.size c 3 W1 hsz (by decide) HR.out HS.out.le HL.out HN.out).mono ?_
  rintro e w1 ⟨rfl, hd⟩
  have HS1 := Aside0.mk (HA.out.drawn hd)
  clear hd
  go_wp2_with fail
  with_reducible refine (sa_string HS1.out _ ?_).mono ?_
  · exact Nat.le_trans (Nat.add_le_add_left (show _ ≤ 4 by decide) _) (by omega)
  rintro e w2 ⟨_, rfl, hw⟩
  have HS2 := Aside0.mk (hw.mono (show _ ≤ T + 4 from Nat.add_le_add_left (show _ ≤ 4 by decide) _))
  clear hw
  go_wp2_with fail
  with_reducible refine (sa_bytes HS2.out HS.out.whole (by omega)).mono ?_
  rintro e w3 ⟨_, rfl, hw⟩
  have HS3 := Aside0.mk hw
  clear hw
  go_wp2_with fail
  with_reducible refine (sa_string HS3.out _ ?_).mono ?_
  · exact Nat.le_trans (Nat.add_le_add_left (show _ ≤ 3 by decide) _) (by omega)
  rintro e w4 ⟨_, rfl, hw⟩
  have HS4 := Aside0.mk (hw.mono (show _ ≤ T + 7 + s.size from Nat.le_trans (Nat.add_le_add_left (show _ ≤ 3 by decide) _) (by omega)))
  clear hw
  go_wp2_with fail
  with_reducible refine (sa_cached HS4.out hl).mono ?_
  rintro e w5 ⟨rfl, hw⟩
  have HS5 := Aside0.mk hw
  clear hw
  go_wp2_with fail
  go_ret
  exact ⟨rfl, HS5.out⟩

set_option maxHeartbeats 2000000 in
set_option maxRecDepth 100000 in
theorem tok_proc (h : SA K w0 q b p g T tags np false W) (G : Glob K w0) (nm s : ByteArray) (b1 c : Nat) (hs : SrcS K w0 s b1 c) (hsz : s.size ≤ 1099511627776) (hnz : nm.size ≤ 1099511627776) (hok : IsWalk.okFrom nm nm.size 0) (hnm : IsWalk.nameOf nm = true) (hx : nm.toList ≠ [120, 109, 108])
    (hno : Nowhere s ⟨#[63, 62]⟩) (hl : T + 5 + nm.size + s.size ≤ 70368744177664) :
    Calls Tryz.prog 23 #[.pointer (some ⟨g, 0, none⟩), .iface 88 (.agg #[.string nm, .slice (some ⟨b1, 0, none⟩) s.size c])] W fun e W' => e = .returned .nilIface ∧ SA K w0 q b p g (T + 5 + nm.size + s.size) tags np false W' := by
  have H := Aside0.mk h
  have HG := Aside0.mk G
  have HS := Aside0.mk hs
  have HN := Aside0.mk hno
  have HOK := Aside0.mk hok
  have HNM := Aside0.mk hnm
  have t1 := is88
  have t2 := no88_80
  have t3 := no88_84
  have t4 := no88_85
  have t5 := no88_86
  have hx1 : (nm.toList == [120, 109, 108]) = false := beq_eq_false_iff_ne.2 hx
  clear h G hs hno hok hnm hx
  go_enter Tryz.func23, Tryz.ntmps23
  go_wp2_with fail
  have hbl := below_alloc (Below.refl W.heap.size W) (.cells #[.string nm, .slice (some ⟨b1, 0, none⟩) s.size c] 88)
  have HKS := Aside0.mk (H.out.below hbl).ks
  have HF := Aside0.mk (H.out.box (.cells #[.string nm, .slice (some ⟨b1, 0, none⟩) s.size c] 88))
  have HGF := Aside0.mk (HG.out.at_ HKS.out (fun j => j = W.heap.size))
  have HSF := Aside0.mk (show SrcS (fun i => K i ∨ i = W.heap.size) (W.alloc (.cells #[.string nm, .slice (some ⟨b1, 0, none⟩) s.size c] 88)) s b1 c from ⟨.inl HS.out.k, HS.out.le, HS.out.at_ HKS.out⟩)
  have HB := Aside0.mk (blk_new W (.cells #[.string nm, .slice (some ⟨b1, 0, none⟩) s.size c] 88))
  clear hbl
  generalize W.alloc (.cells #[.string nm, .slice (some ⟨b1, 0, none⟩) s.size c] 88) = W1 at HKS HF HGF HSF HB ⊢
  generalize W.heap.size = B at HF HGF HSF HB ⊢
  with_reducible refine (IsWalk.name_any nm _ hnz HOK.out (HGF.out.tabs_at HF.out.ks)).mono ?_
  rw [HNM.out]
  rintro e w1 ⟨rfl, hb⟩
  have HS1 := Aside0.mk (HF.out.below hb)
  have hb1 := HS1.out.ks.blk (.inr rfl) HB.out
  have c1 : w1.cell? ⟨B, 1, none⟩ = some (.slice (some ⟨b1, 0, none⟩) s.size c) := blk_cell hb1 1
  clear hb hb1
  have t6 : (convert 41 41 (.slice (some ⟨w1.heap.size, 0, none⟩) 2 2)).run Tryz.prog (w1.alloc (.cells #[.int .u8 63, .int .u8 62] 5)) = .ok (.slice (some ⟨w1.heap.size, 0, none⟩) 2 2) (w1.alloc (.cells #[.int .u8 63, .int .u8 62] 5 (2, 3))) := run_convert_bytes_const w1 41 5 #[.int .u8 63, .int .u8 62] 2 2 Tryz.underlying41 Tryz.underlying5
  go_wp2_with fail
  have HA := Aside0.mk (HS1.out.alloc (.cells #[.int .u8 63, .int .u8 62] 5 (2, 3)))
  have HL := Aside0.mk (lit_reads w1 (⟨#[63, 62]⟩ : ByteArray) #[.int .u8 63, .int .u8 62] (2, 3) rfl (by decide))
  have HR := Aside0.mk (HSF.out.at_ HA.out.ks)
  clear c1 t6
  generalize w1.alloc (.cells #[.int .u8 63, .int .u8 62] 5 (2, 3)) = W2 at HA HL HR ⊢
  refine (contains_none s (⟨#[63, 62]⟩ : ByteArray) b1 w1.heap.size c 2 W2 hsz (by decide) HR.out HS.out.le HL.out HN.out).mono ?_
  rintro e w2 ⟨rfl, hd⟩
  have HS2 := Aside0.mk (HA.out.drawn hd)
  clear hd
  go_wp2_with fail
  with_reducible refine (sa_string HS2.out _ ?_).mono ?_
  · exact Nat.le_trans (Nat.add_le_add_left (show _ ≤ 2 by decide) _) (by omega)
  rintro e w3 ⟨_, rfl, hw⟩
  have HS3 := Aside0.mk (hw.mono (show _ ≤ T + 2 from Nat.add_le_add_left (show _ ≤ 2 by decide) _))
  have hb3 := hw.ks.blk (.inr rfl) HB.out
  have c0 : w3.cell? ⟨B, 0, none⟩ = some (.string nm) := blk_cell hb3 0
  clear hw hb3
  go_wp2_with fail
  with_reducible refine (sa_string HS3.out nm (by omega)).mono ?_
  rintro e w4 ⟨_, rfl, hw⟩
  have HS4 := Aside0.mk hw
  have hb4 := hw.ks.blk (.inr rfl) HB.out
  have c1 : w4.cell? ⟨B, 1, none⟩ = some (.slice (some ⟨b1, 0, none⟩) s.size c) := blk_cell hb4 1
  clear hw hb4 c0
  by_cases h0 : s.size = 0
  · have hq : decide ((0 : Int) < (s.size : Int)) = false := decide_eq_false (by omega)
    go_wp2_with fail
    with_reducible refine (sa_string HS4.out _ ?_).mono ?_
    · exact Nat.le_trans (Nat.add_le_add_left (show _ ≤ 2 by decide) _) (by omega)
    rintro e w5 ⟨_, rfl, hw⟩
    have HS5 := Aside0.mk ((hw.back HKS.out).mono (show _ ≤ T + 5 + nm.size + s.size from Nat.le_trans (Nat.add_le_add_left (show _ ≤ 2 by decide) _) (by omega)))
    clear hw
    go_wp2_with fail
    with_reducible refine (sa_cached HS5.out hl).mono ?_
    rintro e w6 ⟨rfl, hw⟩
    have HS6 := Aside0.mk hw
    clear hw
    go_wp2_with fail
    go_ret
    exact ⟨rfl, HS6.out⟩
  · have hq : decide ((0 : Int) < (s.size : Int)) = true := decide_eq_true (by omega)
    go_wp2_with fail
    with_reducible refine (sa_byte HS4.out 32 (by omega)).mono ?_
    rintro e w5 ⟨rfl, hw⟩
    have HS5 := Aside0.mk hw
    have hb5 := hw.ks.blk (.inr rfl) HB.out
    have d1 : w5.cell? ⟨B, 1, none⟩ = some (.slice (some ⟨b1, 0, none⟩) s.size c) := blk_cell hb5 1
    clear hw hb5 c1
    go_wp2_with fail
    with_reducible refine (sa_bytes HS5.out HSF.out.whole (by omega)).mono ?_
    rintro e w6 ⟨_, rfl, hw⟩
    have HS6 := Aside0.mk hw
    clear hw d1
    go_wp2_with fail
    with_reducible refine (sa_string HS6.out _ ?_).mono ?_
    · exact Nat.le_trans (Nat.add_le_add_left (show _ ≤ 2 by decide) _) (by omega)
    rintro e w7 ⟨_, rfl, hw⟩
    have HS7 := Aside0.mk ((hw.back HKS.out).mono (show _ ≤ T + 5 + nm.size + s.size from Nat.le_trans (Nat.add_le_add_left (show _ ≤ 2 by decide) _) (by omega)))
    clear hw
    go_wp2_with fail
    with_reducible refine (sa_cached HS7.out hl).mono ?_
    rintro e w8 ⟨rfl, hw⟩
    have HS8 := Aside0.mk hw
    clear hw
    go_wp2_with fail
    go_ret
    exact ⟨rfl, HS8.out⟩

end
end Go.Proofs.YtjoahpmalhmjkaaGreatDoor.EncSt
