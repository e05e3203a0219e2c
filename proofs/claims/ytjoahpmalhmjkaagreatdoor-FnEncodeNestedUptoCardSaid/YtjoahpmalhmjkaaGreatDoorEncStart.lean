/- What is proved here: the printer's writeStart writes a start element without name spaces, and keeps the encoder's state; conditions: those that each theorem names. -/
import Derived.Test.YtjoahpmalhmjkaaGreatDoorEncEscT
namespace Go.Proofs.YtjoahpmalhmjkaaGreatDoor.EncSt
open Go.RowKit Go.Proofs.YtjoahpmalhmjkaaGreatDoorW.PrintWords Go.Proofs.YtjoahpmalhmjkaaGreatDoorW.PrintLast Go.Proofs.YtjoahpmalhmjkaaGreatDoorW.PrintMore Go.Lib
open Go.Proofs.YtjoahpmalhmjkaaGreatDoor.EscPure
set_option linter.unusedVariables false
set_option linter.unusedSimpArgs false

/-- A start element's attributes, as they lie: no name space; names and values ps. -/
def Attrs (K : Nat → Prop) (w0 : World) (A : Option Addr) (n c : Nat) (ps : List (ByteArray × ByteArray)) : Prop :=
  ps.length = n ∧ n ≤ c ∧ (0 < n → ∃ x, A = some ⟨x, 0, none⟩ ∧ K x ∧ ∀ (j : Nat) (p : ByteArray × ByteArray), ps[j]? = some p → 0 < p.1.size ∧ w0.cell? ⟨x, j * 3, none⟩ = some (.string ⟨#[]⟩) ∧ w0.cell? ⟨x, j * 3 + 1, none⟩ = some (.string p.1) ∧ w0.cell? ⟨x, j * 3 + 2, none⟩ = some (.string p.2))

def cost (ps : List (ByteArray × ByteArray)) : Nat := (ps.map fun p => 4 + p.1.size + 6 * p.2.size).sum
theorem cost_take (ps : List (ByteArray × ByteArray)) (j : Nat) (p : ByteArray × ByteArray) (h : ps[j]? = some p) : cost (ps.take (j + 1)) = cost (ps.take j) + (4 + p.1.size + 6 * p.2.size) := by
  unfold cost
  have hl : j < ps.length := (List.getElem?_eq_some_iff.1 h).1
  rw [List.take_succ_eq_append_getElem hl, List.map_append, List.sum_append]
  have : ps[j] = p := (List.getElem?_eq_some_iff.1 h).2
  rw [this]
  simp
theorem cost_le (ps : List (ByteArray × ByteArray)) (j : Nat) : cost (ps.take j) ≤ cost ps := by
  unfold cost
  have h : ps = ps.take j ++ ps.drop j := (List.take_append_drop j ps).symm
  have h2 : (ps.map fun p => 4 + p.1.size + 6 * p.2.size).sum = ((ps.take j).map fun p => 4 + p.1.size + 6 * p.2.size).sum + ((ps.drop j).map fun p => 4 + p.1.size + 6 * p.2.size).sum := by
    rw [← List.sum_append, ← List.map_append, List.take_append_drop]
  omega

section
variable {K : Nat → Prop} {w0 W W' : World} {q b p g T : Nat} {tags : List ByteArray} {np : Nat} {cl : Bool}

/-- The names' row, one name more. -/
theorem St.pushT {k n : Nat} {va vp vt : Value} (h : St K w0 q b p g k n va vp vt tags np cl W) {W1 : World} {nm : ByteArray} (hg : W.grownBy W1 vt.ownBlock) {vt1 : Value} (ho1 : W1.ownsRow 0 77 2 vt1 (tags.length + 1) (tagCells tags ++ [.string ⟨#[]⟩, .string nm])) (hat : vt1.ownBlock = vt.ownBlock ∨ ∃ x, vt1.ownBlock = some x ∧ W.heap.size ≤ x) :
    St K w0 q b p g k n va vp vt1 (tags ++ [nm]) np cl (W1.setCell ⟨g, 11, none⟩ vt1) := by
  refine St.putT h hg (tags1 := tags ++ [nm]) ?_ hat
  rw [List.length_append, List.length_singleton]
  have e2 : tagCells (tags ++ [nm]) = tagCells tags ++ [.string ⟨#[]⟩, .string nm] := by
    unfold tagCells
    rw [List.flatMap_append]
    rfl
  rw [e2]
  exact ho1

set_option maxHeartbeats 8000000 in
set_option maxRecDepth 100000 in
theorem start_any (h : SA K w0 q b p g T tags np false W) (G : Glob K w0) {B n c : Nat} {A : Option Addr} {nm : ByteArray} {ps : List (ByteArray × ByteArray)} (hB : w0.heap[B]? = some (.cells #[.string ⟨#[]⟩, .string nm, .slice A n c] 80 (0, 0))) (hK : K B) (hA : Attrs K w0 A n c ps)
    (h0 : 0 < nm.size) (hn : np ≤ 4294967296) (ht : tags.length ≤ 4294967296) (hps : n ≤ 4294967296) (hl : T + 2 + nm.size + cost ps ≤ 70368744177664) :
    Calls Tryz.prog 34 #[.pointer (some ⟨g, 0, none⟩), .pointer (some ⟨B, 0, none⟩)] W fun e W' => e = .returned .nilIface ∧ SA K w0 q b p g (T + 2 + nm.size + cost ps) (tags ++ [nm]) (np + 1) false W' := by
  obtain ⟨t, h1, k, n1, va, vp, vt, hk, h2⟩ := h
  obtain ⟨A0, c0, rfl⟩ := own_slice h2.tg
  have H := Aside0.mk h2
  have HD := Aside0.mk h2.drew
  have HG := Aside0.mk G
  have HB := Aside0.mk hB
  have HK := Aside0.mk hK
  have HA := Aside0.mk hA
  have g11 := h2.g11
  have gf := h2.gf
  have hb := h2.ks.blk hK hB
  have b0 : W.cell? ⟨B, 0, none⟩ = some (.string ⟨#[]⟩) := blk_cell hb 0
  have b1 : W.cell? ⟨B, 1, none⟩ = some (.string nm) := blk_cell hb 1
  have hgB : g ≠ B := fun e => (h2.ks.off B hK).2.2.2 e.symm
  have hBl : B < W.heap.size := blk_lt hb
  have hgl : g < W.heap.size := blk_lt h2.gb
  have hA11 : ∀ o, (W.alloc o).cell? ⟨g, 11, none⟩ = some (.slice A0 tags.length c0) := fun o => (World.cell?_of_block (Below.heap_alloc W o g hgl)).trans g11
  have hne : (nm.toList == ([] : List UInt8)) = false := beq_eq_false_iff_ne.2 (ne_toList h0)
  have hnb : nm.toList.isEmpty = false := List.isEmpty_eq_false_iff.2 (ne_toList h0)
  clear h2 G hB hK hA hb
  go_enter Tryz.func34, Tryz.ntmps34
  go_wp2
  go_region_law (refine step_append_cells (w0 := W.drew) 0 rfl (.tmp 19) (.tmp 24) 71 77 (.agg #[.string ⟨#[]⟩, .string ⟨#[]⟩]) 2 32 rfl Tryz.underlying71 (by kernel_rfl) rfl (by decide) (by decide) (.slice A0 tags.length c0) tags.length (tagCells tags) [.string ⟨#[]⟩, .string nm] (by simp [Act.eval, Act.put]) (by simp [Act.eval, Act.put]) rfl (by intro u hu; simp at hu; rcases hu with rfl | rfl <;> rfl) HD.out.tg (Below.refl _ _) (Nat.zero_le _) (by omega) ?_; intro v1 w1 hown hbel hgr hat; obtain ⟨A1, c1, rfl⟩ := own_slice hown; have HS := Aside0.mk (St.pushT HD.out hgr hown hat); have hb1 := (Only.grown hgr).blk HD.out.gb (fun e => row_ne HD.out.tg HD.out.gb (by decide) _ e rfl); have hc1 : w1.cell? ⟨g, 11, none⟩ = some (.slice A0 tags.length c0) := blk_cell hb1 11; have hf1 := blk_frozen hb1 11; clear hown hbel hgr hat hb1)
  all_goals
    have HS2 := Aside0.mk (show SA K w0 q b p g T (tags ++ [nm]) np false _ from ⟨t, h1, k, n1, va, vp, _, hk, HS.out⟩)
    clear b0 b1 hc1 hf1 hA11 g11 gf
    generalize w1.setCell ⟨g, 11, none⟩ (.slice A1 (tags.length + 1) c1) = W2 at HS2 ⊢
    go_wp2_with fail
    with_reducible refine (sa_mark HS2.out hn).mono ?_
    rintro e w3 ⟨rfl, hw⟩
    have HS3 := Aside0.mk hw
    clear hw
    go_wp2_with fail
    with_reducible refine (sa_indent HS3.out _).mono ?_
    rintro e w4 ⟨rfl, hw⟩
    have HS4 := Aside0.mk hw
    clear hw
    go_wp2_with fail
    with_reducible refine (sa_byte HS4.out 60 (by omega)).mono ?_
    rintro e w5 ⟨rfl, hw⟩
    have HS5 := Aside0.mk hw
    have hb5 := hw.ks.blk HK.out HB.out
    have b1 : w5.cell? ⟨B, 1, none⟩ = some (.string nm) := blk_cell hb5 1
    clear hw hb5
    go_wp2_with fail
    with_reducible refine (sa_string HS5.out nm (by omega)).mono ?_
    rintro e w6 ⟨_, rfl, hw⟩
    have HS6 := Aside0.mk hw
    have hb6 := hw.ks.blk HK.out HB.out
    have b0 : w6.cell? ⟨B, 0, none⟩ = some (.string ⟨#[]⟩) := blk_cell hb6 0
    have b2 : w6.cell? ⟨B, 2, none⟩ = some (.slice A n c) := blk_cell hb6 2
    clear hw hb6 b1
    go_wp2_with fail
    go_loopw [63] (fun v63 W1 => ∃ i : Nat, v63 = .int .i64 (i : Int) ∧ i ≤ n ∧ Aside0 (SA K w0 q b p g (T + 1 + nm.size + cost (ps.take i)) (tags ++ [nm]) (np + 1) false W1)) (fun v63 _ => n - (RowKit.intOf v63).toNat)
    case atStart => exact ⟨0, rfl, Nat.zero_le _, ⟨by simpa [cost] using HS6.out⟩⟩
    case round =>
      obtain ⟨i, rfl, hi, HW⟩ := hrel
      clear HS2 HS3 HS4 HS5 HS6 HS HD H
      by_cases hlt : i < n
      · obtain ⟨hpl, hnc, hrow⟩ := HA.out
        obtain ⟨x, rfl, hxK, hcells⟩ := hrow (by omega)
        obtain ⟨pr, hpr⟩ : ∃ pr, ps[i]? = some pr := ⟨_, List.getElem?_eq_getElem (by omega)⟩
        obtain ⟨hp0, c0, c1, c2⟩ := hcells i pr hpr
        have hne1 : (pr.1.toList == ([] : List UInt8)) = false := beq_eq_false_iff_ne.2 (ne_toList hp0)
        have hnb1 : pr.1.toList.isEmpty = false := List.isEmpty_eq_false_iff.2 (ne_toList hp0)
        have hct := cost_take ps i pr hpr
        have hcl := cost_le ps (i + 1)
        have x0 := (HW.out.ks.cell (a := ⟨x, i * 3, none⟩) hxK).trans c0
        have x1 := (HW.out.ks.cell (a := ⟨x, i * 3 + 1, none⟩) hxK).trans c1
        have x2 := (HW.out.ks.cell (a := ⟨x, i * 3 + 2, none⟩) hxK).trans c2
        clear hcells hrow c0 c1 c2
        go_wp2_with fail
        have hbl := below_alloc (below_alloc (Below.refl wr.heap.size wr) (.cells #[.string ⟨#[]⟩, .string pr.1, .string pr.2] 82)) (.cells #[.string ⟨#[]⟩, .string pr.1] 77)
        have HF := Aside0.mk (HW.out.fresh hbl)
        have HKS := Aside0.mk (HW.out.below hbl).ks
        have HGF := Aside0.mk (HG.out.at_ HKS.out (fun j => wr.heap.size ≤ j ∧ j < ((wr.alloc (.cells #[.string ⟨#[]⟩, .string pr.1, .string pr.2] 82)).alloc (.cells #[.string ⟨#[]⟩, .string pr.1] 77)).heap.size))
        have HD0 := Aside0.mk (show ((wr.alloc (.cells #[.string ⟨#[]⟩, .string pr.1, .string pr.2] 82)).alloc (.cells #[.string ⟨#[]⟩, .string pr.1] 77)).heap[wr.heap.size]? = some (.cells #[.string ⟨#[]⟩, .string pr.1, .string pr.2] 82 (0, 0)) from blk_alloc (blk_new wr _) _)
        have HD1 := Aside0.mk (show ((wr.alloc (.cells #[.string ⟨#[]⟩, .string pr.1, .string pr.2] 82)).alloc (.cells #[.string ⟨#[]⟩, .string pr.1] 77)).heap[wr.heap.size + 1]? = some (.cells #[.string ⟨#[]⟩, .string pr.1] 77 (0, 0)) by have := blk_new (wr.alloc (.cells #[.string ⟨#[]⟩, .string pr.1, .string pr.2] 82)) (.cells #[.string ⟨#[]⟩, .string pr.1] 77); simpa using this)
        have hk0 : wr.heap.size ≤ wr.heap.size ∧ wr.heap.size < ((wr.alloc (.cells #[.string ⟨#[]⟩, .string pr.1, .string pr.2] 82)).alloc (.cells #[.string ⟨#[]⟩, .string pr.1] 77)).heap.size := ⟨Nat.le_refl _, blk_lt HD0.out⟩
        have hk1 : wr.heap.size ≤ wr.heap.size + 1 ∧ wr.heap.size + 1 < ((wr.alloc (.cells #[.string ⟨#[]⟩, .string pr.1, .string pr.2] 82)).alloc (.cells #[.string ⟨#[]⟩, .string pr.1] 77)).heap.size := ⟨Nat.le_succ _, blk_lt HD1.out⟩
        clear hbl x0 x1 x2 HW
        generalize (wr.alloc (.cells #[.string ⟨#[]⟩, .string pr.1, .string pr.2] 82)).alloc (.cells #[.string ⟨#[]⟩, .string pr.1] 77) = W7 at HF HKS HGF HD0 HD1 hk0 hk1 ⊢
        have HK0 := Aside0.mk hk0
        have HK1 := Aside0.mk hk1
        clear hk0 hk1
        generalize wr.heap.size = D at HF HKS HGF HD0 HD1 HK0 HK1 ⊢
        with_reducible refine (sa_byte HF.out 32 (by omega)).mono ?_
        rintro e w8 ⟨rfl, hw⟩
        have HS8 := Aside0.mk hw
        have hd1 := hw.ks.blk (.inr HK1.out) HD1.out
        have d0 : w8.cell? ⟨D + 1, 0, none⟩ = some (.string ⟨#[]⟩) := blk_cell hd1 0
        have d1 : w8.cell? ⟨D + 1, 1, none⟩ = some (.string pr.1) := blk_cell hd1 1
        clear hw hd1
        go_wp2_with fail
        with_reducible refine (sa_string HS8.out pr.1 (by omega)).mono ?_
        rintro e w9 ⟨_, rfl, hw⟩
        have HS9 := Aside0.mk hw
        clear hw d0 d1
        go_wp2_with fail
        with_reducible refine (sa_string HS9.out _ ?_).mono ?_
        · exact Nat.le_trans (Nat.add_le_add_left (show _ ≤ 2 by decide) _) (by omega)
        rintro e w10 ⟨_, rfl, hw⟩
        have HS10 := Aside0.mk (hw.mono (show _ ≤ T + 1 + nm.size + cost (ps.take i) + 1 + pr.1.size + 2 from Nat.add_le_add_left (show _ ≤ 2 by decide) _))
        have hd0 := hw.ks.blk (.inr HK0.out) HD0.out
        have d2 : w10.cell? ⟨D, 2, none⟩ = some (.string pr.2) := blk_cell hd0 2
        clear hw hd0
        go_wp2_with fail
        with_reducible refine (escs_any HS10.out HGF.out pr.2 (by omega)).mono ?_
        rintro e w11 ⟨rfl, hw⟩
        have HS11 := Aside0.mk hw
        clear hw d2
        go_wp2_with fail
        with_reducible refine (sa_byte HS11.out 34 (by omega)).mono ?_
        rintro e w12 ⟨rfl, hw⟩
        have HS12 := Aside0.mk ((hw.back HKS.out).mono (show _ ≤ T + 1 + nm.size + cost (ps.take (i + 1)) by omega))
        clear hw
        go_wp2_with fail
        go_roundw
        case rel =>
          go_light
          exact ⟨i + 1, by go_num, by omega, HS12⟩
        case measure =>
          go_light
          simp [RowKit.intOf]
          omega
      · obtain rfl : i = n := by omega
        have hct : cost (ps.take i) = cost ps := by rw [List.take_of_length_le (by have := HA.out.1; omega)]
        go_wp2_with fail
        with_reducible refine (sa_byte HW.out 62 (by have := cost_le ps i; omega)).mono ?_
        rintro e w8 ⟨rfl, hw⟩
        have HS8 := Aside0.mk (hw.mono (show _ ≤ T + 2 + nm.size + cost ps by omega))
        clear hw
        go_wp2_with fail
        go_ret
        exact ⟨rfl, HS8.out⟩

end
end Go.Proofs.YtjoahpmalhmjkaaGreatDoor.EncSt
