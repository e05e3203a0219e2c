/- What is proved here: the walks of the reference's attributes, verbatim, holds, reserved, isSpace; no condition. Made by wip/tools/enctexts.py out of a printed text. -/
import Derived.Test.YtjoahpmalhmjkaaGreatDoorPFnEncodeNestedx0
import Derived.Test.YtjoahpmalhmjkaaGreatDoorEncX4
namespace Go.Proofs.YtjoahpmalhmjkaaGreatDoor.PFnEncodeNested
open Go.RowKit Go.Proofs.YtjoahpmalhmjkaaGreatDoorW.PrintWords Go.Proofs.YtjoahpmalhmjkaaGreatDoorW.PrintLast Go.Proofs.YtjoahpmalhmjkaaGreatDoorW.PrintMore
attribute [local go_sem] max2_int min2_int max_two min_two max_three min_three max_four min_four   -- for this text's walks alone
set_option linter.unusedVariables false
set_option linter.unusedSimpArgs false

/-! ### spec_attributes: function 12 -/
mutual
def spec_attributes.l0 : Nat → List (S59) → Bool → List (S59) → Int → Int → Option (Bool)
  | 0, _, _, _, _, _ => none
  | k + 1, x0, x1, x9, x10, x11 => if x11 < x10 then (if 0 ≤ x11 then (if x11 < (x9.length : Int) then ((spec_named.f k ((rd_T59 x9 x11).f0) ((rd_T59 x9 x11).f1) x1 false).bind fun t125 => (if t125 = true then ((spec_Chars.f k ((rd_T59 x9 x11).f2)).bind fun t126 => (spec_attributes.j1 k x0 x1 x11 x9 x10 x11 (!t126) ((rd_T59 x9 x11).f0) ((rd_T59 x9 x11).f1) ((rd_T59 x9 x11).f2))) else (spec_attributes.j1 k x0 x1 x11 x9 x10 x11 true ((rd_T59 x9 x11).f0) ((rd_T59 x9 x11).f1) ((rd_T59 x9 x11).f2)))) else (none)) else (none)) else (some true)
def spec_attributes.j1 : Nat → List (S59) → Bool → Int → List (S59) → Int → Int → Bool → ByteArray → ByteArray → ByteArray → Option (Bool)
  | 0, _, _, _, _, _, _, _, _, _, _ => none
  | k + 1, x0, x1, x5, x9, x10, x11, x28, x125000, x125001, x125002 => if x28 = true then (some false) else (if 0 ≤ x5 then (if x5 ≤ (x0.length : Int) then ((some (x0.take (x5 : Int).toNat : List (S59))).bind fun y127 => (spec_attributes.l1 k x0 x1 x9 x10 x11 y127 (y127.length : Int) 0 x125000 x125001 x125002)) else (none)) else (none))
def spec_attributes.l1 : Nat → List (S59) → Bool → List (S59) → Int → Int → List (S59) → Int → Int → ByteArray → ByteArray → ByteArray → Option (Bool)
  | 0, _, _, _, _, _, _, _, _, _, _, _ => none
  | k + 1, x0, x1, x9, x10, x11, x31, x32, x33, x125000, x125001, x125002 => if x33 < x32 then (if 0 ≤ x33 then (if x33 < (x31.length : Int) then (if x125000.toList = ((rd_T59 x31 x33).f0).toList then (if x125001.toList = ((rd_T59 x31 x33).f1).toList then (some false) else (spec_attributes.l1 k x0 x1 x9 x10 x11 x31 x32 (wrap64 (x33 + 1)) x125000 x125001 x125002)) else (spec_attributes.l1 k x0 x1 x9 x10 x11 x31 x32 (wrap64 (x33 + 1)) x125000 x125001 x125002)) else (none)) else (none)) else (spec_attributes.l0 k x0 x1 x9 x10 (wrap64 (x11 + 1)))
end
def spec_attributes.f (k : Nat) (l0 : List (S59)) (a1 : Bool) : Option (Bool) := spec_attributes.l0 k l0 a1 l0 (l0.length : Int) 0
theorem spec_attributes.mono_l : ∀ k, (∀ y0 y1 y2 y3 y4, LeO (spec_attributes.l0 k y0 y1 y2 y3 y4) (spec_attributes.l0 (k + 1) y0 y1 y2 y3 y4)) ∧ (∀ y0 y1 y2 y3 y4 y5 y6 y7 y8 y9, LeO (spec_attributes.j1 k y0 y1 y2 y3 y4 y5 y6 y7 y8 y9) (spec_attributes.j1 (k + 1) y0 y1 y2 y3 y4 y5 y6 y7 y8 y9)) ∧ (∀ y0 y1 y2 y3 y4 y5 y6 y7 y8 y9 y10, LeO (spec_attributes.l1 k y0 y1 y2 y3 y4 y5 y6 y7 y8 y9 y10) (spec_attributes.l1 (k + 1) y0 y1 y2 y3 y4 y5 y6 y7 y8 y9 y10))
  | 0 => ⟨fun _ _ _ _ _ r h => by simp [spec_attributes.l0] at h, fun _ _ _ _ _ _ _ _ _ _ r h => by simp [spec_attributes.j1] at h, fun _ _ _ _ _ _ _ _ _ _ _ r h => by simp [spec_attributes.l1] at h⟩
  | k + 1 => by
    obtain ⟨ih0, ih1, ih2⟩ := spec_attributes.mono_l k
    refine ⟨?_, ?_, ?_⟩
    · intro y0 y1 y2 y3 y4
      unfold spec_attributes.l0
      repeat' first
      | (with_reducible exact ih0 _ _ _ _ _)
      | (with_reducible exact ih1 _ _ _ _ _ _ _ _ _ _)
      | (with_reducible exact ih2 _ _ _ _ _ _ _ _ _ _ _)
      | (with_reducible exact spec_Chars.mono _ _)
      | (with_reducible exact spec_named.mono _ _ _ _ _)
      | (with_reducible exact LeO.refl _)
      | (with_reducible exact LeO.none _)
      | (with_reducible refine LeO.ite ?_ ?_)
      | (with_reducible refine LeO.bind ?_ (fun _ => ?_))
      | exact ih0 _ _ _ _ _
      | exact ih1 _ _ _ _ _ _ _ _ _ _
      | exact ih2 _ _ _ _ _ _ _ _ _ _ _
      | exact spec_Chars.mono _ _
      | exact spec_named.mono _ _ _ _ _
      | exact LeO.none _
      | refine LeO.ite ?_ ?_
      | refine LeO.bind ?_ (fun _ => ?_)
    · intro y0 y1 y2 y3 y4 y5 y6 y7 y8 y9
      unfold spec_attributes.j1
      repeat' first
      | (with_reducible exact ih0 _ _ _ _ _)
      | (with_reducible exact ih1 _ _ _ _ _ _ _ _ _ _)
      | (with_reducible exact ih2 _ _ _ _ _ _ _ _ _ _ _)
      | (with_reducible exact spec_Chars.mono _ _)
      | (with_reducible exact spec_named.mono _ _ _ _ _)
      | (with_reducible exact LeO.refl _)
      | (with_reducible exact LeO.none _)
      | (with_reducible refine LeO.ite ?_ ?_)
      | (with_reducible refine LeO.bind ?_ (fun _ => ?_))
      | exact ih0 _ _ _ _ _
      | exact ih1 _ _ _ _ _ _ _ _ _ _
      | exact ih2 _ _ _ _ _ _ _ _ _ _ _
      | exact spec_Chars.mono _ _
      | exact spec_named.mono _ _ _ _ _
      | exact LeO.none _
      | refine LeO.ite ?_ ?_
      | refine LeO.bind ?_ (fun _ => ?_)
    · intro y0 y1 y2 y3 y4 y5 y6 y7 y8 y9 y10
      unfold spec_attributes.l1
      repeat' first
      | (with_reducible exact ih0 _ _ _ _ _)
      | (with_reducible exact ih1 _ _ _ _ _ _ _ _ _ _)
      | (with_reducible exact ih2 _ _ _ _ _ _ _ _ _ _ _)
      | (with_reducible exact spec_Chars.mono _ _)
      | (with_reducible exact spec_named.mono _ _ _ _ _)
      | (with_reducible exact LeO.refl _)
      | (with_reducible exact LeO.none _)
      | (with_reducible refine LeO.ite ?_ ?_)
      | (with_reducible refine LeO.bind ?_ (fun _ => ?_))
      | exact ih0 _ _ _ _ _
      | exact ih1 _ _ _ _ _ _ _ _ _ _
      | exact ih2 _ _ _ _ _ _ _ _ _ _ _
      | exact spec_Chars.mono _ _
      | exact spec_named.mono _ _ _ _ _
      | exact LeO.none _
      | refine LeO.ite ?_ ?_
      | refine LeO.bind ?_ (fun _ => ?_)
theorem spec_attributes.mono : ∀ a0 a1 k, LeO (spec_attributes.f k a0 a1) (spec_attributes.f (k + 1) a0 a1) := by
  intro a0 a1 k
  obtain ⟨ih0, ih1, ih2⟩ := spec_attributes.mono_l k
  unfold spec_attributes.f
  repeat' first
      | (with_reducible exact ih0 _ _ _ _ _)
      | (with_reducible exact ih1 _ _ _ _ _ _ _ _ _ _)
      | (with_reducible exact ih2 _ _ _ _ _ _ _ _ _ _ _)
      | (with_reducible exact spec_Chars.mono _ _)
      | (with_reducible exact spec_named.mono _ _ _ _ _)
      | (with_reducible exact LeO.refl _)
      | (with_reducible exact LeO.none _)
      | (with_reducible refine LeO.ite ?_ ?_)
      | (with_reducible refine LeO.bind ?_ (fun _ => ?_))
      | exact ih0 _ _ _ _ _
      | exact ih1 _ _ _ _ _ _ _ _ _ _
      | exact ih2 _ _ _ _ _ _ _ _ _ _ _
      | exact spec_Chars.mono _ _
      | exact spec_named.mono _ _ _ _ _
      | exact LeO.none _
      | refine LeO.ite ?_ ?_
      | refine LeO.bind ?_ (fun _ => ?_)
set_option maxHeartbeats 8000000 in
set_option maxRecDepth 100000 in
theorem spec_attributes.calls (k : Nat) (A0 : Option Addr) (c0 : Nat) (l0 : List (S59)) (a1 : Bool) (r : Bool) (w : World) (hr0 : Kd.C k59 w A0 l0.length l0) (hc0 : l0.length ≤ c0) (h : spec_attributes.f k l0 a1 = some r) :
    Calls Tryz.prog 12 #[.slice A0 l0.length c0, .bool a1] w fun e w' => e = .returned (.bool r) ∧ Below w.heap.size w w' := by
  have hu59 := Tryz.underlying59
  have HR0 := Aside0.mk hr0
  have HC0 := Aside0.mk hc0
  clear hr0 hc0
  have HB := Aside0.mk (Below.refl w.heap.size w)
  have H : (spec_attributes.l0 k l0 a1 l0 (l0.length : Int) 0) = some r := h
  clear h
  have H' := Aside0.mk H
  clear H
  go_enter Tryz.func12, Tryz.ntmps12
  go_wp2
  go_loopg [11] k (fun kq v11 w' => ∃ (x11_1 : Int), v11 = .int .i64 x11_1 ∧ Aside0 (spec_attributes.l0 kq l0 a1 l0 (l0.length : Int) x11_1 = some r) ∧ Aside0 (kq ≤ k) ∧ Aside0 (Below w.heap.size w w'))
  case atStart => exact ⟨(0), (by first | rfl | (simp; done) | (simp [*]; done)), H', ⟨Nat.le_refl _⟩, ⟨by repeat (first | (with_reducible first | exact HB.out | apply below_alloc | apply pw_below_drewN | apply below_drew1) | exact HB.out)⟩⟩
  case round =>
    clear H'
    try clear c1
    try clear p2
    obtain ⟨x11_1, rfl, HA, HK1, HB⟩ := hrel
    cases gk with
    | zero => exact absurd HA.out (by simp [spec_attributes.l0])
    | succ k1 =>
      have H := HA.out
      clear HA
      simp only [spec_attributes.l0] at H
      by_cases c3 : x11_1 < (l0.length : Int)
      · rw [if_pos c3] at H
        have c3b0 : decide (x11_1 < (l0.length : Int)) = true := decide_eq_true c3
        clear c3
        by_cases c4 : 0 ≤ x11_1
        · rw [if_pos c4] at H
          have c4b0 : decide (0 ≤ x11_1) = true := decide_eq_true c4
          clear c4
          by_cases c5 : x11_1 < (l0.length : Int)
          · rw [if_pos c5] at H
            have c5b0 : decide (x11_1 < (l0.length : Int)) = true := decide_eq_true c5
            clear c5
            have HC6 := Aside0.mk H
            clear H
            have p123 : 0 ≤ (x11_1 : Int) := of_decide_eq_true (by first | (with_reducible assumption) | assumption)
            have q123 : x11_1 < (l0.length : Int) := of_decide_eq_true (by first | (with_reducible assumption) | assumption)
            obtain ⟨ad123, e123, hx123_0, hx123_1, hx123_2⟩ := at_T59 HR0.out x11_1 p123 q123
            cases e123
            replace hx123_0 := (HB.out.cell (World.block_lt_of_cell? w _ hx123_0)).trans hx123_0
            replace hx123_1 := (HB.out.cell (World.block_lt_of_cell? w _ hx123_1)).trans hx123_1
            replace hx123_2 := (HB.out.cell (World.block_lt_of_cell? w _ hx123_2)).trans hx123_2
            replace p123 := eq_true p123
            replace q123 := eq_true q123
            go_upto_region 4 with (first | ((with_reducible refine gate_dst (N := 6) rfl ?_); refine box_event ?hg (N := 6) ?hd (cs := #[.string (⟨#[]⟩ : ByteArray), .string (⟨#[]⟩ : ByteArray), .string (⟨#[]⟩ : ByteArray)]) (t := 59) ?hr ?_; (case hd => rfl); (case hg => rfl); (case hr => first | (go_simp; done) | (go_simp; rfl)); intro gb124 hg w7 hbox hb; have n0_ := Aside0.mk (below_step (by repeat (first | (with_reducible first | exact HB.out | apply below_alloc | apply pw_below_drewN | apply below_drew1) | exact HB.out)) hb); have n1_ := Aside0.mk (hbox); have n2_ := Aside0.mk ((by rw [hg]; exact (below_size (by repeat (first | (with_reducible first | exact HB.out | apply below_alloc | apply pw_below_drewN | apply below_drew1) | exact HB.out))) : w.heap.size ≤ gb124)); have n3_ := Aside0.mk ((by rw [hg]; exact (below_size (by repeat (first | (with_reducible first | exact HB.out | apply below_alloc | apply pw_below_drewN | apply below_drew1) | exact HB.out))) : w.heap.size ≤ gb124)); clear HB; have HB := n0_; have BK124 := n1_; have GW124 := n2_; have GE124 := n3_; clear n0_ n1_ n2_ n3_; clear hb hbox hg; have hcz8_0 : w7.cell? ⟨gb124, 0, none⟩ = some (.string (⟨#[]⟩ : ByteArray)) := (blk_cell BK124.out 0).trans rfl; have hcz8_1 : w7.cell? ⟨gb124, 1, none⟩ = some (.string (⟨#[]⟩ : ByteArray)) := (blk_cell BK124.out 1).trans rfl; have hcz8_2 : w7.cell? ⟨gb124, 2, none⟩ = some (.string (⟨#[]⟩ : ByteArray)) := (blk_cell BK124.out 2).trans rfl; have hfz8_0 := blk_frozen BK124.out 0; have hfz8_1 := blk_frozen BK124.out 1; have hfz8_2 := blk_frozen BK124.out 2))
            (try simp only [Act.put, List.setIfInBounds_toArray, List.set_cons_zero, List.set_cons_succ])
            go_cut [28] (fun v28 wc => ∃ (kq : Nat) (x28_5 : Bool), v28 = .bool x28_5 ∧ Aside0 (spec_attributes.j1 kq l0 a1 x11_1 l0 (l0.length : Int) x11_1 x28_5 ((rd_T59 l0 x11_1).f0) ((rd_T59 l0 x11_1).f1) ((rd_T59 l0 x11_1).f2) = some r) ∧ Aside0 (kq ≤ k1) ∧ Aside0 (wc.heap[gb124]? = some (.cells #[.string ((rd_T59 l0 x11_1).f0), .string ((rd_T59 l0 x11_1).f1), .string ((rd_T59 l0 x11_1).f2)] 59 (0, 0))) ∧ Aside0 (Below w.heap.size w wc))
            case first =>
              have H := HC6.out
              clear HC6
              replace H := Option.bind_eq_some_iff.mp H
              obtain ⟨t125, A90, H⟩ := H
              replace H : (if t125 = true then ((spec_Chars.f k1 ((rd_T59 l0 x11_1).f2)).bind fun t126 => (spec_attributes.j1 k1 l0 a1 x11_1 l0 (l0.length : Int) x11_1 (!t126) ((rd_T59 l0 x11_1).f0) ((rd_T59 l0 x11_1).f1) ((rd_T59 l0 x11_1).f2))) else (spec_attributes.j1 k1 l0 a1 x11_1 l0 (l0.length : Int) x11_1 true ((rd_T59 l0 x11_1).f0) ((rd_T59 l0 x11_1).f1) ((rd_T59 l0 x11_1).f2))) = some r := H
              have A9 := Aside0.mk A90
              clear A90
              by_cases c10 : t125 = true
              · subst c10
                have H1 : ((spec_Chars.f k1 ((rd_T59 l0 x11_1).f2)).bind fun t126 => (spec_attributes.j1 k1 l0 a1 x11_1 l0 (l0.length : Int) x11_1 (!t126) ((rd_T59 l0 x11_1).f0) ((rd_T59 l0 x11_1).f1) ((rd_T59 l0 x11_1).f2))) = some r := by rw [if_pos rfl] at H; exact H
                clear H
                have H := H1
                clear H1
                replace H := Option.bind_eq_some_iff.mp H
                obtain ⟨t126, A110, H⟩ := H
                replace H : (spec_attributes.j1 k1 l0 a1 x11_1 l0 (l0.length : Int) x11_1 (!t126) ((rd_T59 l0 x11_1).f0) ((rd_T59 l0 x11_1).f1) ((rd_T59 l0 x11_1).f2)) = some r := H
                have A11 := Aside0.mk A110
                clear A110
                have H' := Aside0.mk H
                clear H
                have hcz12_0 : w7.cell? ⟨gb124, 0, none⟩ = some (.string (⟨#[]⟩ : ByteArray)) := (blk_cell BK124.out 0).trans rfl
                have hcz12_1 : w7.cell? ⟨gb124, 1, none⟩ = some (.string (⟨#[]⟩ : ByteArray)) := (blk_cell BK124.out 1).trans rfl
                have hcz12_2 : w7.cell? ⟨gb124, 2, none⟩ = some (.string (⟨#[]⟩ : ByteArray)) := (blk_cell BK124.out 2).trans rfl
                have hfz12_0 := blk_frozen BK124.out 0
                have hfz12_1 := blk_frozen BK124.out 1
                have hfz12_2 := blk_frozen BK124.out 2
                go_wp2_with (first | ((with_reducible refine gate_callee (f := 11) rfl ?_); refine goesL_ (some 21) rfl rfl Tryz.func11 (by kernel_rfl) rfl #[.string ((rd_T59 l0 x11_1).f0), .string ((rd_T59 l0 x11_1).f1), .bool a1, .bool false] rfl (by (try simp only [List.map_toArray, List.map_cons, List.map_nil]); first | done | rfl | (simp only [List.length_drop, List.length_take]; rfl)) ?_; (with_reducible refine (spec_named.calls k1 ((rd_T59 l0 x11_1).f0) ((rd_T59 l0 x11_1).f1) a1 false true _ A9.out).mono ?_); rintro e w' ⟨rfl, ⟨nd, rfl⟩⟩; refine ⟨_, rfl, ?_⟩) | (go_at_call 13; (with_reducible refine (spec_Chars.calls k1 ((rd_T59 l0 x11_1).f2) t126 _ A11.out).mono ?_); rintro e w' ⟨rfl, ⟨nd, rfl⟩⟩))
                go_meet
                case rel => exact ⟨_, (!t126), (by first | rfl | (simp; done) | (simp [*]; done)), H', ⟨by have := HK1.out; first | omega | exact Nat.le_refl _⟩, ⟨by (with_reducible repeat (first | refine blk_drewN ?_ _ | refine blk_drew ?_ | refine blk_alloc ?_ _)); refine blk_put (cs := #[.string ((rd_T59 l0 x11_1).f0), .string ((rd_T59 l0 x11_1).f1), .string (⟨#[]⟩ : ByteArray)]) ?_ 2 _ rfl; (with_reducible repeat (first | refine blk_drewN ?_ _ | refine blk_drew ?_ | refine blk_alloc ?_ _)); refine blk_put (cs := #[.string ((rd_T59 l0 x11_1).f0), .string (⟨#[]⟩ : ByteArray), .string (⟨#[]⟩ : ByteArray)]) ?_ 1 _ rfl; (with_reducible repeat (first | refine blk_drewN ?_ _ | refine blk_drew ?_ | refine blk_alloc ?_ _)); refine blk_put (cs := #[.string (⟨#[]⟩ : ByteArray), .string (⟨#[]⟩ : ByteArray), .string (⟨#[]⟩ : ByteArray)]) ?_ 0 _ rfl; (with_reducible repeat (first | refine blk_drewN ?_ _ | refine blk_drew ?_ | refine blk_alloc ?_ _)); exact BK124.out⟩, ⟨by repeat (first | (with_reducible first | exact HB.out | apply below_alloc | apply pw_below_drewN | apply below_drew1 | refine below_set ?_ GE124.out) | exact HB.out)⟩⟩
              · replace c10 := Bool.eq_false_iff.mpr c10
                subst c10
                have H1 : (spec_attributes.j1 k1 l0 a1 x11_1 l0 (l0.length : Int) x11_1 true ((rd_T59 l0 x11_1).f0) ((rd_T59 l0 x11_1).f1) ((rd_T59 l0 x11_1).f2)) = some r := by rw [if_neg (show ¬ (false = true) by decide)] at H; exact H
                clear H
                have H := H1
                clear H1
                have H' := Aside0.mk H
                clear H
                have hcz13_0 : w7.cell? ⟨gb124, 0, none⟩ = some (.string (⟨#[]⟩ : ByteArray)) := (blk_cell BK124.out 0).trans rfl
                have hcz13_1 : w7.cell? ⟨gb124, 1, none⟩ = some (.string (⟨#[]⟩ : ByteArray)) := (blk_cell BK124.out 1).trans rfl
                have hcz13_2 : w7.cell? ⟨gb124, 2, none⟩ = some (.string (⟨#[]⟩ : ByteArray)) := (blk_cell BK124.out 2).trans rfl
                have hfz13_0 := blk_frozen BK124.out 0
                have hfz13_1 := blk_frozen BK124.out 1
                have hfz13_2 := blk_frozen BK124.out 2
                go_wp2_with (first | ((with_reducible refine gate_callee (f := 11) rfl ?_); refine goesL_ (some 21) rfl rfl Tryz.func11 (by kernel_rfl) rfl #[.string ((rd_T59 l0 x11_1).f0), .string ((rd_T59 l0 x11_1).f1), .bool a1, .bool false] rfl (by (try simp only [List.map_toArray, List.map_cons, List.map_nil]); first | done | rfl | (simp only [List.length_drop, List.length_take]; rfl)) ?_; (with_reducible refine (spec_named.calls k1 ((rd_T59 l0 x11_1).f0) ((rd_T59 l0 x11_1).f1) a1 false false _ A9.out).mono ?_); rintro e w' ⟨rfl, ⟨nd, rfl⟩⟩; refine ⟨_, rfl, ?_⟩))
                go_meet
                case rel => exact ⟨_, (true), (by first | rfl | (simp; done) | (simp [*]; done)), H', ⟨by have := HK1.out; first | omega | exact Nat.le_refl _⟩, ⟨by (with_reducible repeat (first | refine blk_drewN ?_ _ | refine blk_drew ?_ | refine blk_alloc ?_ _)); refine blk_put (cs := #[.string ((rd_T59 l0 x11_1).f0), .string ((rd_T59 l0 x11_1).f1), .string (⟨#[]⟩ : ByteArray)]) ?_ 2 _ rfl; (with_reducible repeat (first | refine blk_drewN ?_ _ | refine blk_drew ?_ | refine blk_alloc ?_ _)); refine blk_put (cs := #[.string ((rd_T59 l0 x11_1).f0), .string (⟨#[]⟩ : ByteArray), .string (⟨#[]⟩ : ByteArray)]) ?_ 1 _ rfl; (with_reducible repeat (first | refine blk_drewN ?_ _ | refine blk_drew ?_ | refine blk_alloc ?_ _)); refine blk_put (cs := #[.string (⟨#[]⟩ : ByteArray), .string (⟨#[]⟩ : ByteArray), .string (⟨#[]⟩ : ByteArray)]) ?_ 0 _ rfl; (with_reducible repeat (first | refine blk_drewN ?_ _ | refine blk_drew ?_ | refine blk_alloc ?_ _)); exact BK124.out⟩, ⟨by repeat (first | (with_reducible first | exact HB.out | apply below_alloc | apply pw_below_drewN | apply below_drew1 | refine below_set ?_ GE124.out) | exact HB.out)⟩⟩
            case rest =>
              clear HC6
              try clear c1
              try clear p1
              try clear q1
              try clear hx1
              try clear p2
              try clear c3
              try clear c3b0
              try clear c4
              try clear c4b0
              try clear c5
              try clear c5b0
              try clear c10
              try clear c11
              try clear c12
              try clear p12
              try clear q12
              try clear hx12
              try clear hcz12_0
              try clear hcz12_1
              try clear hcz12_2
              try clear hcz13_0
              try clear hcz13_1
              try clear hcz13_2
              try clear hcz8_0
              try clear hcz8_1
              try clear hcz8_2
              try clear hfz12_0
              try clear hfz12_1
              try clear hfz12_2
              try clear hfz13_0
              try clear hfz13_1
              try clear hfz13_2
              try clear hfz8_0
              try clear hfz8_1
              try clear hfz8_2
              try clear hx123_0
              try clear hx123_1
              try clear hx123_2
              try clear p123
              try clear p2
              try clear q123
              obtain ⟨kq, x28_5, rfl, HA, HJ5, BK124, HB⟩ := hcut
              cases kq with
              | zero => exact absurd HA.out (by simp [spec_attributes.j1])
              | succ kj5 =>
                have H := HA.out
                clear HA
                simp only [spec_attributes.j1] at H
                by_cases c14 : x28_5 = true
                · subst c14
                  have H1 : (some false) = some r := by rw [if_pos rfl] at H; exact H
                  clear H
                  have H := H1
                  clear H1
                  obtain rfl := Option.some.inj H
                  go_wp2
                  go_ret
                  exact ⟨by first | rfl | (simp [errW_none, errW_some] <;> rfl) | (simp [*, errW_none, errW_some] <;> rfl), by repeat (first | (with_reducible first | exact HB.out | apply below_alloc | apply pw_below_drewN | apply below_drew1 | refine below_set ?_ GE124.out) | exact HB.out)⟩
                · replace c14 := Bool.eq_false_iff.mpr c14
                  subst c14
                  have H1 : (if 0 ≤ x11_1 then (if x11_1 ≤ (l0.length : Int) then ((some (l0.take (x11_1 : Int).toNat : List (S59))).bind fun y127 => (spec_attributes.l1 kj5 l0 a1 l0 (l0.length : Int) x11_1 y127 (y127.length : Int) 0 ((rd_T59 l0 x11_1).f0) ((rd_T59 l0 x11_1).f1) ((rd_T59 l0 x11_1).f2))) else (none)) else (none)) = some r := by rw [if_neg (show ¬ (false = true) by decide)] at H; exact H
                  clear H
                  have H := H1
                  clear H1
                  by_cases c15 : 0 ≤ x11_1
                  · rw [if_pos c15] at H
                    have c15b0 := eq_true c15
                    have c15b1 : decide (0 ≤ x11_1) = true := decide_eq_true c15
                    clear c15
                    by_cases c16 : x11_1 ≤ (l0.length : Int)
                    · rw [if_pos c16] at H
                      have c16b0 := eq_true c16
                      have c16b1 : decide (x11_1 ≤ (l0.length : Int)) = true := decide_eq_true c16
                      clear c16
                      obtain ⟨y127, hy127⟩ : ∃ y_ : List (S59), y_ = (l0.take (x11_1 : Int).toNat) := ⟨_, rfl⟩
                      replace H : (spec_attributes.l1 kj5 l0 a1 l0 (l0.length : Int) x11_1 y127 (y127.length : Int) 0 ((rd_T59 l0 x11_1).f0) ((rd_T59 l0 x11_1).f1) ((rd_T59 l0 x11_1).f2)) = some r := by first | (rw [hy127]; with_reducible exact H) | (have H2_ := (Option.bind_some _ _).symm.trans H; rw [hy127]; with_reducible exact H2_) | (have H2_ := (Option.bind_some _ _).symm.trans H; with_reducible exact H2_) | with_reducible exact H | (rw [hy127]; exact H) | exact H
                      have Ny127 := Aside0.mk hy127
                      clear hy127
                      have H' := Aside0.mk H
                      clear H
                      have q17 : (x11_1 : Int) ≤ ((l0.length : Int) : Int) := of_decide_eq_true (by first | (with_reducible assumption) | assumption)
                      obtain ⟨i017, hi017, _, hsz17, _⟩ := info_parts info59
                      have hroom17 : l0.length ≤ c0 := HC0.out
                      have hC17 : Kd.C k59 _ (some ad123) l0.length l0 := HR0.out
                      have hcut17 := cut_to (P := Tryz.prog) 26 59 .i64 Tryz.underlying26 hi017 (some ad123) l0.length c0 x11_1 (of_decide_eq_true (by first | (with_reducible assumption) | assumption)) q17 hroom17
                      have hr17 := Kd.C_take (m := (x11_1 : Int).toNat) hC17 (by omega)
                      have hy17 : y127.length = (x11_1 : Int).toNat := (by rw [Ny127.out, List.length_take]; omega)
                      rw [← Ny127.out] at hr17
                      rw [← hy17] at hcut17
                      have HR130 := Aside0.mk hr17
                      have HC130 := Aside0.mk (show y127.length ≤ c0 from by omega)
                      clear hr17 hC17 hroom17 hi017 hsz17
                      have KY17 := Aside0.mk hy17
                      clear hy17
                      replace q17 := eq_true q17
                      go_wp2
                      go_loopg [33] kj5 (fun kq v33 w' => ∃ (x33_3 : Int), v33 = .int .i64 x33_3 ∧ Aside0 (spec_attributes.l1 kq l0 a1 l0 (l0.length : Int) x11_1 y127 (y127.length : Int) x33_3 ((rd_T59 l0 x11_1).f0) ((rd_T59 l0 x11_1).f1) ((rd_T59 l0 x11_1).f2) = some r) ∧ Aside0 (kq ≤ kj5) ∧ Aside0 (w'.heap[gb124]? = some (.cells #[.string ((rd_T59 l0 x11_1).f0), .string ((rd_T59 l0 x11_1).f1), .string ((rd_T59 l0 x11_1).f2)] 59 (0, 0))) ∧ Aside0 (Below w.heap.size w w'))
                      case atStart => exact ⟨(0), (by first | rfl | (simp; done) | (simp [*]; done)), H', ⟨Nat.le_refl _⟩, ⟨by (with_reducible repeat (first | refine blk_drewN ?_ _ | refine blk_drew ?_ | refine blk_alloc ?_ _)); exact BK124.out⟩, ⟨by repeat (first | (with_reducible first | exact HB.out | apply below_alloc | apply pw_below_drewN | apply below_drew1 | refine below_set ?_ GE124.out) | exact HB.out)⟩⟩
                      case round =>
                        clear H'
                        try clear c1
                        try clear p1
                        try clear q1
                        try clear hx1
                        try clear p2
                        try clear c3
                        try clear c3b0
                        try clear c4
                        try clear c4b0
                        try clear c5
                        try clear c5b0
                        try clear c10
                        try clear c11
                        try clear c12
                        try clear p12
                        try clear q12
                        try clear hx12
                        try clear c14
                        try clear c15
                        try clear c15b0
                        try clear c15b1
                        try clear c16
                        try clear c16b0
                        try clear c16b1
                        try clear q17
                        try clear hcz12_0
                        try clear hcz12_1
                        try clear hcz12_2
                        try clear hcz13_0
                        try clear hcz13_1
                        try clear hcz13_2
                        try clear hcz8_0
                        try clear hcz8_1
                        try clear hcz8_2
                        try clear hfz12_0
                        try clear hfz12_1
                        try clear hfz12_2
                        try clear hfz13_0
                        try clear hfz13_1
                        try clear hfz13_2
                        try clear hfz8_0
                        try clear hfz8_1
                        try clear hfz8_2
                        try clear hx123_0
                        try clear hx123_1
                        try clear hx123_2
                        try clear p1
                        try clear p12
                        try clear p123
                        try clear p2
                        try clear q1
                        try clear q12
                        try clear q123
                        try clear q17
                        obtain ⟨x33_3, rfl, HA, HK3, BK124, HB⟩ := hrel
                        cases gk with
                        | zero => exact absurd HA.out (by simp [spec_attributes.l1])
                        | succ k3 =>
                          have H := HA.out
                          clear HA
                          simp only [spec_attributes.l1] at H
                          by_cases c18 : x33_3 < (y127.length : Int)
                          · rw [if_pos c18] at H
                            have c18b0 : decide (x33_3 < (y127.length : Int)) = true := decide_eq_true c18
                            clear c18
                            by_cases c19 : 0 ≤ x33_3
                            · rw [if_pos c19] at H
                              have c19b0 : decide (0 ≤ x33_3) = true := decide_eq_true c19
                              clear c19
                              by_cases c20 : x33_3 < (y127.length : Int)
                              · rw [if_pos c20] at H
                                have c20b0 : decide (x33_3 < (y127.length : Int)) = true := decide_eq_true c20
                                clear c20
                                by_cases c21 : ((rd_T59 l0 x11_1).f0).toList = ((rd_T59 y127 x33_3).f0).toList
                                · rw [if_pos c21] at H
                                  have c21b0 : (((rd_T59 l0 x11_1).f0).toList == ((rd_T59 y127 x33_3).f0).toList) = true := beq_iff_eq.mpr c21
                                  have c21b1 : (((rd_T59 l0 x11_1).f0).toList != ((rd_T59 y127 x33_3).f0).toList) = false := bne_eq_false_iff_eq.mpr c21
                                  clear c21
                                  by_cases c22 : ((rd_T59 l0 x11_1).f1).toList = ((rd_T59 y127 x33_3).f1).toList
                                  · rw [if_pos c22] at H
                                    have c22b0 : (((rd_T59 l0 x11_1).f1).toList == ((rd_T59 y127 x33_3).f1).toList) = true := beq_iff_eq.mpr c22
                                    have c22b1 : (((rd_T59 l0 x11_1).f1).toList != ((rd_T59 y127 x33_3).f1).toList) = false := bne_eq_false_iff_eq.mpr c22
                                    clear c22
                                    obtain rfl := Option.some.inj H
                                    have p131 : 0 ≤ (x33_3 : Int) := of_decide_eq_true (by first | (with_reducible assumption) | assumption)
                                    have q131 : x33_3 < (y127.length : Int) := of_decide_eq_true (by first | (with_reducible assumption) | assumption)
                                    obtain ⟨ad131, e131, hx131_0, hx131_1, hx131_2⟩ := at_T59 HR130.out x33_3 p131 q131
                                    obtain rfl : ad123 = ad131 := (by injection e131)
                                    replace hx131_0 := (HB.out.cell (World.block_lt_of_cell? w _ hx131_0)).trans hx131_0
                                    replace hx131_1 := (HB.out.cell (World.block_lt_of_cell? w _ hx131_1)).trans hx131_1
                                    replace hx131_2 := (HB.out.cell (World.block_lt_of_cell? w _ hx131_2)).trans hx131_2
                                    replace p131 := eq_true p131
                                    replace q131 := eq_true q131
                                    go_wp2_with (first | ((with_reducible refine gate_dst (N := 8) rfl ?_); refine box_event ?hg (N := 8) ?hd (cs := #[.string (⟨#[]⟩ : ByteArray), .string (⟨#[]⟩ : ByteArray), .string (⟨#[]⟩ : ByteArray)]) (t := 59) ?hr ?_; (case hd => rfl); (case hg => rfl); (case hr => first | (go_simp; done) | (go_simp; rfl)); intro gb132 hg w23 hbox hb; have n0_ := Aside0.mk (blk_below (g := gb124) (o := .cells #[.string ((rd_T59 l0 x11_1).f0), .string ((rd_T59 l0 x11_1).f1), .string ((rd_T59 l0 x11_1).f2)] 59 (0, 0)) (by (with_reducible repeat (first | refine blk_drewN ?_ _ | refine blk_drew ?_ | refine blk_alloc ?_ _)); exact BK124.out) hb); have n1_ := Aside0.mk (below_step (by repeat (first | (with_reducible first | exact HB.out | apply below_alloc | apply pw_below_drewN | apply below_drew1 | refine below_set ?_ GE124.out) | exact HB.out)) hb); have n2_ := Aside0.mk (hbox); have n3_ := Aside0.mk ((by rw [hg]; exact (below_size (by repeat (first | (with_reducible first | exact HB.out | apply below_alloc | apply pw_below_drewN | apply below_drew1 | refine below_set ?_ GE124.out) | exact HB.out))) : w.heap.size ≤ gb132)); have n4_ := Aside0.mk ((by rw [hg]; exact (below_size (by repeat (first | (with_reducible first | exact HB.out | apply below_alloc | apply pw_below_drewN | apply below_drew1 | refine below_set ?_ GE124.out) | exact HB.out))) : w.heap.size ≤ gb132)); have n5_ := Aside0.mk ((by rw [hg]; exact Nat.ne_of_lt (blk_lt (g := gb124) (o := .cells #[.string ((rd_T59 l0 x11_1).f0), .string ((rd_T59 l0 x11_1).f1), .string ((rd_T59 l0 x11_1).f2)] 59 (0, 0)) (by (with_reducible repeat (first | refine blk_drewN ?_ _ | refine blk_drew ?_ | refine blk_alloc ?_ _)); exact BK124.out)) : gb124 ≠ gb132)); have n6_ := Aside0.mk ((by rw [hg]; exact Nat.ne_of_gt (blk_lt (g := gb124) (o := .cells #[.string ((rd_T59 l0 x11_1).f0), .string ((rd_T59 l0 x11_1).f1), .string ((rd_T59 l0 x11_1).f2)] 59 (0, 0)) (by (with_reducible repeat (first | refine blk_drewN ?_ _ | refine blk_drew ?_ | refine blk_alloc ?_ _)); exact BK124.out)) : gb132 ≠ gb124)); clear BK124; clear HB; have BK124 := n0_; have HB := n1_; have BK132 := n2_; have GW132 := n3_; have GE132 := n4_; have NB124_132 := n5_; have NB132_124 := n6_; clear n0_ n1_ n2_ n3_ n4_ n5_ n6_; clear hb hbox hg; have hnb24 := NB132_124.out; have hnc24 := NB124_132.out; have hcz25_0 : w23.cell? ⟨gb132, 0, none⟩ = some (.string (⟨#[]⟩ : ByteArray)) := (blk_cell BK132.out 0).trans rfl; have hcz25_1 : w23.cell? ⟨gb132, 1, none⟩ = some (.string (⟨#[]⟩ : ByteArray)) := (blk_cell BK132.out 1).trans rfl; have hcz25_2 : w23.cell? ⟨gb132, 2, none⟩ = some (.string (⟨#[]⟩ : ByteArray)) := (blk_cell BK132.out 2).trans rfl; have hfz25_0 := blk_frozen BK132.out 0; have hfz25_1 := blk_frozen BK132.out 1; have hfz25_2 := blk_frozen BK132.out 2; have hcz26_0 : w23.cell? ⟨gb124, 0, none⟩ = some (.string ((rd_T59 l0 x11_1).f0)) := (blk_cell BK124.out 0).trans rfl; have hcz26_1 : w23.cell? ⟨gb124, 1, none⟩ = some (.string ((rd_T59 l0 x11_1).f1)) := (blk_cell BK124.out 1).trans rfl; have hcz26_2 : w23.cell? ⟨gb124, 2, none⟩ = some (.string ((rd_T59 l0 x11_1).f2)) := (blk_cell BK124.out 2).trans rfl; have hfz26_0 := blk_frozen BK124.out 0; have hfz26_1 := blk_frozen BK124.out 1; have hfz26_2 := blk_frozen BK124.out 2))
                                    go_ret
                                    exact ⟨by first | rfl | (simp [errW_none, errW_some] <;> rfl) | (simp [*, errW_none, errW_some] <;> rfl), by repeat (first | (with_reducible first | exact HB.out | apply below_alloc | apply pw_below_drewN | apply below_drew1 | refine below_set ?_ GE124.out | refine below_set ?_ GE132.out) | exact HB.out)⟩
                                  · rw [if_neg c22] at H
                                    have c22b0 : (((rd_T59 l0 x11_1).f1).toList == ((rd_T59 y127 x33_3).f1).toList) = false := beq_eq_false_iff_ne.mpr c22
                                    have c22b1 : (((rd_T59 l0 x11_1).f1).toList != ((rd_T59 y127 x33_3).f1).toList) = true := bne_iff_ne.mpr c22
                                    have H' := Aside0.mk H
                                    clear H
                                    have p131 : 0 ≤ (x33_3 : Int) := of_decide_eq_true (by first | (with_reducible assumption) | assumption)
                                    have q131 : x33_3 < (y127.length : Int) := of_decide_eq_true (by first | (with_reducible assumption) | assumption)
                                    obtain ⟨ad131, e131, hx131_0, hx131_1, hx131_2⟩ := at_T59 HR130.out x33_3 p131 q131
                                    obtain rfl : ad123 = ad131 := (by injection e131)
                                    replace hx131_0 := (HB.out.cell (World.block_lt_of_cell? w _ hx131_0)).trans hx131_0
                                    replace hx131_1 := (HB.out.cell (World.block_lt_of_cell? w _ hx131_1)).trans hx131_1
                                    replace hx131_2 := (HB.out.cell (World.block_lt_of_cell? w _ hx131_2)).trans hx131_2
                                    replace p131 := eq_true p131
                                    replace q131 := eq_true q131
                                    go_wp2_with (first | ((with_reducible refine gate_dst (N := 8) rfl ?_); refine box_event ?hg (N := 8) ?hd (cs := #[.string (⟨#[]⟩ : ByteArray), .string (⟨#[]⟩ : ByteArray), .string (⟨#[]⟩ : ByteArray)]) (t := 59) ?hr ?_; (case hd => rfl); (case hg => rfl); (case hr => first | (go_simp; done) | (go_simp; rfl)); intro gb132 hg w27 hbox hb; have n0_ := Aside0.mk (blk_below (g := gb124) (o := .cells #[.string ((rd_T59 l0 x11_1).f0), .string ((rd_T59 l0 x11_1).f1), .string ((rd_T59 l0 x11_1).f2)] 59 (0, 0)) (by (with_reducible repeat (first | refine blk_drewN ?_ _ | refine blk_drew ?_ | refine blk_alloc ?_ _)); exact BK124.out) hb); have n1_ := Aside0.mk (below_step (by repeat (first | (with_reducible first | exact HB.out | apply below_alloc | apply pw_below_drewN | apply below_drew1 | refine below_set ?_ GE124.out) | exact HB.out)) hb); have n2_ := Aside0.mk (hbox); have n3_ := Aside0.mk ((by rw [hg]; exact (below_size (by repeat (first | (with_reducible first | exact HB.out | apply below_alloc | apply pw_below_drewN | apply below_drew1 | refine below_set ?_ GE124.out) | exact HB.out))) : w.heap.size ≤ gb132)); have n4_ := Aside0.mk ((by rw [hg]; exact (below_size (by repeat (first | (with_reducible first | exact HB.out | apply below_alloc | apply pw_below_drewN | apply below_drew1 | refine below_set ?_ GE124.out) | exact HB.out))) : w.heap.size ≤ gb132)); have n5_ := Aside0.mk ((by rw [hg]; exact Nat.ne_of_lt (blk_lt (g := gb124) (o := .cells #[.string ((rd_T59 l0 x11_1).f0), .string ((rd_T59 l0 x11_1).f1), .string ((rd_T59 l0 x11_1).f2)] 59 (0, 0)) (by (with_reducible repeat (first | refine blk_drewN ?_ _ | refine blk_drew ?_ | refine blk_alloc ?_ _)); exact BK124.out)) : gb124 ≠ gb132)); have n6_ := Aside0.mk ((by rw [hg]; exact Nat.ne_of_gt (blk_lt (g := gb124) (o := .cells #[.string ((rd_T59 l0 x11_1).f0), .string ((rd_T59 l0 x11_1).f1), .string ((rd_T59 l0 x11_1).f2)] 59 (0, 0)) (by (with_reducible repeat (first | refine blk_drewN ?_ _ | refine blk_drew ?_ | refine blk_alloc ?_ _)); exact BK124.out)) : gb132 ≠ gb124)); clear BK124; clear HB; have BK124 := n0_; have HB := n1_; have BK132 := n2_; have GW132 := n3_; have GE132 := n4_; have NB124_132 := n5_; have NB132_124 := n6_; clear n0_ n1_ n2_ n3_ n4_ n5_ n6_; clear hb hbox hg; have hnb28 := NB132_124.out; have hnc28 := NB124_132.out; have hcz29_0 : w27.cell? ⟨gb132, 0, none⟩ = some (.string (⟨#[]⟩ : ByteArray)) := (blk_cell BK132.out 0).trans rfl; have hcz29_1 : w27.cell? ⟨gb132, 1, none⟩ = some (.string (⟨#[]⟩ : ByteArray)) := (blk_cell BK132.out 1).trans rfl; have hcz29_2 : w27.cell? ⟨gb132, 2, none⟩ = some (.string (⟨#[]⟩ : ByteArray)) := (blk_cell BK132.out 2).trans rfl; have hfz29_0 := blk_frozen BK132.out 0; have hfz29_1 := blk_frozen BK132.out 1; have hfz29_2 := blk_frozen BK132.out 2; have hcz30_0 : w27.cell? ⟨gb124, 0, none⟩ = some (.string ((rd_T59 l0 x11_1).f0)) := (blk_cell BK124.out 0).trans rfl; have hcz30_1 : w27.cell? ⟨gb124, 1, none⟩ = some (.string ((rd_T59 l0 x11_1).f1)) := (blk_cell BK124.out 1).trans rfl; have hcz30_2 : w27.cell? ⟨gb124, 2, none⟩ = some (.string ((rd_T59 l0 x11_1).f2)) := (blk_cell BK124.out 2).trans rfl; have hfz30_0 := blk_frozen BK124.out 0; have hfz30_1 := blk_frozen BK124.out 1; have hfz30_2 := blk_frozen BK124.out 2))
                                    go_roundg k3
                                    case measure => have := HK1.out; have := HJ5.out; have := HK3.out; omega
                                    case rel => exact ⟨(wrap64 (x33_3 + 1)), (by first | rfl | (simp; done) | (simp [*]; done)), H', ⟨by have := HK1.out; have := HJ5.out; have := HK3.out; omega⟩, ⟨by (with_reducible repeat (first | refine blk_drewN ?_ _ | refine blk_drew ?_ | refine blk_alloc ?_ _)); refine blk_far ?_ NB124_132.out _; (with_reducible repeat (first | refine blk_drewN ?_ _ | refine blk_drew ?_ | refine blk_alloc ?_ _)); refine blk_far ?_ NB124_132.out _; (with_reducible repeat (first | refine blk_drewN ?_ _ | refine blk_drew ?_ | refine blk_alloc ?_ _)); refine blk_far ?_ NB124_132.out _; (with_reducible repeat (first | refine blk_drewN ?_ _ | refine blk_drew ?_ | refine blk_alloc ?_ _)); exact BK124.out⟩, ⟨by repeat (first | (with_reducible first | exact HB.out | apply below_alloc | apply pw_below_drewN | apply below_drew1 | refine below_set ?_ GE124.out | refine below_set ?_ GE132.out) | exact HB.out)⟩⟩
                                · rw [if_neg c21] at H
                                  have c21b0 : (((rd_T59 l0 x11_1).f0).toList == ((rd_T59 y127 x33_3).f0).toList) = false := beq_eq_false_iff_ne.mpr c21
                                  have c21b1 : (((rd_T59 l0 x11_1).f0).toList != ((rd_T59 y127 x33_3).f0).toList) = true := bne_iff_ne.mpr c21
                                  have H' := Aside0.mk H
                                  clear H
                                  have p131 : 0 ≤ (x33_3 : Int) := of_decide_eq_true (by first | (with_reducible assumption) | assumption)
                                  have q131 : x33_3 < (y127.length : Int) := of_decide_eq_true (by first | (with_reducible assumption) | assumption)
                                  obtain ⟨ad131, e131, hx131_0, hx131_1, hx131_2⟩ := at_T59 HR130.out x33_3 p131 q131
                                  obtain rfl : ad123 = ad131 := (by injection e131)
                                  replace hx131_0 := (HB.out.cell (World.block_lt_of_cell? w _ hx131_0)).trans hx131_0
                                  replace hx131_1 := (HB.out.cell (World.block_lt_of_cell? w _ hx131_1)).trans hx131_1
                                  replace hx131_2 := (HB.out.cell (World.block_lt_of_cell? w _ hx131_2)).trans hx131_2
                                  replace p131 := eq_true p131
                                  replace q131 := eq_true q131
                                  go_wp2_with (first | ((with_reducible refine gate_dst (N := 8) rfl ?_); refine box_event ?hg (N := 8) ?hd (cs := #[.string (⟨#[]⟩ : ByteArray), .string (⟨#[]⟩ : ByteArray), .string (⟨#[]⟩ : ByteArray)]) (t := 59) ?hr ?_; (case hd => rfl); (case hg => rfl); (case hr => first | (go_simp; done) | (go_simp; rfl)); intro gb132 hg w31 hbox hb; have n0_ := Aside0.mk (blk_below (g := gb124) (o := .cells #[.string ((rd_T59 l0 x11_1).f0), .string ((rd_T59 l0 x11_1).f1), .string ((rd_T59 l0 x11_1).f2)] 59 (0, 0)) (by (with_reducible repeat (first | refine blk_drewN ?_ _ | refine blk_drew ?_ | refine blk_alloc ?_ _)); exact BK124.out) hb); have n1_ := Aside0.mk (below_step (by repeat (first | (with_reducible first | exact HB.out | apply below_alloc | apply pw_below_drewN | apply below_drew1 | refine below_set ?_ GE124.out) | exact HB.out)) hb); have n2_ := Aside0.mk (hbox); have n3_ := Aside0.mk ((by rw [hg]; exact (below_size (by repeat (first | (with_reducible first | exact HB.out | apply below_alloc | apply pw_below_drewN | apply below_drew1 | refine below_set ?_ GE124.out) | exact HB.out))) : w.heap.size ≤ gb132)); have n4_ := Aside0.mk ((by rw [hg]; exact (below_size (by repeat (first | (with_reducible first | exact HB.out | apply below_alloc | apply pw_below_drewN | apply below_drew1 | refine below_set ?_ GE124.out) | exact HB.out))) : w.heap.size ≤ gb132)); have n5_ := Aside0.mk ((by rw [hg]; exact Nat.ne_of_lt (blk_lt (g := gb124) (o := .cells #[.string ((rd_T59 l0 x11_1).f0), .string ((rd_T59 l0 x11_1).f1), .string ((rd_T59 l0 x11_1).f2)] 59 (0, 0)) (by (with_reducible repeat (first | refine blk_drewN ?_ _ | refine blk_drew ?_ | refine blk_alloc ?_ _)); exact BK124.out)) : gb124 ≠ gb132)); have n6_ := Aside0.mk ((by rw [hg]; exact Nat.ne_of_gt (blk_lt (g := gb124) (o := .cells #[.string ((rd_T59 l0 x11_1).f0), .string ((rd_T59 l0 x11_1).f1), .string ((rd_T59 l0 x11_1).f2)] 59 (0, 0)) (by (with_reducible repeat (first | refine blk_drewN ?_ _ | refine blk_drew ?_ | refine blk_alloc ?_ _)); exact BK124.out)) : gb132 ≠ gb124)); clear BK124; clear HB; have BK124 := n0_; have HB := n1_; have BK132 := n2_; have GW132 := n3_; have GE132 := n4_; have NB124_132 := n5_; have NB132_124 := n6_; clear n0_ n1_ n2_ n3_ n4_ n5_ n6_; clear hb hbox hg; have hnb32 := NB132_124.out; have hnc32 := NB124_132.out; have hcz33_0 : w31.cell? ⟨gb132, 0, none⟩ = some (.string (⟨#[]⟩ : ByteArray)) := (blk_cell BK132.out 0).trans rfl; have hcz33_1 : w31.cell? ⟨gb132, 1, none⟩ = some (.string (⟨#[]⟩ : ByteArray)) := (blk_cell BK132.out 1).trans rfl; have hcz33_2 : w31.cell? ⟨gb132, 2, none⟩ = some (.string (⟨#[]⟩ : ByteArray)) := (blk_cell BK132.out 2).trans rfl; have hfz33_0 := blk_frozen BK132.out 0; have hfz33_1 := blk_frozen BK132.out 1; have hfz33_2 := blk_frozen BK132.out 2; have hcz34_0 : w31.cell? ⟨gb124, 0, none⟩ = some (.string ((rd_T59 l0 x11_1).f0)) := (blk_cell BK124.out 0).trans rfl; have hcz34_1 : w31.cell? ⟨gb124, 1, none⟩ = some (.string ((rd_T59 l0 x11_1).f1)) := (blk_cell BK124.out 1).trans rfl; have hcz34_2 : w31.cell? ⟨gb124, 2, none⟩ = some (.string ((rd_T59 l0 x11_1).f2)) := (blk_cell BK124.out 2).trans rfl; have hfz34_0 := blk_frozen BK124.out 0; have hfz34_1 := blk_frozen BK124.out 1; have hfz34_2 := blk_frozen BK124.out 2))
                                  go_roundg k3
                                  case measure => have := HK1.out; have := HJ5.out; have := HK3.out; omega
                                  case rel => exact ⟨(wrap64 (x33_3 + 1)), (by first | rfl | (simp; done) | (simp [*]; done)), H', ⟨by have := HK1.out; have := HJ5.out; have := HK3.out; omega⟩, ⟨by (with_reducible repeat (first | refine blk_drewN ?_ _ | refine blk_drew ?_ | refine blk_alloc ?_ _)); refine blk_far ?_ NB124_132.out _; (with_reducible repeat (first | refine blk_drewN ?_ _ | refine blk_drew ?_ | refine blk_alloc ?_ _)); refine blk_far ?_ NB124_132.out _; (with_reducible repeat (first | refine blk_drewN ?_ _ | refine blk_drew ?_ | refine blk_alloc ?_ _)); refine blk_far ?_ NB124_132.out _; (with_reducible repeat (first | refine blk_drewN ?_ _ | refine blk_drew ?_ | refine blk_alloc ?_ _)); exact BK124.out⟩, ⟨by repeat (first | (with_reducible first | exact HB.out | apply below_alloc | apply pw_below_drewN | apply below_drew1 | refine below_set ?_ GE124.out | refine below_set ?_ GE132.out) | exact HB.out)⟩⟩
                              · rw [if_neg c20] at H
                                exact absurd H (by simp)
                            · rw [if_neg c19] at H
                              exact absurd H (by simp)
                          · rw [if_neg c18] at H
                            have c18b0 : decide (x33_3 < (y127.length : Int)) = false := decide_eq_false c18
                            clear c18
                            have H' := Aside0.mk H
                            clear H
                            go_wp2
                            go_roundg k3
                            case measure => have := HK1.out; have := HJ5.out; have := HK3.out; omega
                            case rel => exact ⟨(wrap64 (x11_1 + 1)), (by first | rfl | (simp; done) | (simp [*]; done)), H', ⟨by have := HK1.out; have := HJ5.out; have := HK3.out; omega⟩, ⟨by repeat (first | (with_reducible first | exact HB.out | apply below_alloc | apply pw_below_drewN | apply below_drew1 | refine below_set ?_ GE124.out) | exact HB.out)⟩⟩
                    · rw [if_neg c16] at H
                      exact absurd H (by simp)
                  · rw [if_neg c15] at H
                    exact absurd H (by simp)
          · rw [if_neg c5] at H
            exact absurd H (by simp)
        · rw [if_neg c4] at H
          exact absurd H (by simp)
      · rw [if_neg c3] at H
        have c3b0 : decide (x11_1 < (l0.length : Int)) = false := decide_eq_false c3
        clear c3
        obtain rfl := Option.some.inj H
        go_wp2
        go_ret
        exact ⟨by first | rfl | (simp [errW_none, errW_some] <;> rfl) | (simp [*, errW_none, errW_some] <;> rfl), by repeat (first | (with_reducible first | exact HB.out | apply below_alloc | apply pw_below_drewN | apply below_drew1) | exact HB.out)⟩

/-! ### spec_verbatim: function 14 -/
def spec_verbatim.l0 : Nat → ByteArray → Int → Int → Option (Bool)
  | 0, _, _, _ => none
  | k + 1, x0, x5, x6 => if x6 < x5 then (if 0 ≤ x6 then (if x6 < (x0.size : Int) then (if (bt x0 x6) = 13 then (some false) else (spec_verbatim.l0 k x0 x5 (wrap64 (x6 + 1)))) else (none)) else (none)) else ((spec_Chars.f k x0).bind fun t133 => (some t133))
def spec_verbatim.f (k : Nat) (a0 : ByteArray) : Option (Bool) := spec_verbatim.l0 k a0 (a0.size : Int) 0
theorem spec_verbatim.mono_l : ∀ k, (∀ y0 y1 y2, LeO (spec_verbatim.l0 k y0 y1 y2) (spec_verbatim.l0 (k + 1) y0 y1 y2))
  | 0 => fun _ _ _ r h => by simp [spec_verbatim.l0] at h
  | k + 1 => by
    have ih0 := spec_verbatim.mono_l k
    · intro y0 y1 y2
      unfold spec_verbatim.l0
      repeat' first
      | (with_reducible exact ih0 _ _ _)
      | (with_reducible exact spec_Chars.mono _ _)
      | (with_reducible exact LeO.refl _)
      | (with_reducible exact LeO.none _)
      | (with_reducible refine LeO.ite ?_ ?_)
      | (with_reducible refine LeO.bind ?_ (fun _ => ?_))
      | exact ih0 _ _ _
      | exact spec_Chars.mono _ _
      | exact LeO.none _
      | refine LeO.ite ?_ ?_
      | refine LeO.bind ?_ (fun _ => ?_)
theorem spec_verbatim.mono : ∀ a0 k, LeO (spec_verbatim.f k a0) (spec_verbatim.f (k + 1) a0) := by
  intro a0 k
  have ih0 := spec_verbatim.mono_l k
  unfold spec_verbatim.f
  repeat' first
      | (with_reducible exact ih0 _ _ _)
      | (with_reducible exact spec_Chars.mono _ _)
      | (with_reducible exact LeO.refl _)
      | (with_reducible exact LeO.none _)
      | (with_reducible refine LeO.ite ?_ ?_)
      | (with_reducible refine LeO.bind ?_ (fun _ => ?_))
      | exact ih0 _ _ _
      | exact spec_Chars.mono _ _
      | exact LeO.none _
      | refine LeO.ite ?_ ?_
      | refine LeO.bind ?_ (fun _ => ?_)
set_option maxHeartbeats 8000000 in
set_option maxRecDepth 100000 in
theorem spec_verbatim.calls (k : Nat) (a0 : ByteArray) (r : Bool) (w : World) (h : spec_verbatim.f k a0 = some r) :
    Calls Tryz.prog 14 #[.string a0] w fun e w' => e = .returned (.bool r) ∧ Drawn0 w w' := by
  have H : (spec_verbatim.l0 k a0 (a0.size : Int) 0) = some r := h
  clear h
  have H' := Aside0.mk H
  clear H
  go_enter Tryz.func14, Tryz.ntmps14
  go_wp2
  go_loopg [6] k (fun kq v6 w' => ∃ (x6_1 : Int), v6 = .int .i64 x6_1 ∧ Aside0 (spec_verbatim.l0 kq a0 (a0.size : Int) x6_1 = some r) ∧ Aside0 (kq ≤ k) ∧ Drawn0 w w')
  case atStart => exact ⟨(0), (by first | rfl | (simp; done) | (simp [*]; done)), H', ⟨Nat.le_refl _⟩, by repeat (first | exact Drawn0.refl _ | apply Drawn0.step)⟩
  case round =>
    clear H'
    try clear c1
    obtain ⟨x6_1, rfl, HA, HK1, ⟨m1, rfl⟩⟩ := hrel
    cases gk with
    | zero => exact absurd HA.out (by simp [spec_verbatim.l0])
    | succ k1 =>
      have H := HA.out
      clear HA
      simp only [spec_verbatim.l0] at H
      by_cases c2 : x6_1 < (a0.size : Int)
      · rw [if_pos c2] at H
        have c2b0 : decide (x6_1 < (a0.size : Int)) = true := decide_eq_true c2
        clear c2
        by_cases c3 : 0 ≤ x6_1
        · rw [if_pos c3] at H
          have c3b0 : decide (0 ≤ x6_1) = true := decide_eq_true c3
          clear c3
          by_cases c4 : x6_1 < (a0.size : Int)
          · rw [if_pos c4] at H
            have c4b0 : decide (x6_1 < (a0.size : Int)) = true := decide_eq_true c4
            clear c4
            by_cases c6 : (bt a0 x6_1) = 13
            · rw [if_pos c6] at H
              have c6b0 : ((bt a0 x6_1) == 13) = true := beq_iff_eq.mpr c6
              have c6b1 : ((bt a0 x6_1) != 13) = false := bne_eq_false_iff_eq.mpr c6
              clear c6
              obtain rfl := Option.some.inj H
              have p5 : 0 ≤ (x6_1 : Int) := of_decide_eq_true (by first | (with_reducible assumption) | assumption)
              have q5 : x6_1 < (a0.size : Int) := of_decide_eq_true (by first | (with_reducible assumption) | assumption)
              have hx5 := bt_at a0 x6_1
              replace p5 := eq_true p5
              replace q5 := eq_true q5
              go_wp2
              go_ret
              exact ⟨by first | rfl | (simp; done) | (simp [*]; done), by repeat (first | exact Drawn0.refl _ | apply Drawn0.step)⟩
            · rw [if_neg c6] at H
              have c6b0 : ((bt a0 x6_1) == 13) = false := beq_eq_false_iff_ne.mpr c6
              have c6b1 : ((bt a0 x6_1) != 13) = true := bne_iff_ne.mpr c6
              have H' := Aside0.mk H
              clear H
              have p5 : 0 ≤ (x6_1 : Int) := of_decide_eq_true (by first | (with_reducible assumption) | assumption)
              have q5 : x6_1 < (a0.size : Int) := of_decide_eq_true (by first | (with_reducible assumption) | assumption)
              have hx5 := bt_at a0 x6_1
              replace p5 := eq_true p5
              replace q5 := eq_true q5
              go_wp2
              go_roundg k1
              case measure => have := HK1.out; omega
              case rel => exact ⟨(wrap64 (x6_1 + 1)), (by first | rfl | (simp; done) | (simp [*]; done)), H', ⟨by have := HK1.out; omega⟩, by repeat (first | exact Drawn0.refl _ | apply Drawn0.step)⟩
          · rw [if_neg c4] at H
            exact absurd H (by simp)
        · rw [if_neg c3] at H
          exact absurd H (by simp)
      · rw [if_neg c2] at H
        have c2b0 : decide (x6_1 < (a0.size : Int)) = false := decide_eq_false c2
        clear c2
        replace H := Option.bind_eq_some_iff.mp H
        obtain ⟨t133, A70, H⟩ := H
        replace H : (some t133) = some r := H
        have A7 := Aside0.mk A70
        clear A70
        obtain rfl := Option.some.inj H
        go_wp2_with (first | ((with_reducible refine gate_callee (f := 13) rfl ?_); refine goesL_ (some 15) rfl rfl Tryz.func13 (by kernel_rfl) rfl #[.string a0] rfl (by (try simp only [List.map_toArray, List.map_cons, List.map_nil]); first | done | rfl | (simp only [List.length_drop, List.length_take]; rfl)) ?_; (with_reducible refine (spec_Chars.calls k1 a0 t133 _ A7.out).mono ?_); rintro e w' ⟨rfl, ⟨nd, rfl⟩⟩; refine ⟨_, rfl, ?_⟩))
        go_ret
        exact ⟨by first | rfl | (simp; done) | (simp [*]; done), by repeat (first | exact Drawn0.refl _ | apply Drawn0.step)⟩

/-! ### spec_holds: function 15 -/
def spec_holds.l0 : Nat → ByteArray → ByteArray → Int → Option (Bool)
  | 0, _, _, _ => none
  | k + 1, x0, x1, x5 => if (wrap64 (x5 + (x1.size : Int))) ≤ (x0.size : Int) then (if 0 ≤ x5 then (if x5 ≤ (wrap64 (x5 + (x1.size : Int))) then (if (x0.extract (x5 : Int).toNat ((wrap64 (x5 + (x1.size : Int))) : Int).toNat).toList = x1.toList then (some true) else (spec_holds.l0 k x0 x1 (wrap64 (x5 + 1)))) else (none)) else (none)) else (some false)
def spec_holds.f (k : Nat) (a0 : ByteArray) (a1 : ByteArray) : Option (Bool) := spec_holds.l0 k a0 a1 0
theorem spec_holds.mono_l : ∀ k, (∀ y0 y1 y2, LeO (spec_holds.l0 k y0 y1 y2) (spec_holds.l0 (k + 1) y0 y1 y2))
  | 0 => fun _ _ _ r h => by simp [spec_holds.l0] at h
  | k + 1 => by
    have ih0 := spec_holds.mono_l k
    · intro y0 y1 y2
      unfold spec_holds.l0
      repeat' first
      | (with_reducible exact ih0 _ _ _)
      | (with_reducible exact LeO.refl _)
      | (with_reducible exact LeO.none _)
      | (with_reducible refine LeO.ite ?_ ?_)
      | (with_reducible refine LeO.bind ?_ (fun _ => ?_))
      | exact ih0 _ _ _
      | exact LeO.none _
      | refine LeO.ite ?_ ?_
      | refine LeO.bind ?_ (fun _ => ?_)
theorem spec_holds.mono : ∀ a0 a1 k, LeO (spec_holds.f k a0 a1) (spec_holds.f (k + 1) a0 a1) := by
  intro a0 a1 k
  have ih0 := spec_holds.mono_l k
  unfold spec_holds.f
  repeat' first
      | (with_reducible exact ih0 _ _ _)
      | (with_reducible exact LeO.refl _)
      | (with_reducible exact LeO.none _)
      | (with_reducible refine LeO.ite ?_ ?_)
      | (with_reducible refine LeO.bind ?_ (fun _ => ?_))
      | exact ih0 _ _ _
      | exact LeO.none _
      | refine LeO.ite ?_ ?_
      | refine LeO.bind ?_ (fun _ => ?_)
set_option maxHeartbeats 8000000 in
set_option maxRecDepth 100000 in
theorem spec_holds.calls (k : Nat) (a0 : ByteArray) (a1 : ByteArray) (r : Bool) (w : World) (h : spec_holds.f k a0 a1 = some r) :
    Calls Tryz.prog 15 #[.string a0, .string a1] w fun e w' => e = .returned (.bool r) ∧ Drawn0 w w' := by
  have H : (spec_holds.l0 k a0 a1 0) = some r := h
  clear h
  have H' := Aside0.mk H
  clear H
  go_enter Tryz.func15, Tryz.ntmps15
  go_wp2
  go_loopg [5] k (fun kq v5 w' => ∃ (x5_1 : Int), v5 = .int .i64 x5_1 ∧ Aside0 (spec_holds.l0 kq a0 a1 x5_1 = some r) ∧ Aside0 (kq ≤ k) ∧ Drawn0 w w')
  case atStart => exact ⟨(0), (by first | rfl | (simp; done) | (simp [*]; done)), H', ⟨Nat.le_refl _⟩, by repeat (first | exact Drawn0.refl _ | apply Drawn0.step)⟩
  case round =>
    clear H'
    try clear c1
    try clear p2
    obtain ⟨x5_1, rfl, HA, HK1, ⟨m1, rfl⟩⟩ := hrel
    cases gk with
    | zero => exact absurd HA.out (by simp [spec_holds.l0])
    | succ k1 =>
      have H := HA.out
      clear HA
      simp only [spec_holds.l0] at H
      by_cases c3 : (wrap64 (x5_1 + (a1.size : Int))) ≤ (a0.size : Int)
      · rw [if_pos c3] at H
        have c3b0 : decide ((wrap64 (x5_1 + (a1.size : Int))) ≤ (a0.size : Int)) = true := decide_eq_true c3
        clear c3
        by_cases c4 : 0 ≤ x5_1
        · rw [if_pos c4] at H
          have c4b0 := eq_true c4
          have c4b1 : decide (0 ≤ x5_1) = true := decide_eq_true c4
          clear c4
          by_cases c5 : x5_1 ≤ (wrap64 (x5_1 + (a1.size : Int)))
          · rw [if_pos c5] at H
            have c5b0 := eq_true c5
            have c5b1 : decide (x5_1 ≤ (wrap64 (x5_1 + (a1.size : Int)))) = true := decide_eq_true c5
            have c6b0 := eq_true (of_decide_eq_true (by first | (with_reducible assumption) | assumption) : (wrap64 (x5_1 + (a1.size : Int))) ≤ (a0.size : Int))
            by_cases c7 : (a0.extract (x5_1 : Int).toNat ((wrap64 (x5_1 + (a1.size : Int))) : Int).toNat).toList = a1.toList
            · rw [if_pos c7] at H
              have c7b0 : ((a0.extract (x5_1 : Int).toNat ((wrap64 (x5_1 + (a1.size : Int))) : Int).toNat).toList == a1.toList) = true := beq_iff_eq.mpr c7
              have c7b1 : ((a0.extract (x5_1 : Int).toNat ((wrap64 (x5_1 + (a1.size : Int))) : Int).toNat).toList != a1.toList) = false := bne_eq_false_iff_eq.mpr c7
              clear c7
              obtain rfl := Option.some.inj H
              go_wp2
              go_ret
              exact ⟨by first | rfl | (simp; done) | (simp [*]; done), by repeat (first | exact Drawn0.refl _ | apply Drawn0.step)⟩
            · rw [if_neg c7] at H
              have c7b0 : ((a0.extract (x5_1 : Int).toNat ((wrap64 (x5_1 + (a1.size : Int))) : Int).toNat).toList == a1.toList) = false := beq_eq_false_iff_ne.mpr c7
              have c7b1 : ((a0.extract (x5_1 : Int).toNat ((wrap64 (x5_1 + (a1.size : Int))) : Int).toNat).toList != a1.toList) = true := bne_iff_ne.mpr c7
              have H' := Aside0.mk H
              clear H
              go_wp2
              go_roundg k1
              case measure => have := HK1.out; omega
              case rel => exact ⟨(wrap64 (x5_1 + 1)), (by first | rfl | (simp; done) | (simp [*]; done)), H', ⟨by have := HK1.out; omega⟩, by repeat (first | exact Drawn0.refl _ | apply Drawn0.step)⟩
          · rw [if_neg c5] at H
            exact absurd H (by simp)
        · rw [if_neg c4] at H
          exact absurd H (by simp)
      · rw [if_neg c3] at H
        have c3b0 : decide ((wrap64 (x5_1 + (a1.size : Int))) ≤ (a0.size : Int)) = false := decide_eq_false c3
        clear c3
        obtain rfl := Option.some.inj H
        go_wp2
        go_ret
        exact ⟨by first | rfl | (simp; done) | (simp [*]; done), by repeat (first | exact Drawn0.refl _ | apply Drawn0.step)⟩

/-! ### spec_reserved: function 16 -/
def spec_reserved.f (a0 : ByteArray) : Option (Bool) := if (a0.size : Int) ≥ 3 then (if 0 < (a0.size : Int) then (if (Go.bits .or .u8 (bt a0 0) 32) = 120 then (if 1 < (a0.size : Int) then (if (Go.bits .or .u8 (bt a0 1) 32) = 109 then (if 2 < (a0.size : Int) then (some ((Go.bits .or .u8 (bt a0 2) 32) == 108)) else (none)) else (some false)) else (none)) else (some false)) else (none)) else (some false)
set_option maxHeartbeats 8000000 in
set_option maxRecDepth 100000 in
theorem spec_reserved.calls (a0 : ByteArray) (r : Bool) (w : World) (h : spec_reserved.f a0 = some r) :
    Calls Tryz.prog 16 #[.string a0] w fun e w' => e = .returned (.bool r) ∧ Drawn0 w w' := by
  have H : (if (a0.size : Int) ≥ 3 then (if 0 < (a0.size : Int) then (if (Go.bits .or .u8 (bt a0 0) 32) = 120 then (if 1 < (a0.size : Int) then (if (Go.bits .or .u8 (bt a0 1) 32) = 109 then (if 2 < (a0.size : Int) then (some ((Go.bits .or .u8 (bt a0 2) 32) == 108)) else (none)) else (some false)) else (none)) else (some false)) else (none)) else (some false)) = some r := h
  clear h
  by_cases c2 : (a0.size : Int) ≥ 3
  · rw [if_pos c2] at H
    have c2b0 : decide (3 ≤ (a0.size : Int)) = true := decide_eq_true c2
    have c2b1 : decide (3 ≤ a0.size) = true := decide_eq_true (by omega)
    clear c2
    by_cases c3 : 0 < (a0.size : Int)
    · rw [if_pos c3] at H
      have c3b0 : decide (0 < (a0.size : Int)) = true := decide_eq_true c3
      have c3b1 : decide (0 < a0.size) = true := decide_eq_true (by omega)
      clear c3
      by_cases c5 : (Go.bits .or .u8 (bt a0 0) 32) = 120
      · rw [if_pos c5] at H
        have c5b0 : ((Go.bits .or .u8 (bt a0 0) 32) == 120) = true := beq_iff_eq.mpr c5
        have c5b1 : ((Go.bits .or .u8 (bt a0 0) 32) != 120) = false := bne_eq_false_iff_eq.mpr c5
        clear c5
        by_cases c6 : 1 < (a0.size : Int)
        · rw [if_pos c6] at H
          have c6b0 : decide (1 < (a0.size : Int)) = true := decide_eq_true c6
          have c6b1 : decide (1 < a0.size) = true := decide_eq_true (by omega)
          clear c6
          by_cases c8 : (Go.bits .or .u8 (bt a0 1) 32) = 109
          · rw [if_pos c8] at H
            have c8b0 : ((Go.bits .or .u8 (bt a0 1) 32) == 109) = true := beq_iff_eq.mpr c8
            have c8b1 : ((Go.bits .or .u8 (bt a0 1) 32) != 109) = false := bne_eq_false_iff_eq.mpr c8
            clear c8
            by_cases c9 : 2 < (a0.size : Int)
            · rw [if_pos c9] at H
              have c9b0 : decide (2 < (a0.size : Int)) = true := decide_eq_true c9
              have c9b1 : decide (2 < a0.size) = true := decide_eq_true (by omega)
              clear c9
              obtain rfl := Option.some.inj H
              have p4 : 0 ≤ (0 : Int) := (by omega)
              have q4 : 0 < a0.size := (by have : (0 : Int) < (a0.size : Int) := of_decide_eq_true (by first | (with_reducible assumption) | assumption); omega)
              have hx4 : ∀ h : 0 < a0.size, ((a0[0]'h).toNat : Int) = bt a0 0 := bt_at a0 0
              clear p4
              have qi4 : (0 < (a0.size : Int)) = True := eq_true (of_decide_eq_true (by first | (with_reducible assumption) | assumption))
              replace q4 := eq_true q4
              have p7 : 0 ≤ (1 : Int) := (by omega)
              have q7 : 1 < a0.size := (by have : (1 : Int) < (a0.size : Int) := of_decide_eq_true (by first | (with_reducible assumption) | assumption); omega)
              have hx7 : ∀ h : 1 < a0.size, ((a0[1]'h).toNat : Int) = bt a0 1 := bt_at a0 1
              clear p7
              have qi7 : (1 < (a0.size : Int)) = True := eq_true (of_decide_eq_true (by first | (with_reducible assumption) | assumption))
              replace q7 := eq_true q7
              have p10 : 0 ≤ (2 : Int) := (by omega)
              have q10 : 2 < a0.size := (by have : (2 : Int) < (a0.size : Int) := of_decide_eq_true (by first | (with_reducible assumption) | assumption); omega)
              have hx10 : ∀ h : 2 < a0.size, ((a0[2]'h).toNat : Int) = bt a0 2 := bt_at a0 2
              clear p10
              have qi10 : (2 < (a0.size : Int)) = True := eq_true (of_decide_eq_true (by first | (with_reducible assumption) | assumption))
              replace q10 := eq_true q10
              go_enter Tryz.func16, Tryz.ntmps16
              go_wp2
              go_ret
              exact ⟨by first | rfl | (simp; done) | (simp [*]; done), by repeat (first | exact Drawn0.refl _ | apply Drawn0.step)⟩
            · rw [if_neg c9] at H
              exact absurd H (by simp)
          · rw [if_neg c8] at H
            have c8b0 : ((Go.bits .or .u8 (bt a0 1) 32) == 109) = false := beq_eq_false_iff_ne.mpr c8
            have c8b1 : ((Go.bits .or .u8 (bt a0 1) 32) != 109) = true := bne_iff_ne.mpr c8
            obtain rfl := Option.some.inj H
            have p4 : 0 ≤ (0 : Int) := (by omega)
            have q4 : 0 < a0.size := (by have : (0 : Int) < (a0.size : Int) := of_decide_eq_true (by first | (with_reducible assumption) | assumption); omega)
            have hx4 : ∀ h : 0 < a0.size, ((a0[0]'h).toNat : Int) = bt a0 0 := bt_at a0 0
            clear p4
            have qi4 : (0 < (a0.size : Int)) = True := eq_true (of_decide_eq_true (by first | (with_reducible assumption) | assumption))
            replace q4 := eq_true q4
            have p7 : 0 ≤ (1 : Int) := (by omega)
            have q7 : 1 < a0.size := (by have : (1 : Int) < (a0.size : Int) := of_decide_eq_true (by first | (with_reducible assumption) | assumption); omega)
            have hx7 : ∀ h : 1 < a0.size, ((a0[1]'h).toNat : Int) = bt a0 1 := bt_at a0 1
            clear p7
            have qi7 : (1 < (a0.size : Int)) = True := eq_true (of_decide_eq_true (by first | (with_reducible assumption) | assumption))
            replace q7 := eq_true q7
            go_enter Tryz.func16, Tryz.ntmps16
            go_wp2
            go_ret
            exact ⟨by first | rfl | (simp; done) | (simp [*]; done), by repeat (first | exact Drawn0.refl _ | apply Drawn0.step)⟩
        · rw [if_neg c6] at H
          exact absurd H (by simp)
      · rw [if_neg c5] at H
        have c5b0 : ((Go.bits .or .u8 (bt a0 0) 32) == 120) = false := beq_eq_false_iff_ne.mpr c5
        have c5b1 : ((Go.bits .or .u8 (bt a0 0) 32) != 120) = true := bne_iff_ne.mpr c5
        obtain rfl := Option.some.inj H
        have p4 : 0 ≤ (0 : Int) := (by omega)
        have q4 : 0 < a0.size := (by have : (0 : Int) < (a0.size : Int) := of_decide_eq_true (by first | (with_reducible assumption) | assumption); omega)
        have hx4 : ∀ h : 0 < a0.size, ((a0[0]'h).toNat : Int) = bt a0 0 := bt_at a0 0
        clear p4
        have qi4 : (0 < (a0.size : Int)) = True := eq_true (of_decide_eq_true (by first | (with_reducible assumption) | assumption))
        replace q4 := eq_true q4
        go_enter Tryz.func16, Tryz.ntmps16
        go_wp2
        go_ret
        exact ⟨by first | rfl | (simp; done) | (simp [*]; done), by repeat (first | exact Drawn0.refl _ | apply Drawn0.step)⟩
    · rw [if_neg c3] at H
      exact absurd H (by simp)
  · rw [if_neg c2] at H
    have c2b0 : decide (3 ≤ (a0.size : Int)) = false := decide_eq_false c2
    have c2b1 : decide (3 ≤ a0.size) = false := decide_eq_false (by omega)
    clear c2
    obtain rfl := Option.some.inj H
    go_enter Tryz.func16, Tryz.ntmps16
    go_wp2
    go_ret
    exact ⟨by first | rfl | (simp; done) | (simp [*]; done), by repeat (first | exact Drawn0.refl _ | apply Drawn0.step)⟩

/-! ### spec_isSpace: function 17 -/
def spec_isSpace.f (a0 : Int) : Option (Bool) := if a0 = 32 then (some true) else (if a0 = 9 then (some true) else (if a0 = 10 then (some true) else (some (a0 == 13))))
set_option maxHeartbeats 8000000 in
set_option maxRecDepth 100000 in
theorem spec_isSpace.calls (a0 : Int) (r : Bool) (w : World) (h : spec_isSpace.f a0 = some r) :
    Calls Tryz.prog 17 #[.int .u8 a0] w fun e w' => e = .returned (.bool r) ∧ Drawn0 w w' := by
  have H : (if a0 = 32 then (some true) else (if a0 = 9 then (some true) else (if a0 = 10 then (some true) else (some (a0 == 13))))) = some r := h
  clear h
  by_cases c2 : a0 = 32
  · rw [if_pos c2] at H
    have c2b0 : (a0 == 32) = true := beq_iff_eq.mpr c2
    have c2b1 : (a0 != 32) = false := bne_eq_false_iff_eq.mpr c2
    clear c2
    obtain rfl := Option.some.inj H
    go_enter Tryz.func17, Tryz.ntmps17
    go_wp2
    go_ret
    exact ⟨by first | rfl | (simp; done) | (simp [*]; done), by repeat (first | exact Drawn0.refl _ | apply Drawn0.step)⟩
  · rw [if_neg c2] at H
    have c2b0 : (a0 == 32) = false := beq_eq_false_iff_ne.mpr c2
    have c2b1 : (a0 != 32) = true := bne_iff_ne.mpr c2
    by_cases c3 : a0 = 9
    · rw [if_pos c3] at H
      have c3b0 : (a0 == 9) = true := beq_iff_eq.mpr c3
      have c3b1 : (a0 != 9) = false := bne_eq_false_iff_eq.mpr c3
      clear c3
      obtain rfl := Option.some.inj H
      go_enter Tryz.func17, Tryz.ntmps17
      go_wp2
      go_ret
      exact ⟨by first | rfl | (simp; done) | (simp [*]; done), by repeat (first | exact Drawn0.refl _ | apply Drawn0.step)⟩
    · rw [if_neg c3] at H
      have c3b0 : (a0 == 9) = false := beq_eq_false_iff_ne.mpr c3
      have c3b1 : (a0 != 9) = true := bne_iff_ne.mpr c3
      by_cases c4 : a0 = 10
      · rw [if_pos c4] at H
        have c4b0 : (a0 == 10) = true := beq_iff_eq.mpr c4
        have c4b1 : (a0 != 10) = false := bne_eq_false_iff_eq.mpr c4
        clear c4
        obtain rfl := Option.some.inj H
        go_enter Tryz.func17, Tryz.ntmps17
        go_wp2
        go_ret
        exact ⟨by first | rfl | (simp; done) | (simp [*]; done), by repeat (first | exact Drawn0.refl _ | apply Drawn0.step)⟩
      · rw [if_neg c4] at H
        have c4b0 : (a0 == 10) = false := beq_eq_false_iff_ne.mpr c4
        have c4b1 : (a0 != 10) = true := bne_iff_ne.mpr c4
        obtain rfl := Option.some.inj H
        go_enter Tryz.func17, Tryz.ntmps17
        go_wp2
        go_ret
        exact ⟨by first | rfl | (simp; done) | (simp [*]; done), by repeat (first | exact Drawn0.refl _ | apply Drawn0.step)⟩

-- NOT PRINTED: function 5 (spec_Plain)

-- NOT PRINTED: function 49 (bufio_NewWriterSize)

-- NOT PRINTED: function 31 (bufio_NewWriter)

-- NOT PRINTED: function 19 (xml_NewEncoder)

-- NOT PRINTED: function 20 (xml_Encoder_Indent)

-- NOT PRINTED: function 21 (impl_given)

-- NOT PRINTED: function 50 (reflectlite_TypeOf)

-- NOT PRINTED: function 51 (errors_is)

-- NOT PRINTED: function 32 (errors_Is)

-- NOT PRINTED: function 52 (reflectlite_ValueOf)

-- NOT PRINTED: function 53 (reflectlite_Value_Type)

-- NOT PRINTED: function 54 (reflectlite_Value_IsNil)

-- NOT PRINTED: function 71 (reflectlite_Value_Elem)

-- NOT PRINTED: function 72 (reflectlite_Value_Set)

-- NOT PRINTED: function 55 (errors_as)

-- NOT PRINTED: function 33 (errors_As)

-- NOT PRINTED: function 22 (impl_code)

-- NOT PRINTED: function 38 (errors_New)

-- NOT PRINTED: function 42 (bufio_Writer_Buffered)

-- NOT PRINTED: function 46 (bufio_Writer_Flush)

-- NOT PRINTED: function 82 (bufio_Writer_Available)

-- NOT PRINTED: function 64 (bufio_Writer_WriteString)

-- NOT PRINTED: function 39 (xml_printer_WriteString)

-- NOT PRINTED: function 70 (bufio_Writer_WriteByte)

-- NOT PRINTED: function 44 (xml_printer_WriteByte)

-- NOT PRINTED: function 56 (xml_printer_markPrefix)

-- NOT PRINTED: function 57 (xml_printer_writeIndent)

end Go.Proofs.YtjoahpmalhmjkaaGreatDoor.PFnEncodeNested
