/- What is proved here: the walk of the laws' given; no condition but those that it names. Cut by wip/tools/enctexts.py's way out of a printed text. -/
import Derived.Test.YtjoahpmalhmjkaaGreatDoorPFnEncodeNestedx0
namespace Go.Proofs.YtjoahpmalhmjkaaGreatDoor.PFnEncodeNested
open Go.RowKit Go.Proofs.YtjoahpmalhmjkaaGreatDoorW.PrintWords Go.Proofs.YtjoahpmalhmjkaaGreatDoorW.PrintLast Go.Proofs.YtjoahpmalhmjkaaGreatDoorW.PrintMore
attribute [local go_sem] max2_int min2_int max_two min_two max_three min_three max_four min_four   -- for this text's walks alone
set_option linter.unusedVariables false
set_option linter.unusedSimpArgs false

/-! ### laws_given: function 8 -/
mutual
def laws_given.l0 : Nat → List (S49) → List (S28) → Int → Int → Option ((List (S49)))
  | 0, _, _, _, _ => none
  | k + 1, x3, x9, x10, x11 => if x11 < x10 then (if 0 ≤ x11 then (if x11 < (x9.length : Int) then (laws_given.l1 k x3 ([] : List (S60)) x9 x10 x11 ((rd_T28 x9 x11).f3) (((rd_T28 x9 x11).f3).length : Int) 0 ((rd_T28 x9 x11).f0) ((rd_T28 x9 x11).f1) ((rd_T28 x9 x11).f2) ((rd_T28 x9 x11).f3) ((rd_T28 x9 x11).f4) ((rd_T28 x9 x11).f5)) else (none)) else (none)) else (some x3)
def laws_given.l1 : Nat → List (S49) → List (S60) → List (S28) → Int → Int → List (S59) → Int → Int → Int → ByteArray → ByteArray → List (S59) → ByteArray → Int → Option ((List (S49)))
  | 0, _, _, _, _, _, _, _, _, _, _, _, _, _, _ => none
  | k + 1, x3, x6, x9, x10, x11, x16, x17, x18, x196000, x196001, x196002, x196003, x196004, x196005 => if x18 < x17 then (if 0 ≤ x18 then (if x18 < (x16.length : Int) then (if x6.length < 2932031007402 then (laws_given.l1 k x3 (x6 ++ [(⟨(rd_T59 x16 x18).f0, (rd_T59 x16 x18).f1, (rd_T59 x16 x18).f2⟩ : S60)]) x9 x10 x11 x16 x17 (wrap64 (x18 + 1)) x196000 x196001 x196002 x196003 x196004 x196005) else (none)) else (none)) else (none)) else (if x3.length < 1353245080339 then (laws_given.l0 k (x3 ++ [(⟨x196000, x196001, x196002, x6, x196004, 0, 0, 0⟩ : S49)]) x9 x10 (wrap64 (x11 + 1))) else (none))
end
def laws_given.f (k : Nat) (l0 : List (S28)) : Option ((List (S49))) := laws_given.l0 k ([] : List (S49)) l0 (l0.length : Int) 0
theorem laws_given.mono_l : ∀ k, (∀ y0 y1 y2 y3, LeO (laws_given.l0 k y0 y1 y2 y3) (laws_given.l0 (k + 1) y0 y1 y2 y3)) ∧ (∀ y0 y1 y2 y3 y4 y5 y6 y7 y8 y9 y10 y11 y12 y13, LeO (laws_given.l1 k y0 y1 y2 y3 y4 y5 y6 y7 y8 y9 y10 y11 y12 y13) (laws_given.l1 (k + 1) y0 y1 y2 y3 y4 y5 y6 y7 y8 y9 y10 y11 y12 y13))
  | 0 => ⟨fun _ _ _ _ r h => by simp [laws_given.l0] at h, fun _ _ _ _ _ _ _ _ _ _ _ _ _ _ r h => by simp [laws_given.l1] at h⟩
  | k + 1 => by
    obtain ⟨ih0, ih1⟩ := laws_given.mono_l k
    refine ⟨?_, ?_⟩
    · intro y0 y1 y2 y3
      unfold laws_given.l0
      repeat' first
      | (with_reducible exact ih0 _ _ _ _)
      | (with_reducible exact ih1 _ _ _ _ _ _ _ _ _ _ _ _ _ _)
      | (with_reducible exact LeO.refl _)
      | (with_reducible exact LeO.none _)
      | (with_reducible refine LeO.ite ?_ ?_)
      | (with_reducible refine LeO.bind ?_ (fun _ => ?_))
      | exact ih0 _ _ _ _
      | exact ih1 _ _ _ _ _ _ _ _ _ _ _ _ _ _
      | exact LeO.none _
      | refine LeO.ite ?_ ?_
      | refine LeO.bind ?_ (fun _ => ?_)
    · intro y0 y1 y2 y3 y4 y5 y6 y7 y8 y9 y10 y11 y12 y13
      unfold laws_given.l1
      repeat' first
      | (with_reducible exact ih0 _ _ _ _)
      | (with_reducible exact ih1 _ _ _ _ _ _ _ _ _ _ _ _ _ _)
      | (with_reducible exact LeO.refl _)
      | (with_reducible exact LeO.none _)
      | (with_reducible refine LeO.ite ?_ ?_)
      | (with_reducible refine LeO.bind ?_ (fun _ => ?_))
      | exact ih0 _ _ _ _
      | exact ih1 _ _ _ _ _ _ _ _ _ _ _ _ _ _
      | exact LeO.none _
      | refine LeO.ite ?_ ?_
      | refine LeO.bind ?_ (fun _ => ?_)
theorem laws_given.mono : ∀ a0 k, LeO (laws_given.f k a0) (laws_given.f (k + 1) a0) := by
  intro a0 k
  obtain ⟨ih0, ih1⟩ := laws_given.mono_l k
  unfold laws_given.f
  repeat' first
      | (with_reducible exact ih0 _ _ _ _)
      | (with_reducible exact ih1 _ _ _ _ _ _ _ _ _ _ _ _ _ _)
      | (with_reducible exact LeO.refl _)
      | (with_reducible exact LeO.none _)
      | (with_reducible refine LeO.ite ?_ ?_)
      | (with_reducible refine LeO.bind ?_ (fun _ => ?_))
      | exact ih0 _ _ _ _
      | exact ih1 _ _ _ _ _ _ _ _ _ _ _ _ _ _
      | exact LeO.none _
      | refine LeO.ite ?_ ?_
      | refine LeO.bind ?_ (fun _ => ?_)
set_option maxHeartbeats 8000000 in
set_option maxRecDepth 100000 in
theorem laws_given.calls (k : Nat) (A0 : Option Addr) (c0 : Nat) (l0 : List (S28)) (r : List (S49)) (w : World) (hr0 : Kd.C k28 w A0 l0.length l0) (hc0 : l0.length ≤ c0) (h : laws_given.f k l0 = some r) :
    Calls Tryz.prog 8 #[.slice A0 l0.length c0] w fun e w' => ∃ v0_ : Value, e = .returned (v0_) ∧ Kd.S k49 49 w' w.heap.size (fun _ => True) v0_ r ∧ Below w.heap.size w w' := by
  have hu28 := Tryz.underlying28
  have hu59 := Tryz.underlying59
  have hu60 := Tryz.underlying60
  have hu49 := Tryz.underlying49
  have HR0 := Aside0.mk hr0
  have HC0 := Aside0.mk hc0
  clear hr0 hc0
  have HB := Aside0.mk (Below.refl w.heap.size w)
  have H : (laws_given.l0 k ([] : List (S49)) l0 (l0.length : Int) 0) = some r := h
  clear h
  have H' := Aside0.mk H
  clear H
  go_enter Tryz.func8, Tryz.ntmps8
  go_wp2
  go_loopg [3, 11] k (fun kq v3 v11 w' => ∃ (x3_1 : List (S49)) (x11_1 : Int), v11 = .int .i64 x11_1 ∧ Aside0 (laws_given.l0 kq x3_1 l0 (l0.length : Int) x11_1 = some r) ∧ Aside0 (kq ≤ k) ∧ Aside0 (Kd.S k49 49 w' w.heap.size (fun _ => True) v3 x3_1) ∧ Aside0 (Below w.heap.size w w'))
  case atStart => exact ⟨(([] : List (S49))), (0), (by first | rfl | (simp; done) | (simp [*]; done)), H', ⟨Nat.le_refl _⟩, ⟨by first | exact Kd.S_nil _ _ _ _ _ | exact Kd.N_nil _ _ _ _ _ | exact Kd.V_nil _ _ _ _ _ | exact Kd.Q_nil _ _ _ _ _ | exact Kd.R_nil _ _ _ _ _⟩, ⟨by repeat (first | (with_reducible first | exact HB.out | apply below_alloc | apply pw_below_drewN | apply below_drew1) | exact HB.out)⟩⟩
  case round =>
    clear H'
    obtain ⟨x3_1, x11_1, rfl, HA, HK1, HO_3, HB⟩ := hrel
    cases gk with
    | zero => exact absurd HA.out (by simp [laws_given.l0])
    | succ k1 =>
      have H := HA.out
      clear HA
      simp only [laws_given.l0] at H
      by_cases c2 : x11_1 < (l0.length : Int)
      · rw [if_pos c2] at H
        have c2b0 : decide (x11_1 < (l0.length : Int)) = true := decide_eq_true c2
        clear c2
        by_cases c3 : 0 ≤ x11_1
        · rw [if_pos c3] at H
          have c3b0 : decide (0 ≤ x11_1) = true := decide_eq_true c3
          clear c3
          by_cases c4 : x11_1 < (l0.length : Int)
          · rw [if_pos c4] at H
            have c4b0 : decide (x11_1 < (l0.length : Int)) = true := decide_eq_true c4
            clear c4
            have H' := Aside0.mk H
            clear H
            have p194 : 0 ≤ (x11_1 : Int) := of_decide_eq_true (by first | (with_reducible assumption) | assumption)
            have q194 : x11_1 < (l0.length : Int) := of_decide_eq_true (by first | (with_reducible assumption) | assumption)
            obtain ⟨ad194, A194_3, c194_3, e194, hx194_0, hx194_1, hx194_2, hx194_3, hx194_4, hx194_5, hl194_3, hi194_3⟩ := at_T28 HR0.out x11_1 p194 q194
            cases e194
            replace hx194_0 := (HB.out.cell (World.block_lt_of_cell? w _ hx194_0)).trans hx194_0
            replace hx194_1 := (HB.out.cell (World.block_lt_of_cell? w _ hx194_1)).trans hx194_1
            replace hx194_2 := (HB.out.cell (World.block_lt_of_cell? w _ hx194_2)).trans hx194_2
            replace hx194_3 := (HB.out.cell (World.block_lt_of_cell? w _ hx194_3)).trans hx194_3
            replace hx194_4 := (HB.out.cell (World.block_lt_of_cell? w _ hx194_4)).trans hx194_4
            replace hx194_5 := (HB.out.cell (World.block_lt_of_cell? w _ hx194_5)).trans hx194_5
            have HR194_3 := Aside0.mk hi194_3
            have HC194_3 := Aside0.mk hl194_3
            clear hi194_3 hl194_3
            replace p194 := eq_true p194
            replace q194 := eq_true q194
            go_wp2_with (first | ((with_reducible refine gate_dst (N := 5) rfl ?_); refine box_event ?hg (N := 5) ?hd (cs := #[.int .i64 0, .string (⟨#[]⟩ : ByteArray), .string (⟨#[]⟩ : ByteArray), .slice none 0 0, .string (⟨#[]⟩ : ByteArray), .int .i64 0]) (t := 28) ?hr ?_; (case hd => rfl); (case hg => rfl); (case hr => first | (go_simp; done) | (go_simp; rfl)); intro gb195 hg w5 hbox hb; have n0_ := Aside0.mk (Kd.S_below (by (with_reducible repeat (first | apply Kd.S_alloc | apply Kd.S_drewN | apply Kd.S_drew)); exact HO_3.out) hb); have n1_ := Aside0.mk (below_step (by repeat (first | (with_reducible first | exact HB.out | apply below_alloc | apply pw_below_drewN | apply below_drew1) | exact HB.out)) hb); have n2_ := Aside0.mk (hbox); have n3_ := Aside0.mk ((by rw [hg]; exact (below_size (by repeat (first | (with_reducible first | exact HB.out | apply below_alloc | apply pw_below_drewN | apply below_drew1) | exact HB.out))) : w.heap.size ≤ gb195)); have n4_ := Aside0.mk ((by rw [hg]; exact (below_size (by repeat (first | (with_reducible first | exact HB.out | apply below_alloc | apply pw_below_drewN | apply below_drew1) | exact HB.out))) : w.heap.size ≤ gb195)); clear HO_3; clear HB; have HO_3 := n0_; have HB := n1_; have BK195 := n2_; have GW195 := n3_; have GE195 := n4_; clear n0_ n1_ n2_ n3_ n4_; clear hb hbox hg; have hcz6_0 : w5.cell? ⟨gb195, 0, none⟩ = some (.int .i64 0) := (blk_cell BK195.out 0).trans rfl; have hcz6_1 : w5.cell? ⟨gb195, 1, none⟩ = some (.string (⟨#[]⟩ : ByteArray)) := (blk_cell BK195.out 1).trans rfl; have hcz6_2 : w5.cell? ⟨gb195, 2, none⟩ = some (.string (⟨#[]⟩ : ByteArray)) := (blk_cell BK195.out 2).trans rfl; have hcz6_3 : w5.cell? ⟨gb195, 3, none⟩ = some (.slice none 0 0) := (blk_cell BK195.out 3).trans rfl; have hcz6_4 : w5.cell? ⟨gb195, 4, none⟩ = some (.string (⟨#[]⟩ : ByteArray)) := (blk_cell BK195.out 4).trans rfl; have hcz6_5 : w5.cell? ⟨gb195, 5, none⟩ = some (.int .i64 0) := (blk_cell BK195.out 5).trans rfl; have hfz6_0 := blk_frozen BK195.out 0; have hfz6_1 := blk_frozen BK195.out 1; have hfz6_2 := blk_frozen BK195.out 2; have hfz6_3 := blk_frozen BK195.out 3; have hfz6_4 := blk_frozen BK195.out 4; have hfz6_5 := blk_frozen BK195.out 5))
            go_loopg [6, 18] k1 (fun kq v6 v18 w' => ∃ (x6_2 : List (S60)) (x18_2 : Int), v18 = .int .i64 x18_2 ∧ Aside0 (laws_given.l1 kq x3_1 x6_2 l0 (l0.length : Int) x11_1 ((rd_T28 l0 x11_1).f3) (((rd_T28 l0 x11_1).f3).length : Int) x18_2 ((rd_T28 l0 x11_1).f0) ((rd_T28 l0 x11_1).f1) ((rd_T28 l0 x11_1).f2) ((rd_T28 l0 x11_1).f3) ((rd_T28 l0 x11_1).f4) ((rd_T28 l0 x11_1).f5) = some r) ∧ Aside0 (kq ≤ k1) ∧ Aside0 (Kd.S k49 49 w' w.heap.size (fun k_ => some k_ ≠ (v6 : Value).ownBlock) u3 x3_1) ∧ Aside0 (Kd.R k60 60 w' w.heap.size (fun _ => True) v6 x6_2) ∧ Aside0 (w'.heap[gb195]? = some (.cells #[.int .i64 ((rd_T28 l0 x11_1).f0), .string ((rd_T28 l0 x11_1).f1), .string ((rd_T28 l0 x11_1).f2), (.slice A194_3 ((rd_T28 l0 x11_1).f3).length c194_3), .string ((rd_T28 l0 x11_1).f4), .int .i64 ((rd_T28 l0 x11_1).f5)] 28 (0, 0))) ∧ Aside0 (Below w.heap.size w w'))
            case atStart => exact ⟨(([] : List (S60))), (0), (by first | rfl | (simp; done) | (simp [*]; done)), H', ⟨Nat.le_refl _⟩, ⟨by (with_reducible repeat (first | apply Kd.S_alloc | apply Kd.S_drewN | apply Kd.S_drew)); exact Kd.S_mono (Kd.S_far (p := ⟨gb195, 5, none⟩) (Kd.S_far (p := ⟨gb195, 4, none⟩) (Kd.S_far (p := ⟨gb195, 3, none⟩) (Kd.S_far (p := ⟨gb195, 2, none⟩) (Kd.S_far (p := ⟨gb195, 1, none⟩) (Kd.S_far (p := ⟨gb195, 0, none⟩) (Kd.S_types HO_3.out BK195.out (by decide)) (fun _ hk => hk.2) (.int .i64 ((rd_T28 l0 x11_1).f0))) (fun _ hk => hk.2) (.string ((rd_T28 l0 x11_1).f1))) (fun _ hk => hk.2) (.string ((rd_T28 l0 x11_1).f2))) (fun _ hk => hk.2) (.slice A194_3 ((rd_T28 l0 x11_1).f3).length c194_3)) (fun _ hk => hk.2) (.string ((rd_T28 l0 x11_1).f4))) (fun _ hk => hk.2) (.int .i64 ((rd_T28 l0 x11_1).f5))) (fun _ hk => (by simp [Value.ownBlock]))⟩, ⟨by first | exact Kd.R_nil _ _ _ _ _ | exact Kd.N_nil _ _ _ _ _ | exact Kd.V_nil _ _ _ _ _ | exact Kd.Q_nil _ _ _ _ _ | exact Kd.S_nil _ _ _ _ _⟩, ⟨by (with_reducible repeat (first | refine blk_drewN ?_ _ | refine blk_drew ?_ | refine blk_alloc ?_ _)); refine blk_put (cs := #[.int .i64 ((rd_T28 l0 x11_1).f0), .string ((rd_T28 l0 x11_1).f1), .string ((rd_T28 l0 x11_1).f2), .slice A194_3 ((rd_T28 l0 x11_1).f3).length c194_3, .string ((rd_T28 l0 x11_1).f4), .int .i64 0]) ?_ 5 _ rfl; (with_reducible repeat (first | refine blk_drewN ?_ _ | refine blk_drew ?_ | refine blk_alloc ?_ _)); refine blk_put (cs := #[.int .i64 ((rd_T28 l0 x11_1).f0), .string ((rd_T28 l0 x11_1).f1), .string ((rd_T28 l0 x11_1).f2), .slice A194_3 ((rd_T28 l0 x11_1).f3).length c194_3, .string (⟨#[]⟩ : ByteArray), .int .i64 0]) ?_ 4 _ rfl; (with_reducible repeat (first | refine blk_drewN ?_ _ | refine blk_drew ?_ | refine blk_alloc ?_ _)); refine blk_put (cs := #[.int .i64 ((rd_T28 l0 x11_1).f0), .string ((rd_T28 l0 x11_1).f1), .string ((rd_T28 l0 x11_1).f2), .slice none 0 0, .string (⟨#[]⟩ : ByteArray), .int .i64 0]) ?_ 3 _ rfl; (with_reducible repeat (first | refine blk_drewN ?_ _ | refine blk_drew ?_ | refine blk_alloc ?_ _)); refine blk_put (cs := #[.int .i64 ((rd_T28 l0 x11_1).f0), .string ((rd_T28 l0 x11_1).f1), .string (⟨#[]⟩ : ByteArray), .slice none 0 0, .string (⟨#[]⟩ : ByteArray), .int .i64 0]) ?_ 2 _ rfl; (with_reducible repeat (first | refine blk_drewN ?_ _ | refine blk_drew ?_ | refine blk_alloc ?_ _)); refine blk_put (cs := #[.int .i64 ((rd_T28 l0 x11_1).f0), .string (⟨#[]⟩ : ByteArray), .string (⟨#[]⟩ : ByteArray), .slice none 0 0, .string (⟨#[]⟩ : ByteArray), .int .i64 0]) ?_ 1 _ rfl; (with_reducible repeat (first | refine blk_drewN ?_ _ | refine blk_drew ?_ | refine blk_alloc ?_ _)); refine blk_put (cs := #[.int .i64 0, .string (⟨#[]⟩ : ByteArray), .string (⟨#[]⟩ : ByteArray), .slice none 0 0, .string (⟨#[]⟩ : ByteArray), .int .i64 0]) ?_ 0 _ rfl; (with_reducible repeat (first | refine blk_drewN ?_ _ | refine blk_drew ?_ | refine blk_alloc ?_ _)); exact BK195.out⟩, ⟨by repeat (first | (with_reducible first | exact HB.out | apply below_alloc | apply pw_below_drewN | apply below_drew1 | refine below_set ?_ GE195.out) | exact HB.out)⟩⟩
            case round =>
              clear H'
              try clear c1
              try clear p1
              try clear q1
              try clear hx1
              try clear c2
              try clear c2b0
              try clear p2
              try clear c3
              try clear c3b0
              try clear c4
              try clear c4b0
              try clear hcz6_0
              try clear hcz6_1
              try clear hcz6_2
              try clear hcz6_3
              try clear hcz6_4
              try clear hcz6_5
              try clear hfz6_0
              try clear hfz6_1
              try clear hfz6_2
              try clear hfz6_3
              try clear hfz6_4
              try clear hfz6_5
              try clear hx194_0
              try clear hx194_1
              try clear hx194_2
              try clear hx194_3
              try clear hx194_4
              try clear hx194_5
              try clear p194
              try clear q194
              obtain ⟨x6_2, x18_2, rfl, HA, HK2, HO_3, HO_6, BK195, HB⟩ := hrel
              cases gk with
              | zero => exact absurd HA.out (by simp [laws_given.l1])
              | succ k2 =>
                have H := HA.out
                clear HA
                simp only [laws_given.l1] at H
                by_cases c7 : x18_2 < (((rd_T28 l0 x11_1).f3).length : Int)
                · rw [if_pos c7] at H
                  have c7b0 : decide (x18_2 < (((rd_T28 l0 x11_1).f3).length : Int)) = true := decide_eq_true c7
                  clear c7
                  by_cases c8 : 0 ≤ x18_2
                  · rw [if_pos c8] at H
                    have c8b0 : decide (0 ≤ x18_2) = true := decide_eq_true c8
                    clear c8
                    by_cases c9 : x18_2 < (((rd_T28 l0 x11_1).f3).length : Int)
                    · rw [if_pos c9] at H
                      have c9b0 : decide (x18_2 < (((rd_T28 l0 x11_1).f3).length : Int)) = true := decide_eq_true c9
                      clear c9
                      by_cases c10 : x6_2.length < 2932031007402
                      · rw [if_pos c10] at H
                        have LMc10 := Aside0.mk c10
                        clear c10
                        obtain ⟨y198, hy198⟩ : ∃ y_ : List (S60), y_ = (x6_2 ++ [(⟨(rd_T59 ((rd_T28 l0 x11_1).f3) x18_2).f0, (rd_T59 ((rd_T28 l0 x11_1).f3) x18_2).f1, (rd_T59 ((rd_T28 l0 x11_1).f3) x18_2).f2⟩ : S60)]) := ⟨_, rfl⟩
                        replace H : (laws_given.l1 k2 x3_1 y198 l0 (l0.length : Int) x11_1 ((rd_T28 l0 x11_1).f3) (((rd_T28 l0 x11_1).f3).length : Int) (wrap64 (x18_2 + 1)) ((rd_T28 l0 x11_1).f0) ((rd_T28 l0 x11_1).f1) ((rd_T28 l0 x11_1).f2) ((rd_T28 l0 x11_1).f3) ((rd_T28 l0 x11_1).f4) ((rd_T28 l0 x11_1).f5)) = some r := by first | (rw [hy198]; with_reducible exact H) | (have H2_ := (Option.bind_some _ _).symm.trans H; rw [hy198]; with_reducible exact H2_) | (have H2_ := (Option.bind_some _ _).symm.trans H; with_reducible exact H2_) | with_reducible exact H | (rw [hy198]; exact H) | exact H
                        have Ny198 := Aside0.mk hy198
                        clear hy198
                        have H' := Aside0.mk H
                        clear H
                        have p196 : 0 ≤ (x18_2 : Int) := of_decide_eq_true (by first | (with_reducible assumption) | assumption)
                        have q196 : x18_2 < (((rd_T28 l0 x11_1).f3).length : Int) := of_decide_eq_true (by first | (with_reducible assumption) | assumption)
                        obtain ⟨ad196, e196, hx196_0, hx196_1, hx196_2⟩ := at_T59 HR194_3.out x18_2 p196 q196
                        cases e196
                        replace hx196_0 := (HB.out.cell (World.block_lt_of_cell? w _ hx196_0)).trans hx196_0
                        replace hx196_1 := (HB.out.cell (World.block_lt_of_cell? w _ hx196_1)).trans hx196_1
                        replace hx196_2 := (HB.out.cell (World.block_lt_of_cell? w _ hx196_2)).trans hx196_2
                        replace p196 := eq_true p196
                        replace q196 := eq_true q196
                        go_wp2_with (first | ((with_reducible refine gate_dst (N := 8) rfl ?_); refine box_event ?hg (N := 8) ?hd (cs := #[.string (⟨#[]⟩ : ByteArray), .string (⟨#[]⟩ : ByteArray), .string (⟨#[]⟩ : ByteArray)]) (t := 59) ?hr ?_; (case hd => rfl); (case hg => rfl); (case hr => first | (go_simp; done) | (go_simp; rfl)); intro gb197 hg w11 hbox hb; have n0_ := Aside0.mk (Kd.S_below (by (with_reducible repeat (first | apply Kd.S_alloc | apply Kd.S_drewN | apply Kd.S_drew)); exact HO_3.out) hb); have n1_ := Aside0.mk (Kd.R_below (by (with_reducible repeat (first | apply Kd.R_alloc | apply Kd.R_drewN | apply Kd.R_drew)); exact HO_6.out) hb); have n2_ := Aside0.mk (blk_below (g := gb195) (o := .cells #[.int .i64 ((rd_T28 l0 x11_1).f0), .string ((rd_T28 l0 x11_1).f1), .string ((rd_T28 l0 x11_1).f2), .slice (some ad196) ((rd_T28 l0 x11_1).f3).length c194_3, .string ((rd_T28 l0 x11_1).f4), .int .i64 ((rd_T28 l0 x11_1).f5)] 28 (0, 0)) (by (with_reducible repeat (first | refine blk_drewN ?_ _ | refine blk_drew ?_ | refine blk_alloc ?_ _)); exact BK195.out) hb); have n3_ := Aside0.mk (below_step (by repeat (first | (with_reducible first | exact HB.out | apply below_alloc | apply pw_below_drewN | apply below_drew1 | refine below_set ?_ GE195.out) | exact HB.out)) hb); have n4_ := Aside0.mk (hbox); have n5_ := Aside0.mk ((by rw [hg]; exact (below_size (by repeat (first | (with_reducible first | exact HB.out | apply below_alloc | apply pw_below_drewN | apply below_drew1 | refine below_set ?_ GE195.out) | exact HB.out))) : w.heap.size ≤ gb197)); have n6_ := Aside0.mk ((by rw [hg]; exact (below_size (by repeat (first | (with_reducible first | exact HB.out | apply below_alloc | apply pw_below_drewN | apply below_drew1 | refine below_set ?_ GE195.out) | exact HB.out))) : w.heap.size ≤ gb197)); have n7_ := Aside0.mk ((by rw [hg]; exact Nat.ne_of_lt (blk_lt (g := gb195) (o := .cells #[.int .i64 ((rd_T28 l0 x11_1).f0), .string ((rd_T28 l0 x11_1).f1), .string ((rd_T28 l0 x11_1).f2), .slice (some ad196) ((rd_T28 l0 x11_1).f3).length c194_3, .string ((rd_T28 l0 x11_1).f4), .int .i64 ((rd_T28 l0 x11_1).f5)] 28 (0, 0)) (by (with_reducible repeat (first | refine blk_drewN ?_ _ | refine blk_drew ?_ | refine blk_alloc ?_ _)); exact BK195.out)) : gb195 ≠ gb197)); have n8_ := Aside0.mk ((by rw [hg]; exact Nat.ne_of_gt (blk_lt (g := gb195) (o := .cells #[.int .i64 ((rd_T28 l0 x11_1).f0), .string ((rd_T28 l0 x11_1).f1), .string ((rd_T28 l0 x11_1).f2), .slice (some ad196) ((rd_T28 l0 x11_1).f3).length c194_3, .string ((rd_T28 l0 x11_1).f4), .int .i64 ((rd_T28 l0 x11_1).f5)] 28 (0, 0)) (by (with_reducible repeat (first | refine blk_drewN ?_ _ | refine blk_drew ?_ | refine blk_alloc ?_ _)); exact BK195.out)) : gb197 ≠ gb195)); clear HO_3; clear HO_6; clear BK195; clear HB; have HO_3 := n0_; have HO_6 := n1_; have BK195 := n2_; have HB := n3_; have BK197 := n4_; have GW197 := n5_; have GE197 := n6_; have NB195_197 := n7_; have NB197_195 := n8_; clear n0_ n1_ n2_ n3_ n4_ n5_ n6_ n7_ n8_; clear hb hbox hg; have hnb12 := NB197_195.out; have hnc12 := NB195_197.out; have hcz13_0 : w11.cell? ⟨gb197, 0, none⟩ = some (.string (⟨#[]⟩ : ByteArray)) := (blk_cell BK197.out 0).trans rfl; have hcz13_1 : w11.cell? ⟨gb197, 1, none⟩ = some (.string (⟨#[]⟩ : ByteArray)) := (blk_cell BK197.out 1).trans rfl; have hcz13_2 : w11.cell? ⟨gb197, 2, none⟩ = some (.string (⟨#[]⟩ : ByteArray)) := (blk_cell BK197.out 2).trans rfl; have hfz13_0 := blk_frozen BK197.out 0; have hfz13_1 := blk_frozen BK197.out 1; have hfz13_2 := blk_frozen BK197.out 2) | ((with_reducible refine gate_builtin (b := .append) (xs := #[.tmp 22, .tmp 30]) rfl ?_); at_builtin; refine Kd.R_append k60 (w0 := w) w.heap.size rfl (.tmp 22) (.tmp 30) 47 60 (.agg #[(.string ⟨#[]⟩), (.string ⟨#[]⟩), (.string ⟨#[]⟩)]) 48 rfl Tryz.underlying47 info60 rfl (by decide) (by omega) u6 x6_2 (⟨(rd_T59 ((rd_T28 l0 x11_1).f3) x18_2).f0, (rd_T59 ((rd_T28 l0 x11_1).f3) x18_2).f1, (rd_T59 ((rd_T28 l0 x11_1).f3) x18_2).f2⟩ : S60) [.string ((rd_T59 ((rd_T28 l0 x11_1).f3) x18_2).f0), .string ((rd_T59 ((rd_T28 l0 x11_1).f3) x18_2).f1), .string ((rd_T59 ((rd_T28 l0 x11_1).f3) x18_2).f2)] (fun _ => True) (fun _ => False) rfl (by first | (go_simp; done) | (go_simp; rfl)) ?aP (fun _ hk => hk.elim) ?aF ?aO ?aB ?aS ?aL ?_; (case aP => exact k60_mkM _ _ _ (⟨(rd_T59 ((rd_T28 l0 x11_1).f3) x18_2).f0, (rd_T59 ((rd_T28 l0 x11_1).f3) x18_2).f1, (rd_T59 ((rd_T28 l0 x11_1).f3) x18_2).f2⟩ : S60)); (case aB => exact (by repeat (first | (with_reducible first | exact HB.out | apply below_alloc | apply pw_below_drewN | apply below_drew1 | refine below_set ?_ GE195.out | refine below_set ?_ GE197.out) | exact HB.out))); (case aF => exact (fun _ _ => trivial)); (case aO => exact (by (with_reducible repeat (first | apply Kd.R_alloc | apply Kd.R_drewN | apply Kd.R_drew)); exact Kd.R_mono (Kd.R_far (p := ⟨gb197, 2, none⟩) (Kd.R_far (p := ⟨gb197, 1, none⟩) (Kd.R_far (p := ⟨gb197, 0, none⟩) (Kd.R_types HO_6.out BK197.out (by decide)) (fun _ hk => hk.2) (.string ((rd_T59 ((rd_T28 l0 x11_1).f3) x18_2).f0))) (fun _ hk => hk.2) (.string ((rd_T59 ((rd_T28 l0 x11_1).f3) x18_2).f1))) (fun _ hk => hk.2) (.string ((rd_T59 ((rd_T28 l0 x11_1).f3) x18_2).f2))) (fun _ hk => trivial))); (case aS => exact (below_size (by repeat (first | (with_reducible first | exact HB.out | apply below_alloc | apply pw_below_drewN | apply below_drew1 | refine below_set ?_ GE195.out | refine below_set ?_ GE197.out) | exact HB.out)))); (case aL => have := LMc10.out; omega); intro v199 w14 ho hb hg hat; rw [← Ny198.out] at ho; have n0_ := Aside0.mk (Kd.S_after (ok := (fun _ => True)) (by (with_reducible repeat (first | apply Kd.S_alloc | apply Kd.S_drewN | apply Kd.S_drew)); exact Kd.S_mono (Kd.S_far (p := ⟨gb197, 2, none⟩) (Kd.S_far (p := ⟨gb197, 1, none⟩) (Kd.S_far (p := ⟨gb197, 0, none⟩) (Kd.S_types HO_3.out BK197.out (by decide)) (fun _ hk => hk.2) (.string ((rd_T59 ((rd_T28 l0 x11_1).f3) x18_2).f0))) (fun _ hk => hk.2) (.string ((rd_T59 ((rd_T28 l0 x11_1).f3) x18_2).f1))) (fun _ hk => hk.2) (.string ((rd_T59 ((rd_T28 l0 x11_1).f3) x18_2).f2))) (fun _ hk => ⟨trivial, hk.1⟩)) hg hat); have n1_ := Aside0.mk (blk_grown (g := gb195) (o := .cells #[.int .i64 ((rd_T28 l0 x11_1).f0), .string ((rd_T28 l0 x11_1).f1), .string ((rd_T28 l0 x11_1).f2), .slice (some ad196) ((rd_T28 l0 x11_1).f3).length c194_3, .string ((rd_T28 l0 x11_1).f4), .int .i64 ((rd_T28 l0 x11_1).f5)] 28 (0, 0)) (by (with_reducible repeat (first | refine blk_drewN ?_ _ | refine blk_drew ?_ | refine blk_alloc ?_ _)); refine blk_far ?_ NB195_197.out _; (with_reducible repeat (first | refine blk_drewN ?_ _ | refine blk_drew ?_ | refine blk_alloc ?_ _)); refine blk_far ?_ NB195_197.out _; (with_reducible repeat (first | refine blk_drewN ?_ _ | refine blk_drew ?_ | refine blk_alloc ?_ _)); refine blk_far ?_ NB195_197.out _; (with_reducible repeat (first | refine blk_drewN ?_ _ | refine blk_drew ?_ | refine blk_alloc ?_ _)); exact BK195.out) hg (Kd.R_ne HO_6.out BK195.out (by decide))); have n2_ := Aside0.mk (blk_grown (g := gb197) (o := .cells #[.string ((rd_T59 ((rd_T28 l0 x11_1).f3) x18_2).f0), .string ((rd_T59 ((rd_T28 l0 x11_1).f3) x18_2).f1), .string ((rd_T59 ((rd_T28 l0 x11_1).f3) x18_2).f2)] 59 (0, 0)) (by (with_reducible repeat (first | refine blk_drewN ?_ _ | refine blk_drew ?_ | refine blk_alloc ?_ _)); refine blk_put (cs := #[.string ((rd_T59 ((rd_T28 l0 x11_1).f3) x18_2).f0), .string ((rd_T59 ((rd_T28 l0 x11_1).f3) x18_2).f1), .string (⟨#[]⟩ : ByteArray)]) ?_ 2 _ rfl; (with_reducible repeat (first | refine blk_drewN ?_ _ | refine blk_drew ?_ | refine blk_alloc ?_ _)); refine blk_put (cs := #[.string ((rd_T59 ((rd_T28 l0 x11_1).f3) x18_2).f0), .string (⟨#[]⟩ : ByteArray), .string (⟨#[]⟩ : ByteArray)]) ?_ 1 _ rfl; (with_reducible repeat (first | refine blk_drewN ?_ _ | refine blk_drew ?_ | refine blk_alloc ?_ _)); refine blk_put (cs := #[.string (⟨#[]⟩ : ByteArray), .string (⟨#[]⟩ : ByteArray), .string (⟨#[]⟩ : ByteArray)]) ?_ 0 _ rfl; (with_reducible repeat (first | refine blk_drewN ?_ _ | refine blk_drew ?_ | refine blk_alloc ?_ _)); exact BK197.out) hg (Kd.R_ne HO_6.out BK197.out (by decide))); have n3_ := Aside0.mk (hb); have n4_ := Aside0.mk (ho); clear HO_3; clear BK195; clear BK197; clear HB; clear HO_6; have HO_3 := n0_; have BK195 := n1_; have BK197 := n2_; have HB := n3_; have HO200 := n4_; clear n0_ n1_ n2_ n3_ n4_; clear ho hb hg hat))
                        go_roundg k2
                        case measure => have := HK1.out; have := HK2.out; omega
                        case rel => exact ⟨(y198), (wrap64 (x18_2 + 1)), (by first | rfl | (simp; done) | (simp [*]; done)), H', ⟨by have := HK1.out; have := HK2.out; omega⟩, ⟨by (with_reducible repeat (first | apply Kd.S_alloc | apply Kd.S_drewN | apply Kd.S_drew)); exact Kd.S_mono HO_3.out (fun _ hk => hk.2)⟩, ⟨by (with_reducible repeat (first | apply Kd.R_alloc | apply Kd.R_drewN | apply Kd.R_drew)); exact HO200.out⟩, ⟨by (with_reducible repeat (first | refine blk_drewN ?_ _ | refine blk_drew ?_ | refine blk_alloc ?_ _)); exact BK195.out⟩, ⟨by repeat (first | (with_reducible first | exact HB.out | apply below_alloc | apply pw_below_drewN | apply below_drew1 | refine below_set ?_ GE195.out | refine below_set ?_ GE197.out) | exact HB.out)⟩⟩
                      · rw [if_neg c10] at H
                        exact absurd H (by simp)
                    · rw [if_neg c9] at H
                      exact absurd H (by simp)
                  · rw [if_neg c8] at H
                    exact absurd H (by simp)
                · rw [if_neg c7] at H
                  have c7b0 : decide (x18_2 < (((rd_T28 l0 x11_1).f3).length : Int)) = false := decide_eq_false c7
                  clear c7
                  by_cases c15 : x3_1.length < 1353245080339
                  · rw [if_pos c15] at H
                    have LMc15 := Aside0.mk c15
                    clear c15
                    obtain ⟨y201, hy201⟩ : ∃ y_ : List (S49), y_ = (x3_1 ++ [(⟨((rd_T28 l0 x11_1).f0), ((rd_T28 l0 x11_1).f1), ((rd_T28 l0 x11_1).f2), x6_2, ((rd_T28 l0 x11_1).f4), 0, 0, 0⟩ : S49)]) := ⟨_, rfl⟩
                    replace H : (laws_given.l0 k2 y201 l0 (l0.length : Int) (wrap64 (x11_1 + 1))) = some r := by first | (rw [hy201]; with_reducible exact H) | (have H2_ := (Option.bind_some _ _).symm.trans H; rw [hy201]; with_reducible exact H2_) | (have H2_ := (Option.bind_some _ _).symm.trans H; with_reducible exact H2_) | with_reducible exact H | (rw [hy201]; exact H) | exact H
                    have Ny201 := Aside0.mk hy201
                    clear hy201
                    have H' := Aside0.mk H
                    clear H
                    have hcz16_0 : wr.cell? ⟨gb195, 0, none⟩ = some (.int .i64 ((rd_T28 l0 x11_1).f0)) := (blk_cell BK195.out 0).trans rfl
                    have hcz16_1 : wr.cell? ⟨gb195, 1, none⟩ = some (.string ((rd_T28 l0 x11_1).f1)) := (blk_cell BK195.out 1).trans rfl
                    have hcz16_2 : wr.cell? ⟨gb195, 2, none⟩ = some (.string ((rd_T28 l0 x11_1).f2)) := (blk_cell BK195.out 2).trans rfl
                    have hcz16_3 : wr.cell? ⟨gb195, 3, none⟩ = some (.slice A194_3 ((rd_T28 l0 x11_1).f3).length c194_3) := (blk_cell BK195.out 3).trans rfl
                    have hcz16_4 : wr.cell? ⟨gb195, 4, none⟩ = some (.string ((rd_T28 l0 x11_1).f4)) := (blk_cell BK195.out 4).trans rfl
                    have hcz16_5 : wr.cell? ⟨gb195, 5, none⟩ = some (.int .i64 ((rd_T28 l0 x11_1).f5)) := (blk_cell BK195.out 5).trans rfl
                    have hfz16_0 := blk_frozen BK195.out 0
                    have hfz16_1 := blk_frozen BK195.out 1
                    have hfz16_2 := blk_frozen BK195.out 2
                    have hfz16_3 := blk_frozen BK195.out 3
                    have hfz16_4 := blk_frozen BK195.out 4
                    have hfz16_5 := blk_frozen BK195.out 5
                    obtain ⟨Ao17, co17, eo17⟩ := Kd.R_slice HO_6.out
                    subst eo17
                    go_wp2_with (first | ((with_reducible refine gate_builtin (b := .append) (xs := #[.tmp 33, .tmp 44]) rfl ?_); at_builtin; refine Kd.S_append k49 (w0 := w) w.heap.size rfl (.tmp 33) (.tmp 44) 31 49 (.agg #[(.int .i64 0), (.string ⟨#[]⟩), (.string ⟨#[]⟩), (.slice none 0 0), (.string ⟨#[]⟩), (.int .i64 0), (.int .i64 0), (.int .i64 0)]) 104 rfl Tryz.underlying31 info49 rfl (by decide) (by omega) u3 x3_1 (⟨((rd_T28 l0 x11_1).f0), ((rd_T28 l0 x11_1).f1), ((rd_T28 l0 x11_1).f2), x6_2, ((rd_T28 l0 x11_1).f4), 0, 0, 0⟩ : S49) [.int .i64 ((rd_T28 l0 x11_1).f0), .string ((rd_T28 l0 x11_1).f1), .string ((rd_T28 l0 x11_1).f2), .slice Ao17 x6_2.length co17, .string ((rd_T28 l0 x11_1).f4), .int .i64 0, .int .i64 0, .int .i64 0] (fun _ => True) (fun k_ => some k_ = (.slice Ao17 x6_2.length co17 : Value).ownBlock) rfl rfl ?aP (fun k_ hk_ => ((Kd.R_mono (ok' := fun k_ => ((fun _ => True)) k_ ∧ some k_ ≠ (u3 : Value).ownBlock) (Kd.R_apart' (HO_6.out) (Kd.S_typed HO_3.out) (by decide)) (fun k_ hk => ⟨trivial, hk.2⟩))).1 k_ hk_.symm) ?aF ?aO ?aB ?aS ?aL ?_; (case aP => exact k49_mkM _ _ _ (⟨((rd_T28 l0 x11_1).f0), ((rd_T28 l0 x11_1).f1), ((rd_T28 l0 x11_1).f2), x6_2, ((rd_T28 l0 x11_1).f4), 0, 0, 0⟩ : S49) (Kd.R_mono (Kd.R_tight rfl (Kd.R_mono (ok' := fun k_ => ((fun _ => True)) k_ ∧ some k_ ≠ (u3 : Value).ownBlock) (Kd.R_apart' (HO_6.out) (Kd.S_typed HO_3.out) (by decide)) (fun k_ hk => ⟨trivial, hk.2⟩))) (fun _ h_ => h_))); (case aB => exact (by repeat (first | (with_reducible first | exact HB.out | apply below_alloc | apply pw_below_drewN | apply below_drew1 | refine below_set ?_ GE195.out) | exact HB.out))); (case aF => exact (fun _ _ => trivial)); (case aO => exact (by (with_reducible repeat (first | apply Kd.S_alloc | apply Kd.S_drewN | apply Kd.S_drew)); exact Kd.S_mono HO_3.out (fun k_ hk => ⟨trivial, fun e_ => hk e_⟩))); (case aS => exact (below_size (by repeat (first | (with_reducible first | exact HB.out | apply below_alloc | apply pw_below_drewN | apply below_drew1 | refine below_set ?_ GE195.out) | exact HB.out)))); (case aL => have := LMc15.out; omega); intro v202 w18 ho hb hg hat; rw [← Ny201.out] at ho; have n0_ := Aside0.mk (blk_grown (g := gb195) (o := .cells #[.int .i64 ((rd_T28 l0 x11_1).f0), .string ((rd_T28 l0 x11_1).f1), .string ((rd_T28 l0 x11_1).f2), .slice A194_3 ((rd_T28 l0 x11_1).f3).length c194_3, .string ((rd_T28 l0 x11_1).f4), .int .i64 ((rd_T28 l0 x11_1).f5)] 28 (0, 0)) (by (with_reducible repeat (first | refine blk_drewN ?_ _ | refine blk_drew ?_ | refine blk_alloc ?_ _)); exact BK195.out) hg (Kd.S_ne HO_3.out BK195.out (by decide))); have n1_ := Aside0.mk (hb); have n2_ := Aside0.mk (ho); clear BK195; clear HB; clear HO_3; clear HO_6; have BK195 := n0_; have HB := n1_; have HO203 := n2_; clear n0_ n1_ n2_; clear ho hb hg hat))
                    go_roundg k2
                    case measure => have := HK1.out; have := HK2.out; omega
                    case rel => exact ⟨(y201), (wrap64 (x11_1 + 1)), (by first | rfl | (simp; done) | (simp [*]; done)), H', ⟨by have := HK1.out; have := HK2.out; omega⟩, ⟨by (with_reducible repeat (first | apply Kd.S_alloc | apply Kd.S_drewN | apply Kd.S_drew)); exact HO203.out⟩, ⟨by repeat (first | (with_reducible first | exact HB.out | apply below_alloc | apply pw_below_drewN | apply below_drew1 | refine below_set ?_ GE195.out) | exact HB.out)⟩⟩
                  · rw [if_neg c15] at H
                    exact absurd H (by simp)
          · rw [if_neg c4] at H
            exact absurd H (by simp)
        · rw [if_neg c3] at H
          exact absurd H (by simp)
      · rw [if_neg c2] at H
        have c2b0 : decide (x11_1 < (l0.length : Int)) = false := decide_eq_false c2
        clear c2
        obtain rfl := Option.some.inj H
        go_wp2
        go_ret
        exact ⟨_, by first | rfl | (simp [errW_none, errW_some] <;> rfl) | (simp [*, errW_none, errW_some] <;> rfl), by (with_reducible repeat (first | apply Kd.S_alloc | apply Kd.S_drewN | apply Kd.S_drew)); exact HO_3.out, by repeat (first | (with_reducible first | exact HB.out | apply below_alloc | apply pw_below_drewN | apply below_drew1) | exact HB.out)⟩

-- NOT PRINTED: function 3 (laws_FnEncodeNested)

end Go.Proofs.YtjoahpmalhmjkaaGreatDoor.PFnEncodeNested
