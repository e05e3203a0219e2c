/- What is proved here: the walks of the reference's IsName, neat, IsChar, Chars, named; no condition. Made by wip/tools/enctexts.py out of a printed text. -/
import Derived.Test.YtjoahpmalhmjkaaGreatDoorPFnEncodeNestedx0
import Derived.Test.YtjoahpmalhmjkaaGreatDoorPFnEncodeNestedx2
import Derived.Test.YtjoahpmalhmjkaaGreatDoorNameKind
namespace Go.Proofs.YtjoahpmalhmjkaaGreatDoor.PFnEncodeNested
open Go.RowKit Go.Proofs.YtjoahpmalhmjkaaGreatDoorW.PrintWords Go.Proofs.YtjoahpmalhmjkaaGreatDoorW.PrintLast Go.Proofs.YtjoahpmalhmjkaaGreatDoorW.PrintMore
attribute [local go_sem] max2_int min2_int max_two min_two max_three min_three max_four min_four   -- for this text's walks alone
set_option linter.unusedVariables false
set_option linter.unusedSimpArgs false

/-! ### spec_IsName: function 6 -/
def spec_IsName.l0 : Nat → ByteArray → Int → Int → Option (Bool)
  | 0, _, _, _ => none
  | k + 1, x0, x5, x6 => if x6 < x5 then (if 0 ≤ x6 then (if x6 < (x0.size : Int) then (if (bt x0 x6) = 58 then (some false) else (spec_IsName.l0 k x0 x5 (wrap64 (x6 + 1)))) else (none)) else (none)) else ((spec_NameKind.f k x0).bind fun t116 => (some (t116 == 0)))
def spec_IsName.f (k : Nat) (a0 : ByteArray) : Option (Bool) := spec_IsName.l0 k a0 (a0.size : Int) 0
theorem spec_IsName.mono_l : ∀ k, (∀ y0 y1 y2, LeO (spec_IsName.l0 k y0 y1 y2) (spec_IsName.l0 (k + 1) y0 y1 y2))
  | 0 => fun _ _ _ r h => by simp [spec_IsName.l0] at h
  | k + 1 => by
    have ih0 := spec_IsName.mono_l k
    · intro y0 y1 y2
      unfold spec_IsName.l0
      repeat' first
      | (with_reducible exact ih0 _ _ _)
      | (with_reducible exact spec_NameKind.mono _ _)
      | (with_reducible exact LeO.refl _)
      | (with_reducible exact LeO.none _)
      | (with_reducible refine LeO.ite ?_ ?_)
      | (with_reducible refine LeO.bind ?_ (fun _ => ?_))
      | exact ih0 _ _ _
      | exact spec_NameKind.mono _ _
      | exact LeO.none _
      | refine LeO.ite ?_ ?_
      | refine LeO.bind ?_ (fun _ => ?_)
theorem spec_IsName.mono : ∀ a0 k, LeO (spec_IsName.f k a0) (spec_IsName.f (k + 1) a0) := by
  intro a0 k
  have ih0 := spec_IsName.mono_l k
  unfold spec_IsName.f
  repeat' first
      | (with_reducible exact ih0 _ _ _)
      | (with_reducible exact spec_NameKind.mono _ _)
      | (with_reducible exact LeO.refl _)
      | (with_reducible exact LeO.none _)
      | (with_reducible refine LeO.ite ?_ ?_)
      | (with_reducible refine LeO.bind ?_ (fun _ => ?_))
      | exact ih0 _ _ _
      | exact spec_NameKind.mono _ _
      | exact LeO.none _
      | refine LeO.ite ?_ ?_
      | refine LeO.bind ?_ (fun _ => ?_)
set_option maxHeartbeats 8000000 in
set_option maxRecDepth 100000 in
theorem spec_IsName.calls (k : Nat) (a0 : ByteArray) (r : Bool) (w : World) (h : spec_IsName.f k a0 = some r) :
    Calls Tryz.prog 6 #[.string a0] w fun e w' => e = .returned (.bool r) ∧ Drawn0 w w' := by
  have H : (spec_IsName.l0 k a0 (a0.size : Int) 0) = some r := h
  clear h
  have H' := Aside0.mk H
  clear H
  go_enter Tryz.func6, Tryz.ntmps6
  go_wp2
  go_loopg [6] k (fun kq v6 w' => ∃ (x6_1 : Int), v6 = .int .i64 x6_1 ∧ Aside0 (spec_IsName.l0 kq a0 (a0.size : Int) x6_1 = some r) ∧ Aside0 (kq ≤ k) ∧ Drawn0 w w')
  case atStart => exact ⟨(0), (by first | rfl | (simp; done) | (simp [*]; done)), H', ⟨Nat.le_refl _⟩, by repeat (first | exact Drawn0.refl _ | apply Drawn0.step)⟩
  case round =>
    clear H'
    obtain ⟨x6_1, rfl, HA, HK1, ⟨m1, rfl⟩⟩ := hrel
    cases gk with
    | zero => exact absurd HA.out (by simp [spec_IsName.l0])
    | succ k1 =>
      have H := HA.out
      clear HA
      simp only [spec_IsName.l0] at H
      by_cases c2 : x6_1 < (a0.size : Int)
      · rw [if_pos c2] at H
        have c2b0 : decide (x6_1 < (a0.size : Int)) = true := decide_eq_true c2
        clear c2
        by_cases c3 : 0 ≤ x6_1
        · rw [if_pos c3] at H
          have c3b0 : decide (0 ≤ x6_1) = true := decide_eq_true c3
          clear c3
          by_cases c4 : x6_1 < (a0.size : Int)
          · rw [if_pos c4] at H
            have c4b0 : decide (x6_1 < (a0.size : Int)) = true := decide_eq_true c4
            clear c4
            by_cases c6 : (bt a0 x6_1) = 58
            · rw [if_pos c6] at H
              have c6b0 : ((bt a0 x6_1) == 58) = true := beq_iff_eq.mpr c6
              have c6b1 : ((bt a0 x6_1) != 58) = false := bne_eq_false_iff_eq.mpr c6
              clear c6
              obtain rfl := Option.some.inj H
              have p5 : 0 ≤ (x6_1 : Int) := of_decide_eq_true (by first | (with_reducible assumption) | assumption)
              have q5 : x6_1 < (a0.size : Int) := of_decide_eq_true (by first | (with_reducible assumption) | assumption)
              have hx5 := bt_at a0 x6_1
              replace p5 := eq_true p5
              replace q5 := eq_true q5
              go_wp2
              go_ret
              exact ⟨by first | rfl | (simp; done) | (simp [*]; done), by repeat (first | exact Drawn0.refl _ | apply Drawn0.step)⟩
            · rw [if_neg c6] at H
              have c6b0 : ((bt a0 x6_1) == 58) = false := beq_eq_false_iff_ne.mpr c6
              have c6b1 : ((bt a0 x6_1) != 58) = true := bne_iff_ne.mpr c6
              have H' := Aside0.mk H
              clear H
              have p5 : 0 ≤ (x6_1 : Int) := of_decide_eq_true (by first | (with_reducible assumption) | assumption)
              have q5 : x6_1 < (a0.size : Int) := of_decide_eq_true (by first | (with_reducible assumption) | assumption)
              have hx5 := bt_at a0 x6_1
              replace p5 := eq_true p5
              replace q5 := eq_true q5
              go_wp2
              go_roundg k1
              case measure => have := HK1.out; omega
              case rel => exact ⟨(wrap64 (x6_1 + 1)), (by first | rfl | (simp; done) | (simp [*]; done)), H', ⟨by have := HK1.out; omega⟩, by repeat (first | exact Drawn0.refl _ | apply Drawn0.step)⟩
          · rw [if_neg c4] at H
            exact absurd H (by simp)
        · rw [if_neg c3] at H
          exact absurd H (by simp)
      · rw [if_neg c2] at H
        have c2b0 : decide (x6_1 < (a0.size : Int)) = false := decide_eq_false c2
        clear c2
        replace H := Option.bind_eq_some_iff.mp H
        obtain ⟨t116, A70, H⟩ := H
        replace H : (some (t116 == 0)) = some r := H
        have A7 := Aside0.mk A70
        clear A70
        obtain rfl := Option.some.inj H
        go_wp2_with (first | ((with_reducible refine gate_callee (f := 18) rfl ?_); refine goesL_ (some 15) rfl rfl Tryz.func18 (by kernel_rfl) rfl #[.string a0] rfl (by (try simp only [List.map_toArray, List.map_cons, List.map_nil]); first | done | rfl | (simp only [List.length_drop, List.length_take]; rfl)) ?_; (with_reducible refine (spec_NameKind.calls k1 a0 t116 _ A7.out).mono ?_); rintro e w' ⟨rfl, ⟨nd, rfl⟩⟩; refine ⟨_, rfl, ?_⟩))
        go_ret
        exact ⟨by first | rfl | (simp; done) | (simp [*]; done), by repeat (first | exact Drawn0.refl _ | apply Drawn0.step)⟩

/-! ### spec_neat: function 10 -/
def spec_neat.f (a0_0 : Int) (a0_1 : ByteArray) (a0_2 : ByteArray) (l0_3 : List (S59)) (a0_4 : ByteArray) (a0_5 : Int) : Option (Bool) := if a0_0 = 1 then (some (a0_4.toList == ([] : List UInt8))) else (if a0_0 = 2 then (if (l0_3.length : Int) = 0 then (some (a0_4.toList == ([] : List UInt8))) else (some false)) else (if a0_1.toList = ([] : List UInt8) then (if a0_0 = 5 then (if (l0_3.length : Int) = 0 then (some true) else (some false)) else (if a0_2.toList = ([] : List UInt8) then (if (l0_3.length : Int) = 0 then (some true) else (some false)) else (some false))) else (some false)))
set_option maxHeartbeats 8000000 in
set_option maxRecDepth 100000 in
theorem spec_neat.calls (a0_0 : Int) (a0_1 : ByteArray) (a0_2 : ByteArray) (A0_3 : Option Addr) (c0_3 : Nat) (l0_3 : List (S59)) (a0_4 : ByteArray) (a0_5 : Int) (r : Bool) (w : World) (hr0_3 : Kd.C k59 w A0_3 l0_3.length l0_3) (hc0_3 : l0_3.length ≤ c0_3) (h : spec_neat.f a0_0 a0_1 a0_2 l0_3 a0_4 a0_5 = some r) :
    Calls Tryz.prog 10 #[.agg #[.int .i64 a0_0, .string a0_1, .string a0_2, .slice A0_3 l0_3.length c0_3, .string a0_4, .int .i64 a0_5]] w fun e w' => e = .returned (.bool r) ∧ Below w.heap.size w w' := by
  have hu28 := Tryz.underlying28
  have HR0_3 := Aside0.mk hr0_3
  have HC0_3 := Aside0.mk hc0_3
  clear hr0_3 hc0_3
  have HB := Aside0.mk (Below.refl w.heap.size w)
  have H : (if a0_0 = 1 then (some (a0_4.toList == ([] : List UInt8))) else (if a0_0 = 2 then (if (l0_3.length : Int) = 0 then (some (a0_4.toList == ([] : List UInt8))) else (some false)) else (if a0_1.toList = ([] : List UInt8) then (if a0_0 = 5 then (if (l0_3.length : Int) = 0 then (some true) else (some false)) else (if a0_2.toList = ([] : List UInt8) then (if (l0_3.length : Int) = 0 then (some true) else (some false)) else (some false))) else (some false)))) = some r := h
  clear h
  by_cases c2 : a0_0 = 1
  · rw [if_pos c2] at H
    have c2b0 : (a0_0 == 1) = true := beq_iff_eq.mpr c2
    have c2b1 : (a0_0 != 1) = false := bne_eq_false_iff_eq.mpr c2
    clear c2
    obtain rfl := Option.some.inj H
    go_enter Tryz.func10, Tryz.ntmps10
    go_wp2_with (first | ((with_reducible refine gate_dst (N := 1) rfl ?_); (try (refine gate_guard (by rfl) ?_; dsimp only)); refine box_event ?hg (N := 1) ?hd (cs := #[.int .i64 a0_0, .string a0_1, .string a0_2, .slice A0_3 l0_3.length c0_3, .string a0_4, .int .i64 a0_5]) (t := 28) ?hr ?_; (case hd => rfl); (case hg => rfl); (case hr => first | (go_simp; done) | (go_simp; rfl)); intro gb117 hg w3 hbox hb; have n0_ := Aside0.mk (below_step (by repeat (first | (with_reducible first | exact HB.out | apply below_alloc | apply pw_below_drewN | apply below_drew1) | exact HB.out)) hb); have n1_ := Aside0.mk (hbox); have n2_ := Aside0.mk ((by rw [hg]; exact (below_size (by repeat (first | (with_reducible first | exact HB.out | apply below_alloc | apply pw_below_drewN | apply below_drew1) | exact HB.out))) : w.heap.size ≤ gb117)); have n3_ := Aside0.mk ((by rw [hg]; exact (below_size (by repeat (first | (with_reducible first | exact HB.out | apply below_alloc | apply pw_below_drewN | apply below_drew1) | exact HB.out))) : w.heap.size ≤ gb117)); clear HB; have HB := n0_; have BK117 := n1_; have GW117 := n2_; have GE117 := n3_; clear n0_ n1_ n2_ n3_; clear hb hbox hg; have hcz4_0 : w3.cell? ⟨gb117, 0, none⟩ = some (.int .i64 a0_0) := (blk_cell BK117.out 0).trans rfl; have hcz4_1 : w3.cell? ⟨gb117, 1, none⟩ = some (.string a0_1) := (blk_cell BK117.out 1).trans rfl; have hcz4_2 : w3.cell? ⟨gb117, 2, none⟩ = some (.string a0_2) := (blk_cell BK117.out 2).trans rfl; have hcz4_3 : w3.cell? ⟨gb117, 3, none⟩ = some (.slice A0_3 l0_3.length c0_3) := (blk_cell BK117.out 3).trans rfl; have hcz4_4 : w3.cell? ⟨gb117, 4, none⟩ = some (.string a0_4) := (blk_cell BK117.out 4).trans rfl; have hcz4_5 : w3.cell? ⟨gb117, 5, none⟩ = some (.int .i64 a0_5) := (blk_cell BK117.out 5).trans rfl; have hfz4_0 := blk_frozen BK117.out 0; have hfz4_1 := blk_frozen BK117.out 1; have hfz4_2 := blk_frozen BK117.out 2; have hfz4_3 := blk_frozen BK117.out 3; have hfz4_4 := blk_frozen BK117.out 4; have hfz4_5 := blk_frozen BK117.out 5))
    go_ret
    exact ⟨by first | rfl | (simp [errW_none, errW_some] <;> rfl) | (simp [*, errW_none, errW_some] <;> rfl), by repeat (first | (with_reducible first | exact HB.out | apply below_alloc | apply pw_below_drewN | apply below_drew1 | refine below_set ?_ GE117.out) | exact HB.out)⟩
  · rw [if_neg c2] at H
    have c2b0 : (a0_0 == 1) = false := beq_eq_false_iff_ne.mpr c2
    have c2b1 : (a0_0 != 1) = true := bne_iff_ne.mpr c2
    by_cases c5 : a0_0 = 2
    · rw [if_pos c5] at H
      have c5b0 : (a0_0 == 2) = true := beq_iff_eq.mpr c5
      have c5b1 : (a0_0 != 2) = false := bne_eq_false_iff_eq.mpr c5
      clear c5
      by_cases c6 : (l0_3.length : Int) = 0
      · rw [if_pos c6] at H
        have c6b0 : ((l0_3.length : Int) == 0) = true := beq_iff_eq.mpr c6
        have c6b1 : ((l0_3.length : Int) != 0) = false := bne_eq_false_iff_eq.mpr c6
        clear c6
        obtain rfl := Option.some.inj H
        go_enter Tryz.func10, Tryz.ntmps10
        go_wp2_with (first | ((with_reducible refine gate_dst (N := 1) rfl ?_); (try (refine gate_guard (by rfl) ?_; dsimp only)); refine box_event ?hg (N := 1) ?hd (cs := #[.int .i64 a0_0, .string a0_1, .string a0_2, .slice A0_3 l0_3.length c0_3, .string a0_4, .int .i64 a0_5]) (t := 28) ?hr ?_; (case hd => rfl); (case hg => rfl); (case hr => first | (go_simp; done) | (go_simp; rfl)); intro gb117 hg w7 hbox hb; have n0_ := Aside0.mk (below_step (by repeat (first | (with_reducible first | exact HB.out | apply below_alloc | apply pw_below_drewN | apply below_drew1) | exact HB.out)) hb); have n1_ := Aside0.mk (hbox); have n2_ := Aside0.mk ((by rw [hg]; exact (below_size (by repeat (first | (with_reducible first | exact HB.out | apply below_alloc | apply pw_below_drewN | apply below_drew1) | exact HB.out))) : w.heap.size ≤ gb117)); have n3_ := Aside0.mk ((by rw [hg]; exact (below_size (by repeat (first | (with_reducible first | exact HB.out | apply below_alloc | apply pw_below_drewN | apply below_drew1) | exact HB.out))) : w.heap.size ≤ gb117)); clear HB; have HB := n0_; have BK117 := n1_; have GW117 := n2_; have GE117 := n3_; clear n0_ n1_ n2_ n3_; clear hb hbox hg; have hcz8_0 : w7.cell? ⟨gb117, 0, none⟩ = some (.int .i64 a0_0) := (blk_cell BK117.out 0).trans rfl; have hcz8_1 : w7.cell? ⟨gb117, 1, none⟩ = some (.string a0_1) := (blk_cell BK117.out 1).trans rfl; have hcz8_2 : w7.cell? ⟨gb117, 2, none⟩ = some (.string a0_2) := (blk_cell BK117.out 2).trans rfl; have hcz8_3 : w7.cell? ⟨gb117, 3, none⟩ = some (.slice A0_3 l0_3.length c0_3) := (blk_cell BK117.out 3).trans rfl; have hcz8_4 : w7.cell? ⟨gb117, 4, none⟩ = some (.string a0_4) := (blk_cell BK117.out 4).trans rfl; have hcz8_5 : w7.cell? ⟨gb117, 5, none⟩ = some (.int .i64 a0_5) := (blk_cell BK117.out 5).trans rfl; have hfz8_0 := blk_frozen BK117.out 0; have hfz8_1 := blk_frozen BK117.out 1; have hfz8_2 := blk_frozen BK117.out 2; have hfz8_3 := blk_frozen BK117.out 3; have hfz8_4 := blk_frozen BK117.out 4; have hfz8_5 := blk_frozen BK117.out 5))
        go_ret
        exact ⟨by first | rfl | (simp [errW_none, errW_some] <;> rfl) | (simp [*, errW_none, errW_some] <;> rfl), by repeat (first | (with_reducible first | exact HB.out | apply below_alloc | apply pw_below_drewN | apply below_drew1 | refine below_set ?_ GE117.out) | exact HB.out)⟩
      · rw [if_neg c6] at H
        have c6b0 : ((l0_3.length : Int) == 0) = false := beq_eq_false_iff_ne.mpr c6
        have c6b1 : ((l0_3.length : Int) != 0) = true := bne_iff_ne.mpr c6
        have c6b2 : ¬ (l0_3 = []) := fun h_ => c6 (by rw [h_]; rfl)
        obtain rfl := Option.some.inj H
        go_enter Tryz.func10, Tryz.ntmps10
        go_wp2_with (first | ((with_reducible refine gate_dst (N := 1) rfl ?_); (try (refine gate_guard (by rfl) ?_; dsimp only)); refine box_event ?hg (N := 1) ?hd (cs := #[.int .i64 a0_0, .string a0_1, .string a0_2, .slice A0_3 l0_3.length c0_3, .string a0_4, .int .i64 a0_5]) (t := 28) ?hr ?_; (case hd => rfl); (case hg => rfl); (case hr => first | (go_simp; done) | (go_simp; rfl)); intro gb117 hg w9 hbox hb; have n0_ := Aside0.mk (below_step (by repeat (first | (with_reducible first | exact HB.out | apply below_alloc | apply pw_below_drewN | apply below_drew1) | exact HB.out)) hb); have n1_ := Aside0.mk (hbox); have n2_ := Aside0.mk ((by rw [hg]; exact (below_size (by repeat (first | (with_reducible first | exact HB.out | apply below_alloc | apply pw_below_drewN | apply below_drew1) | exact HB.out))) : w.heap.size ≤ gb117)); have n3_ := Aside0.mk ((by rw [hg]; exact (below_size (by repeat (first | (with_reducible first | exact HB.out | apply below_alloc | apply pw_below_drewN | apply below_drew1) | exact HB.out))) : w.heap.size ≤ gb117)); clear HB; have HB := n0_; have BK117 := n1_; have GW117 := n2_; have GE117 := n3_; clear n0_ n1_ n2_ n3_; clear hb hbox hg; have hcz10_0 : w9.cell? ⟨gb117, 0, none⟩ = some (.int .i64 a0_0) := (blk_cell BK117.out 0).trans rfl; have hcz10_1 : w9.cell? ⟨gb117, 1, none⟩ = some (.string a0_1) := (blk_cell BK117.out 1).trans rfl; have hcz10_2 : w9.cell? ⟨gb117, 2, none⟩ = some (.string a0_2) := (blk_cell BK117.out 2).trans rfl; have hcz10_3 : w9.cell? ⟨gb117, 3, none⟩ = some (.slice A0_3 l0_3.length c0_3) := (blk_cell BK117.out 3).trans rfl; have hcz10_4 : w9.cell? ⟨gb117, 4, none⟩ = some (.string a0_4) := (blk_cell BK117.out 4).trans rfl; have hcz10_5 : w9.cell? ⟨gb117, 5, none⟩ = some (.int .i64 a0_5) := (blk_cell BK117.out 5).trans rfl; have hfz10_0 := blk_frozen BK117.out 0; have hfz10_1 := blk_frozen BK117.out 1; have hfz10_2 := blk_frozen BK117.out 2; have hfz10_3 := blk_frozen BK117.out 3; have hfz10_4 := blk_frozen BK117.out 4; have hfz10_5 := blk_frozen BK117.out 5))
        go_ret
        exact ⟨by first | rfl | (simp [errW_none, errW_some] <;> rfl) | (simp [*, errW_none, errW_some] <;> rfl), by repeat (first | (with_reducible first | exact HB.out | apply below_alloc | apply pw_below_drewN | apply below_drew1 | refine below_set ?_ GE117.out) | exact HB.out)⟩
    · rw [if_neg c5] at H
      have c5b0 : (a0_0 == 2) = false := beq_eq_false_iff_ne.mpr c5
      have c5b1 : (a0_0 != 2) = true := bne_iff_ne.mpr c5
      by_cases c11 : a0_1.toList = ([] : List UInt8)
      · rw [if_pos c11] at H
        have c11b0 : (a0_1.toList == ([] : List UInt8)) = true := beq_iff_eq.mpr c11
        have c11b1 : (a0_1.toList != ([] : List UInt8)) = false := bne_eq_false_iff_eq.mpr c11
        clear c11
        by_cases c12 : a0_0 = 5
        · rw [if_pos c12] at H
          have c12b0 : (a0_0 == 5) = true := beq_iff_eq.mpr c12
          have c12b1 : (a0_0 != 5) = false := bne_eq_false_iff_eq.mpr c12
          clear c12
          by_cases c13 : (l0_3.length : Int) = 0
          · rw [if_pos c13] at H
            have c13b0 : ((l0_3.length : Int) == 0) = true := beq_iff_eq.mpr c13
            have c13b1 : ((l0_3.length : Int) != 0) = false := bne_eq_false_iff_eq.mpr c13
            clear c13
            obtain rfl := Option.some.inj H
            go_enter Tryz.func10, Tryz.ntmps10
            go_wp2_with (first | ((with_reducible refine gate_dst (N := 1) rfl ?_); (try (refine gate_guard (by rfl) ?_; dsimp only)); refine box_event ?hg (N := 1) ?hd (cs := #[.int .i64 a0_0, .string a0_1, .string a0_2, .slice A0_3 l0_3.length c0_3, .string a0_4, .int .i64 a0_5]) (t := 28) ?hr ?_; (case hd => rfl); (case hg => rfl); (case hr => first | (go_simp; done) | (go_simp; rfl)); intro gb117 hg w14 hbox hb; have n0_ := Aside0.mk (below_step (by repeat (first | (with_reducible first | exact HB.out | apply below_alloc | apply pw_below_drewN | apply below_drew1) | exact HB.out)) hb); have n1_ := Aside0.mk (hbox); have n2_ := Aside0.mk ((by rw [hg]; exact (below_size (by repeat (first | (with_reducible first | exact HB.out | apply below_alloc | apply pw_below_drewN | apply below_drew1) | exact HB.out))) : w.heap.size ≤ gb117)); have n3_ := Aside0.mk ((by rw [hg]; exact (below_size (by repeat (first | (with_reducible first | exact HB.out | apply below_alloc | apply pw_below_drewN | apply below_drew1) | exact HB.out))) : w.heap.size ≤ gb117)); clear HB; have HB := n0_; have BK117 := n1_; have GW117 := n2_; have GE117 := n3_; clear n0_ n1_ n2_ n3_; clear hb hbox hg; have hcz15_0 : w14.cell? ⟨gb117, 0, none⟩ = some (.int .i64 a0_0) := (blk_cell BK117.out 0).trans rfl; have hcz15_1 : w14.cell? ⟨gb117, 1, none⟩ = some (.string a0_1) := (blk_cell BK117.out 1).trans rfl; have hcz15_2 : w14.cell? ⟨gb117, 2, none⟩ = some (.string a0_2) := (blk_cell BK117.out 2).trans rfl; have hcz15_3 : w14.cell? ⟨gb117, 3, none⟩ = some (.slice A0_3 l0_3.length c0_3) := (blk_cell BK117.out 3).trans rfl; have hcz15_4 : w14.cell? ⟨gb117, 4, none⟩ = some (.string a0_4) := (blk_cell BK117.out 4).trans rfl; have hcz15_5 : w14.cell? ⟨gb117, 5, none⟩ = some (.int .i64 a0_5) := (blk_cell BK117.out 5).trans rfl; have hfz15_0 := blk_frozen BK117.out 0; have hfz15_1 := blk_frozen BK117.out 1; have hfz15_2 := blk_frozen BK117.out 2; have hfz15_3 := blk_frozen BK117.out 3; have hfz15_4 := blk_frozen BK117.out 4; have hfz15_5 := blk_frozen BK117.out 5))
            go_ret
            exact ⟨by first | rfl | (simp [errW_none, errW_some] <;> rfl) | (simp [*, errW_none, errW_some] <;> rfl), by repeat (first | (with_reducible first | exact HB.out | apply below_alloc | apply pw_below_drewN | apply below_drew1 | refine below_set ?_ GE117.out) | exact HB.out)⟩
          · rw [if_neg c13] at H
            have c13b0 : ((l0_3.length : Int) == 0) = false := beq_eq_false_iff_ne.mpr c13
            have c13b1 : ((l0_3.length : Int) != 0) = true := bne_iff_ne.mpr c13
            have c13b2 : ¬ (l0_3 = []) := fun h_ => c13 (by rw [h_]; rfl)
            obtain rfl := Option.some.inj H
            go_enter Tryz.func10, Tryz.ntmps10
            go_wp2_with (first | ((with_reducible refine gate_dst (N := 1) rfl ?_); (try (refine gate_guard (by rfl) ?_; dsimp only)); refine box_event ?hg (N := 1) ?hd (cs := #[.int .i64 a0_0, .string a0_1, .string a0_2, .slice A0_3 l0_3.length c0_3, .string a0_4, .int .i64 a0_5]) (t := 28) ?hr ?_; (case hd => rfl); (case hg => rfl); (case hr => first | (go_simp; done) | (go_simp; rfl)); intro gb117 hg w16 hbox hb; have n0_ := Aside0.mk (below_step (by repeat (first | (with_reducible first | exact HB.out | apply below_alloc | apply pw_below_drewN | apply below_drew1) | exact HB.out)) hb); have n1_ := Aside0.mk (hbox); have n2_ := Aside0.mk ((by rw [hg]; exact (below_size (by repeat (first | (with_reducible first | exact HB.out | apply below_alloc | apply pw_below_drewN | apply below_drew1) | exact HB.out))) : w.heap.size ≤ gb117)); have n3_ := Aside0.mk ((by rw [hg]; exact (below_size (by repeat (first | (with_reducible first | exact HB.out | apply below_alloc | apply pw_below_drewN | apply below_drew1) | exact HB.out))) : w.heap.size ≤ gb117)); clear HB; have HB := n0_; have BK117 := n1_; have GW117 := n2_; have GE117 := n3_; clear n0_ n1_ n2_ n3_; clear hb hbox hg; have hcz17_0 : w16.cell? ⟨gb117, 0, none⟩ = some (.int .i64 a0_0) := (blk_cell BK117.out 0).trans rfl; have hcz17_1 : w16.cell? ⟨gb117, 1, none⟩ = some (.string a0_1) := (blk_cell BK117.out 1).trans rfl; have hcz17_2 : w16.cell? ⟨gb117, 2, none⟩ = some (.string a0_2) := (blk_cell BK117.out 2).trans rfl; have hcz17_3 : w16.cell? ⟨gb117, 3, none⟩ = some (.slice A0_3 l0_3.length c0_3) := (blk_cell BK117.out 3).trans rfl; have hcz17_4 : w16.cell? ⟨gb117, 4, none⟩ = some (.string a0_4) := (blk_cell BK117.out 4).trans rfl; have hcz17_5 : w16.cell? ⟨gb117, 5, none⟩ = some (.int .i64 a0_5) := (blk_cell BK117.out 5).trans rfl; have hfz17_0 := blk_frozen BK117.out 0; have hfz17_1 := blk_frozen BK117.out 1; have hfz17_2 := blk_frozen BK117.out 2; have hfz17_3 := blk_frozen BK117.out 3; have hfz17_4 := blk_frozen BK117.out 4; have hfz17_5 := blk_frozen BK117.out 5))
            go_ret
            exact ⟨by first | rfl | (simp [errW_none, errW_some] <;> rfl) | (simp [*, errW_none, errW_some] <;> rfl), by repeat (first | (with_reducible first | exact HB.out | apply below_alloc | apply pw_below_drewN | apply below_drew1 | refine below_set ?_ GE117.out) | exact HB.out)⟩
        · rw [if_neg c12] at H
          have c12b0 : (a0_0 == 5) = false := beq_eq_false_iff_ne.mpr c12
          have c12b1 : (a0_0 != 5) = true := bne_iff_ne.mpr c12
          by_cases c18 : a0_2.toList = ([] : List UInt8)
          · rw [if_pos c18] at H
            have c18b0 : (a0_2.toList == ([] : List UInt8)) = true := beq_iff_eq.mpr c18
            have c18b1 : (a0_2.toList != ([] : List UInt8)) = false := bne_eq_false_iff_eq.mpr c18
            clear c18
            by_cases c19 : (l0_3.length : Int) = 0
            · rw [if_pos c19] at H
              have c19b0 : ((l0_3.length : Int) == 0) = true := beq_iff_eq.mpr c19
              have c19b1 : ((l0_3.length : Int) != 0) = false := bne_eq_false_iff_eq.mpr c19
              clear c19
              obtain rfl := Option.some.inj H
              go_enter Tryz.func10, Tryz.ntmps10
              go_wp2_with (first | ((with_reducible refine gate_dst (N := 1) rfl ?_); (try (refine gate_guard (by rfl) ?_; dsimp only)); refine box_event ?hg (N := 1) ?hd (cs := #[.int .i64 a0_0, .string a0_1, .string a0_2, .slice A0_3 l0_3.length c0_3, .string a0_4, .int .i64 a0_5]) (t := 28) ?hr ?_; (case hd => rfl); (case hg => rfl); (case hr => first | (go_simp; done) | (go_simp; rfl)); intro gb117 hg w20 hbox hb; have n0_ := Aside0.mk (below_step (by repeat (first | (with_reducible first | exact HB.out | apply below_alloc | apply pw_below_drewN | apply below_drew1) | exact HB.out)) hb); have n1_ := Aside0.mk (hbox); have n2_ := Aside0.mk ((by rw [hg]; exact (below_size (by repeat (first | (with_reducible first | exact HB.out | apply below_alloc | apply pw_below_drewN | apply below_drew1) | exact HB.out))) : w.heap.size ≤ gb117)); have n3_ := Aside0.mk ((by rw [hg]; exact (below_size (by repeat (first | (with_reducible first | exact HB.out | apply below_alloc | apply pw_below_drewN | apply below_drew1) | exact HB.out))) : w.heap.size ≤ gb117)); clear HB; have HB := n0_; have BK117 := n1_; have GW117 := n2_; have GE117 := n3_; clear n0_ n1_ n2_ n3_; clear hb hbox hg; have hcz21_0 : w20.cell? ⟨gb117, 0, none⟩ = some (.int .i64 a0_0) := (blk_cell BK117.out 0).trans rfl; have hcz21_1 : w20.cell? ⟨gb117, 1, none⟩ = some (.string a0_1) := (blk_cell BK117.out 1).trans rfl; have hcz21_2 : w20.cell? ⟨gb117, 2, none⟩ = some (.string a0_2) := (blk_cell BK117.out 2).trans rfl; have hcz21_3 : w20.cell? ⟨gb117, 3, none⟩ = some (.slice A0_3 l0_3.length c0_3) := (blk_cell BK117.out 3).trans rfl; have hcz21_4 : w20.cell? ⟨gb117, 4, none⟩ = some (.string a0_4) := (blk_cell BK117.out 4).trans rfl; have hcz21_5 : w20.cell? ⟨gb117, 5, none⟩ = some (.int .i64 a0_5) := (blk_cell BK117.out 5).trans rfl; have hfz21_0 := blk_frozen BK117.out 0; have hfz21_1 := blk_frozen BK117.out 1; have hfz21_2 := blk_frozen BK117.out 2; have hfz21_3 := blk_frozen BK117.out 3; have hfz21_4 := blk_frozen BK117.out 4; have hfz21_5 := blk_frozen BK117.out 5))
              go_ret
              exact ⟨by first | rfl | (simp [errW_none, errW_some] <;> rfl) | (simp [*, errW_none, errW_some] <;> rfl), by repeat (first | (with_reducible first | exact HB.out | apply below_alloc | apply pw_below_drewN | apply below_drew1 | refine below_set ?_ GE117.out) | exact HB.out)⟩
            · rw [if_neg c19] at H
              have c19b0 : ((l0_3.length : Int) == 0) = false := beq_eq_false_iff_ne.mpr c19
              have c19b1 : ((l0_3.length : Int) != 0) = true := bne_iff_ne.mpr c19
              have c19b2 : ¬ (l0_3 = []) := fun h_ => c19 (by rw [h_]; rfl)
              obtain rfl := Option.some.inj H
              go_enter Tryz.func10, Tryz.ntmps10
              go_wp2_with (first | ((with_reducible refine gate_dst (N := 1) rfl ?_); (try (refine gate_guard (by rfl) ?_; dsimp only)); refine box_event ?hg (N := 1) ?hd (cs := #[.int .i64 a0_0, .string a0_1, .string a0_2, .slice A0_3 l0_3.length c0_3, .string a0_4, .int .i64 a0_5]) (t := 28) ?hr ?_; (case hd => rfl); (case hg => rfl); (case hr => first | (go_simp; done) | (go_simp; rfl)); intro gb117 hg w22 hbox hb; have n0_ := Aside0.mk (below_step (by repeat (first | (with_reducible first | exact HB.out | apply below_alloc | apply pw_below_drewN | apply below_drew1) | exact HB.out)) hb); have n1_ := Aside0.mk (hbox); have n2_ := Aside0.mk ((by rw [hg]; exact (below_size (by repeat (first | (with_reducible first | exact HB.out | apply below_alloc | apply pw_below_drewN | apply below_drew1) | exact HB.out))) : w.heap.size ≤ gb117)); have n3_ := Aside0.mk ((by rw [hg]; exact (below_size (by repeat (first | (with_reducible first | exact HB.out | apply below_alloc | apply pw_below_drewN | apply below_drew1) | exact HB.out))) : w.heap.size ≤ gb117)); clear HB; have HB := n0_; have BK117 := n1_; have GW117 := n2_; have GE117 := n3_; clear n0_ n1_ n2_ n3_; clear hb hbox hg; have hcz23_0 : w22.cell? ⟨gb117, 0, none⟩ = some (.int .i64 a0_0) := (blk_cell BK117.out 0).trans rfl; have hcz23_1 : w22.cell? ⟨gb117, 1, none⟩ = some (.string a0_1) := (blk_cell BK117.out 1).trans rfl; have hcz23_2 : w22.cell? ⟨gb117, 2, none⟩ = some (.string a0_2) := (blk_cell BK117.out 2).trans rfl; have hcz23_3 : w22.cell? ⟨gb117, 3, none⟩ = some (.slice A0_3 l0_3.length c0_3) := (blk_cell BK117.out 3).trans rfl; have hcz23_4 : w22.cell? ⟨gb117, 4, none⟩ = some (.string a0_4) := (blk_cell BK117.out 4).trans rfl; have hcz23_5 : w22.cell? ⟨gb117, 5, none⟩ = some (.int .i64 a0_5) := (blk_cell BK117.out 5).trans rfl; have hfz23_0 := blk_frozen BK117.out 0; have hfz23_1 := blk_frozen BK117.out 1; have hfz23_2 := blk_frozen BK117.out 2; have hfz23_3 := blk_frozen BK117.out 3; have hfz23_4 := blk_frozen BK117.out 4; have hfz23_5 := blk_frozen BK117.out 5))
              go_ret
              exact ⟨by first | rfl | (simp [errW_none, errW_some] <;> rfl) | (simp [*, errW_none, errW_some] <;> rfl), by repeat (first | (with_reducible first | exact HB.out | apply below_alloc | apply pw_below_drewN | apply below_drew1 | refine below_set ?_ GE117.out) | exact HB.out)⟩
          · rw [if_neg c18] at H
            have c18b0 : (a0_2.toList == ([] : List UInt8)) = false := beq_eq_false_iff_ne.mpr c18
            have c18b1 : (a0_2.toList != ([] : List UInt8)) = true := bne_iff_ne.mpr c18
            obtain rfl := Option.some.inj H
            go_enter Tryz.func10, Tryz.ntmps10
            go_wp2_with (first | ((with_reducible refine gate_dst (N := 1) rfl ?_); (try (refine gate_guard (by rfl) ?_; dsimp only)); refine box_event ?hg (N := 1) ?hd (cs := #[.int .i64 a0_0, .string a0_1, .string a0_2, .slice A0_3 l0_3.length c0_3, .string a0_4, .int .i64 a0_5]) (t := 28) ?hr ?_; (case hd => rfl); (case hg => rfl); (case hr => first | (go_simp; done) | (go_simp; rfl)); intro gb117 hg w24 hbox hb; have n0_ := Aside0.mk (below_step (by repeat (first | (with_reducible first | exact HB.out | apply below_alloc | apply pw_below_drewN | apply below_drew1) | exact HB.out)) hb); have n1_ := Aside0.mk (hbox); have n2_ := Aside0.mk ((by rw [hg]; exact (below_size (by repeat (first | (with_reducible first | exact HB.out | apply below_alloc | apply pw_below_drewN | apply below_drew1) | exact HB.out))) : w.heap.size ≤ gb117)); have n3_ := Aside0.mk ((by rw [hg]; exact (below_size (by repeat (first | (with_reducible first | exact HB.out | apply below_alloc | apply pw_below_drewN | apply below_drew1) | exact HB.out))) : w.heap.size ≤ gb117)); clear HB; have HB := n0_; have BK117 := n1_; have GW117 := n2_; have GE117 := n3_; clear n0_ n1_ n2_ n3_; clear hb hbox hg; have hcz25_0 : w24.cell? ⟨gb117, 0, none⟩ = some (.int .i64 a0_0) := (blk_cell BK117.out 0).trans rfl; have hcz25_1 : w24.cell? ⟨gb117, 1, none⟩ = some (.string a0_1) := (blk_cell BK117.out 1).trans rfl; have hcz25_2 : w24.cell? ⟨gb117, 2, none⟩ = some (.string a0_2) := (blk_cell BK117.out 2).trans rfl; have hcz25_3 : w24.cell? ⟨gb117, 3, none⟩ = some (.slice A0_3 l0_3.length c0_3) := (blk_cell BK117.out 3).trans rfl; have hcz25_4 : w24.cell? ⟨gb117, 4, none⟩ = some (.string a0_4) := (blk_cell BK117.out 4).trans rfl; have hcz25_5 : w24.cell? ⟨gb117, 5, none⟩ = some (.int .i64 a0_5) := (blk_cell BK117.out 5).trans rfl; have hfz25_0 := blk_frozen BK117.out 0; have hfz25_1 := blk_frozen BK117.out 1; have hfz25_2 := blk_frozen BK117.out 2; have hfz25_3 := blk_frozen BK117.out 3; have hfz25_4 := blk_frozen BK117.out 4; have hfz25_5 := blk_frozen BK117.out 5))
            go_ret
            exact ⟨by first | rfl | (simp [errW_none, errW_some] <;> rfl) | (simp [*, errW_none, errW_some] <;> rfl), by repeat (first | (with_reducible first | exact HB.out | apply below_alloc | apply pw_below_drewN | apply below_drew1 | refine below_set ?_ GE117.out) | exact HB.out)⟩
      · rw [if_neg c11] at H
        have c11b0 : (a0_1.toList == ([] : List UInt8)) = false := beq_eq_false_iff_ne.mpr c11
        have c11b1 : (a0_1.toList != ([] : List UInt8)) = true := bne_iff_ne.mpr c11
        obtain rfl := Option.some.inj H
        go_enter Tryz.func10, Tryz.ntmps10
        go_wp2_with (first | ((with_reducible refine gate_dst (N := 1) rfl ?_); (try (refine gate_guard (by rfl) ?_; dsimp only)); refine box_event ?hg (N := 1) ?hd (cs := #[.int .i64 a0_0, .string a0_1, .string a0_2, .slice A0_3 l0_3.length c0_3, .string a0_4, .int .i64 a0_5]) (t := 28) ?hr ?_; (case hd => rfl); (case hg => rfl); (case hr => first | (go_simp; done) | (go_simp; rfl)); intro gb117 hg w26 hbox hb; have n0_ := Aside0.mk (below_step (by repeat (first | (with_reducible first | exact HB.out | apply below_alloc | apply pw_below_drewN | apply below_drew1) | exact HB.out)) hb); have n1_ := Aside0.mk (hbox); have n2_ := Aside0.mk ((by rw [hg]; exact (below_size (by repeat (first | (with_reducible first | exact HB.out | apply below_alloc | apply pw_below_drewN | apply below_drew1) | exact HB.out))) : w.heap.size ≤ gb117)); have n3_ := Aside0.mk ((by rw [hg]; exact (below_size (by repeat (first | (with_reducible first | exact HB.out | apply below_alloc | apply pw_below_drewN | apply below_drew1) | exact HB.out))) : w.heap.size ≤ gb117)); clear HB; have HB := n0_; have BK117 := n1_; have GW117 := n2_; have GE117 := n3_; clear n0_ n1_ n2_ n3_; clear hb hbox hg; have hcz27_0 : w26.cell? ⟨gb117, 0, none⟩ = some (.int .i64 a0_0) := (blk_cell BK117.out 0).trans rfl; have hcz27_1 : w26.cell? ⟨gb117, 1, none⟩ = some (.string a0_1) := (blk_cell BK117.out 1).trans rfl; have hcz27_2 : w26.cell? ⟨gb117, 2, none⟩ = some (.string a0_2) := (blk_cell BK117.out 2).trans rfl; have hcz27_3 : w26.cell? ⟨gb117, 3, none⟩ = some (.slice A0_3 l0_3.length c0_3) := (blk_cell BK117.out 3).trans rfl; have hcz27_4 : w26.cell? ⟨gb117, 4, none⟩ = some (.string a0_4) := (blk_cell BK117.out 4).trans rfl; have hcz27_5 : w26.cell? ⟨gb117, 5, none⟩ = some (.int .i64 a0_5) := (blk_cell BK117.out 5).trans rfl; have hfz27_0 := blk_frozen BK117.out 0; have hfz27_1 := blk_frozen BK117.out 1; have hfz27_2 := blk_frozen BK117.out 2; have hfz27_3 := blk_frozen BK117.out 3; have hfz27_4 := blk_frozen BK117.out 4; have hfz27_5 := blk_frozen BK117.out 5))
        go_ret
        exact ⟨by first | rfl | (simp [errW_none, errW_some] <;> rfl) | (simp [*, errW_none, errW_some] <;> rfl), by repeat (first | (with_reducible first | exact HB.out | apply below_alloc | apply pw_below_drewN | apply below_drew1 | refine below_set ?_ GE117.out) | exact HB.out)⟩

/-! ### spec_IsChar: function 28 -/
def spec_IsChar.f (a0 : Int) : Option (Bool) := if a0 = 9 then (some true) else (if a0 = 10 then (some true) else (if a0 = 13 then (some true) else (if a0 ≥ 32 then (if a0 ≤ 55295 then (some true) else (if a0 ≥ 57344 then (if a0 ≤ 65533 then (some true) else (if a0 ≥ 65536 then (some (decide (a0 ≤ 1114111))) else (some false))) else (if a0 ≥ 65536 then (some (decide (a0 ≤ 1114111))) else (some false)))) else (if a0 ≥ 57344 then (if a0 ≤ 65533 then (some true) else (if a0 ≥ 65536 then (some (decide (a0 ≤ 1114111))) else (some false))) else (if a0 ≥ 65536 then (some (decide (a0 ≤ 1114111))) else (some false))))))
set_option maxHeartbeats 8000000 in
set_option maxRecDepth 100000 in
theorem spec_IsChar.calls (a0 : Int) (r : Bool) (w : World) (h : spec_IsChar.f a0 = some r) :
    Calls Tryz.prog 28 #[.int .i64 a0] w fun e w' => e = .returned (.bool r) ∧ Drawn0 w w' := by
  have H : (if a0 = 9 then (some true) else (if a0 = 10 then (some true) else (if a0 = 13 then (some true) else (if a0 ≥ 32 then (if a0 ≤ 55295 then (some true) else (if a0 ≥ 57344 then (if a0 ≤ 65533 then (some true) else (if a0 ≥ 65536 then (some (decide (a0 ≤ 1114111))) else (some false))) else (if a0 ≥ 65536 then (some (decide (a0 ≤ 1114111))) else (some false)))) else (if a0 ≥ 57344 then (if a0 ≤ 65533 then (some true) else (if a0 ≥ 65536 then (some (decide (a0 ≤ 1114111))) else (some false))) else (if a0 ≥ 65536 then (some (decide (a0 ≤ 1114111))) else (some false))))))) = some r := h
  clear h
  by_cases c2 : a0 = 9
  · rw [if_pos c2] at H
    have c2b0 : (a0 == 9) = true := beq_iff_eq.mpr c2
    have c2b1 : (a0 != 9) = false := bne_eq_false_iff_eq.mpr c2
    clear c2
    obtain rfl := Option.some.inj H
    go_enter Tryz.func28, Tryz.ntmps28
    go_wp2
    go_ret
    exact ⟨by first | rfl | (simp; done) | (simp [*]; done), by repeat (first | exact Drawn0.refl _ | apply Drawn0.step)⟩
  · rw [if_neg c2] at H
    have c2b0 : (a0 == 9) = false := beq_eq_false_iff_ne.mpr c2
    have c2b1 : (a0 != 9) = true := bne_iff_ne.mpr c2
    by_cases c3 : a0 = 10
    · rw [if_pos c3] at H
      have c3b0 : (a0 == 10) = true := beq_iff_eq.mpr c3
      have c3b1 : (a0 != 10) = false := bne_eq_false_iff_eq.mpr c3
      clear c3
      obtain rfl := Option.some.inj H
      go_enter Tryz.func28, Tryz.ntmps28
      go_wp2
      go_ret
      exact ⟨by first | rfl | (simp; done) | (simp [*]; done), by repeat (first | exact Drawn0.refl _ | apply Drawn0.step)⟩
    · rw [if_neg c3] at H
      have c3b0 : (a0 == 10) = false := beq_eq_false_iff_ne.mpr c3
      have c3b1 : (a0 != 10) = true := bne_iff_ne.mpr c3
      by_cases c4 : a0 = 13
      · rw [if_pos c4] at H
        have c4b0 : (a0 == 13) = true := beq_iff_eq.mpr c4
        have c4b1 : (a0 != 13) = false := bne_eq_false_iff_eq.mpr c4
        clear c4
        obtain rfl := Option.some.inj H
        go_enter Tryz.func28, Tryz.ntmps28
        go_wp2
        go_ret
        exact ⟨by first | rfl | (simp; done) | (simp [*]; done), by repeat (first | exact Drawn0.refl _ | apply Drawn0.step)⟩
      · rw [if_neg c4] at H
        have c4b0 : (a0 == 13) = false := beq_eq_false_iff_ne.mpr c4
        have c4b1 : (a0 != 13) = true := bne_iff_ne.mpr c4
        by_cases c5 : a0 ≥ 32
        · rw [if_pos c5] at H
          have c5b0 : decide (32 ≤ a0) = true := decide_eq_true c5
          clear c5
          by_cases c6 : a0 ≤ 55295
          · rw [if_pos c6] at H
            have c6b0 : decide (a0 ≤ 55295) = true := decide_eq_true c6
            clear c6
            obtain rfl := Option.some.inj H
            go_enter Tryz.func28, Tryz.ntmps28
            go_wp2
            go_ret
            exact ⟨by first | rfl | (simp; done) | (simp [*]; done), by repeat (first | exact Drawn0.refl _ | apply Drawn0.step)⟩
          · rw [if_neg c6] at H
            have c6b0 : decide (a0 ≤ 55295) = false := decide_eq_false c6
            clear c6
            by_cases c7 : a0 ≥ 57344
            · rw [if_pos c7] at H
              have c7b0 : decide (57344 ≤ a0) = true := decide_eq_true c7
              clear c7
              by_cases c8 : a0 ≤ 65533
              · rw [if_pos c8] at H
                have c8b0 : decide (a0 ≤ 65533) = true := decide_eq_true c8
                clear c8
                obtain rfl := Option.some.inj H
                go_enter Tryz.func28, Tryz.ntmps28
                go_wp2
                go_ret
                exact ⟨by first | rfl | (simp; done) | (simp [*]; done), by repeat (first | exact Drawn0.refl _ | apply Drawn0.step)⟩
              · rw [if_neg c8] at H
                have c8b0 : decide (a0 ≤ 65533) = false := decide_eq_false c8
                clear c8
                by_cases c9 : a0 ≥ 65536
                · rw [if_pos c9] at H
                  have c9b0 : decide (65536 ≤ a0) = true := decide_eq_true c9
                  clear c9
                  obtain rfl := Option.some.inj H
                  go_enter Tryz.func28, Tryz.ntmps28
                  go_wp2
                  go_ret
                  exact ⟨by first | rfl | (simp; done) | (simp [*]; done), by repeat (first | exact Drawn0.refl _ | apply Drawn0.step)⟩
                · rw [if_neg c9] at H
                  have c9b0 : decide (65536 ≤ a0) = false := decide_eq_false c9
                  clear c9
                  obtain rfl := Option.some.inj H
                  go_enter Tryz.func28, Tryz.ntmps28
                  go_wp2
                  go_ret
                  exact ⟨by first | rfl | (simp; done) | (simp [*]; done), by repeat (first | exact Drawn0.refl _ | apply Drawn0.step)⟩
            · rw [if_neg c7] at H
              have c7b0 : decide (57344 ≤ a0) = false := decide_eq_false c7
              clear c7
              by_cases c10 : a0 ≥ 65536
              · rw [if_pos c10] at H
                have c10b0 : decide (65536 ≤ a0) = true := decide_eq_true c10
                clear c10
                obtain rfl := Option.some.inj H
                go_enter Tryz.func28, Tryz.ntmps28
                go_wp2
                go_ret
                exact ⟨by first | rfl | (simp; done) | (simp [*]; done), by repeat (first | exact Drawn0.refl _ | apply Drawn0.step)⟩
              · rw [if_neg c10] at H
                have c10b0 : decide (65536 ≤ a0) = false := decide_eq_false c10
                clear c10
                obtain rfl := Option.some.inj H
                go_enter Tryz.func28, Tryz.ntmps28
                go_wp2
                go_ret
                exact ⟨by first | rfl | (simp; done) | (simp [*]; done), by repeat (first | exact Drawn0.refl _ | apply Drawn0.step)⟩
        · rw [if_neg c5] at H
          have c5b0 : decide (32 ≤ a0) = false := decide_eq_false c5
          clear c5
          by_cases c11 : a0 ≥ 57344
          · rw [if_pos c11] at H
            have c11b0 : decide (57344 ≤ a0) = true := decide_eq_true c11
            clear c11
            by_cases c12 : a0 ≤ 65533
            · rw [if_pos c12] at H
              have c12b0 : decide (a0 ≤ 65533) = true := decide_eq_true c12
              clear c12
              obtain rfl := Option.some.inj H
              go_enter Tryz.func28, Tryz.ntmps28
              go_wp2
              go_ret
              exact ⟨by first | rfl | (simp; done) | (simp [*]; done), by repeat (first | exact Drawn0.refl _ | apply Drawn0.step)⟩
            · rw [if_neg c12] at H
              have c12b0 : decide (a0 ≤ 65533) = false := decide_eq_false c12
              clear c12
              by_cases c13 : a0 ≥ 65536
              · rw [if_pos c13] at H
                have c13b0 : decide (65536 ≤ a0) = true := decide_eq_true c13
                clear c13
                obtain rfl := Option.some.inj H
                go_enter Tryz.func28, Tryz.ntmps28
                go_wp2
                go_ret
                exact ⟨by first | rfl | (simp; done) | (simp [*]; done), by repeat (first | exact Drawn0.refl _ | apply Drawn0.step)⟩
              · rw [if_neg c13] at H
                have c13b0 : decide (65536 ≤ a0) = false := decide_eq_false c13
                clear c13
                obtain rfl := Option.some.inj H
                go_enter Tryz.func28, Tryz.ntmps28
                go_wp2
                go_ret
                exact ⟨by first | rfl | (simp; done) | (simp [*]; done), by repeat (first | exact Drawn0.refl _ | apply Drawn0.step)⟩
          · rw [if_neg c11] at H
            have c11b0 : decide (57344 ≤ a0) = false := decide_eq_false c11
            clear c11
            by_cases c14 : a0 ≥ 65536
            · rw [if_pos c14] at H
              have c14b0 : decide (65536 ≤ a0) = true := decide_eq_true c14
              clear c14
              obtain rfl := Option.some.inj H
              go_enter Tryz.func28, Tryz.ntmps28
              go_wp2
              go_ret
              exact ⟨by first | rfl | (simp; done) | (simp [*]; done), by repeat (first | exact Drawn0.refl _ | apply Drawn0.step)⟩
            · rw [if_neg c14] at H
              have c14b0 : decide (65536 ≤ a0) = false := decide_eq_false c14
              clear c14
              obtain rfl := Option.some.inj H
              go_enter Tryz.func28, Tryz.ntmps28
              go_wp2
              go_ret
              exact ⟨by first | rfl | (simp; done) | (simp [*]; done), by repeat (first | exact Drawn0.refl _ | apply Drawn0.step)⟩

/-! ### spec_Chars: function 13 -/
def spec_Chars.l0 : Nat → ByteArray → Option (Bool)
  | 0, _ => none
  | k + 1, x0 => if x0.toList = ([] : List UInt8) then (some true) else ((spec_Decode.f k x0).bind fun bt118 => (if bt118.2 = 0 then (some false) else ((spec_IsChar.f bt118.1).bind fun t120 => (if t120 = true then (if 0 ≤ bt118.2 then (if bt118.2 ≤ (x0.size : Int) then (spec_Chars.l0 k (x0.extract (bt118.2 : Int).toNat x0.size)) else (none)) else (none)) else (some false)))))
def spec_Chars.f (k : Nat) (a0 : ByteArray) : Option (Bool) := spec_Chars.l0 k a0
theorem spec_Chars.mono_l : ∀ k, (∀ y0, LeO (spec_Chars.l0 k y0) (spec_Chars.l0 (k + 1) y0))
  | 0 => fun _ r h => by simp [spec_Chars.l0] at h
  | k + 1 => by
    have ih0 := spec_Chars.mono_l k
    · intro y0
      unfold spec_Chars.l0
      repeat' first
      | (with_reducible exact ih0 _)
      | (with_reducible exact spec_Decode.mono _ _)
      | (with_reducible exact LeO.refl _)
      | (with_reducible exact LeO.none _)
      | (with_reducible refine LeO.ite ?_ ?_)
      | (with_reducible refine LeO.bind ?_ (fun _ => ?_))
      | exact ih0 _
      | exact spec_Decode.mono _ _
      | exact LeO.none _
      | refine LeO.ite ?_ ?_
      | refine LeO.bind ?_ (fun _ => ?_)
theorem spec_Chars.mono : ∀ a0 k, LeO (spec_Chars.f k a0) (spec_Chars.f (k + 1) a0) := by
  intro a0 k
  have ih0 := spec_Chars.mono_l k
  unfold spec_Chars.f
  repeat' first
      | (with_reducible exact ih0 _)
      | (with_reducible exact spec_Decode.mono _ _)
      | (with_reducible exact LeO.refl _)
      | (with_reducible exact LeO.none _)
      | (with_reducible refine LeO.ite ?_ ?_)
      | (with_reducible refine LeO.bind ?_ (fun _ => ?_))
      | exact ih0 _
      | exact spec_Decode.mono _ _
      | exact LeO.none _
      | refine LeO.ite ?_ ?_
      | refine LeO.bind ?_ (fun _ => ?_)
set_option maxHeartbeats 8000000 in
set_option maxRecDepth 100000 in
theorem spec_Chars.calls (k : Nat) (a0 : ByteArray) (r : Bool) (w : World) (h : spec_Chars.f k a0 = some r) :
    Calls Tryz.prog 13 #[.string a0] w fun e w' => e = .returned (.bool r) ∧ Drawn0 w w' := by
  have H : (spec_Chars.l0 k a0) = some r := h
  clear h
  have H' := Aside0.mk H
  clear H
  go_enter Tryz.func13, Tryz.ntmps13
  go_wp2
  go_loopg [0] k (fun kq v0 w' => ∃ (x0_1 : ByteArray), v0 = .string x0_1 ∧ Aside0 (spec_Chars.l0 kq x0_1 = some r) ∧ Aside0 (kq ≤ k) ∧ Drawn0 w w')
  case atStart => exact ⟨(a0), (by first | rfl | (simp; done) | (simp [*]; done)), H', ⟨Nat.le_refl _⟩, by repeat (first | exact Drawn0.refl _ | apply Drawn0.step)⟩
  case round =>
    clear H'
    try clear c1
    obtain ⟨x0_1, rfl, HA, HK1, ⟨m1, rfl⟩⟩ := hrel
    cases gk with
    | zero => exact absurd HA.out (by simp [spec_Chars.l0])
    | succ k1 =>
      have H := HA.out
      clear HA
      simp only [spec_Chars.l0] at H
      by_cases c2 : x0_1.toList = ([] : List UInt8)
      · rw [if_pos c2] at H
        have c2b0 : (x0_1.toList == ([] : List UInt8)) = true := beq_iff_eq.mpr c2
        have c2b1 : (x0_1.toList != ([] : List UInt8)) = false := bne_eq_false_iff_eq.mpr c2
        clear c2
        obtain rfl := Option.some.inj H
        go_wp2
        go_ret
        exact ⟨by first | rfl | (simp; done) | (simp [*]; done), by repeat (first | exact Drawn0.refl _ | apply Drawn0.step)⟩
      · rw [if_neg c2] at H
        have c2b0 : (x0_1.toList == ([] : List UInt8)) = false := beq_eq_false_iff_ne.mpr c2
        have c2b1 : (x0_1.toList != ([] : List UInt8)) = true := bne_iff_ne.mpr c2
        replace H := Option.bind_eq_some_iff.mp H
        obtain ⟨⟨t118, t119⟩, A30, H⟩ := H
        replace H : (if t119 = 0 then (some false) else ((spec_IsChar.f t118).bind fun t120 => (if t120 = true then (if 0 ≤ t119 then (if t119 ≤ (x0_1.size : Int) then (spec_Chars.l0 k1 (x0_1.extract (t119 : Int).toNat x0_1.size)) else (none)) else (none)) else (some false)))) = some r := H
        have A3 := Aside0.mk A30
        clear A30
        by_cases c4 : t119 = 0
        · rw [if_pos c4] at H
          have c4b0 : (t119 == 0) = true := beq_iff_eq.mpr c4
          have c4b1 : (t119 != 0) = false := bne_eq_false_iff_eq.mpr c4
          clear c4
          obtain rfl := Option.some.inj H
          go_wp2_with (first | ((with_reducible refine gate_callee (f := 27) rfl ?_); refine goesL_ (some 9) rfl rfl Tryz.func27 (by kernel_rfl) rfl #[.string x0_1] rfl (by (try simp only [List.map_toArray, List.map_cons, List.map_nil]); first | done | rfl | (simp only [List.length_drop, List.length_take]; rfl)) ?_; (with_reducible refine (spec_Decode.calls k1 x0_1 t118 t119 _ A3.out).mono ?_); rintro e w' ⟨rfl, ⟨nd, rfl⟩⟩; refine ⟨_, rfl, ?_⟩))
          go_ret
          exact ⟨by first | rfl | (simp; done) | (simp [*]; done), by repeat (first | exact Drawn0.refl _ | apply Drawn0.step)⟩
        · rw [if_neg c4] at H
          have c4b0 : (t119 == 0) = false := beq_eq_false_iff_ne.mpr c4
          have c4b1 : (t119 != 0) = true := bne_iff_ne.mpr c4
          replace H := Option.bind_eq_some_iff.mp H
          obtain ⟨t120, A50, H⟩ := H
          replace H : (if t120 = true then (if 0 ≤ t119 then (if t119 ≤ (x0_1.size : Int) then (spec_Chars.l0 k1 (x0_1.extract (t119 : Int).toNat x0_1.size)) else (none)) else (none)) else (some false)) = some r := H
          have A5 := Aside0.mk A50
          clear A50
          by_cases c6 : t120 = true
          · subst c6
            have H1 : (if 0 ≤ t119 then (if t119 ≤ (x0_1.size : Int) then (spec_Chars.l0 k1 (x0_1.extract (t119 : Int).toNat x0_1.size)) else (none)) else (none)) = some r := by rw [if_pos rfl] at H; exact H
            clear H
            have H := H1
            clear H1
            by_cases c7 : 0 ≤ t119
            · rw [if_pos c7] at H
              have c7b0 := eq_true c7
              have c7b1 : decide (0 ≤ t119) = true := decide_eq_true c7
              clear c7
              by_cases c8 : t119 ≤ (x0_1.size : Int)
              · rw [if_pos c8] at H
                have c8b0 := eq_true c8
                have c8b1 : decide (t119 ≤ (x0_1.size : Int)) = true := decide_eq_true c8
                clear c8
                have H' := Aside0.mk H
                clear H
                go_wp2_with (first | ((with_reducible refine gate_callee (f := 27) rfl ?_); refine goesL_ (some 9) rfl rfl Tryz.func27 (by kernel_rfl) rfl #[.string x0_1] rfl (by (try simp only [List.map_toArray, List.map_cons, List.map_nil]); first | done | rfl | (simp only [List.length_drop, List.length_take]; rfl)) ?_; (with_reducible refine (spec_Decode.calls k1 x0_1 t118 t119 _ A3.out).mono ?_); rintro e w' ⟨rfl, ⟨nd, rfl⟩⟩; refine ⟨_, rfl, ?_⟩) | (go_at_call 28; (with_reducible refine (spec_IsChar.calls t118 true _ A5.out).mono ?_); rintro e w' ⟨rfl, ⟨nd, rfl⟩⟩))
                go_roundg k1
                case measure => have := HK1.out; omega
                case rel => exact ⟨(x0_1.extract (t119 : Int).toNat x0_1.size), (by first | rfl | (simp; done) | (simp [*]; done)), H', ⟨by have := HK1.out; omega⟩, by repeat (first | exact Drawn0.refl _ | apply Drawn0.step)⟩
              · rw [if_neg c8] at H
                exact absurd H (by simp)
            · rw [if_neg c7] at H
              exact absurd H (by simp)
          · replace c6 := Bool.eq_false_iff.mpr c6
            subst c6
            have H1 : (some false) = some r := by rw [if_neg (show ¬ (false = true) by decide)] at H; exact H
            clear H
            have H := H1
            clear H1
            obtain rfl := Option.some.inj H
            go_wp2_with (first | ((with_reducible refine gate_callee (f := 27) rfl ?_); refine goesL_ (some 9) rfl rfl Tryz.func27 (by kernel_rfl) rfl #[.string x0_1] rfl (by (try simp only [List.map_toArray, List.map_cons, List.map_nil]); first | done | rfl | (simp only [List.length_drop, List.length_take]; rfl)) ?_; (with_reducible refine (spec_Decode.calls k1 x0_1 t118 t119 _ A3.out).mono ?_); rintro e w' ⟨rfl, ⟨nd, rfl⟩⟩; refine ⟨_, rfl, ?_⟩) | (go_at_call 28; (with_reducible refine (spec_IsChar.calls t118 false _ A5.out).mono ?_); rintro e w' ⟨rfl, ⟨nd, rfl⟩⟩))
            go_ret
            exact ⟨by first | rfl | (simp; done) | (simp [*]; done), by repeat (first | exact Drawn0.refl _ | apply Drawn0.step)⟩

/-! ### spec_named: function 11 -/
def spec_named.f (k : Nat) (a0 : ByteArray) (a1 : ByteArray) (a2 : Bool) (a3 : Bool) : Option (Bool) := (spec_IsName.f k a1).bind fun t121 => (if t121 = true then (if a1.toList = ([120, 109, 108, 110, 115] : List UInt8) then (some false) else (if a0.toList = ([] : List UInt8) then (if a3 = true then (some false) else (some true)) else (if a2 = true then ((spec_Chars.f k a0).bind fun t122 => (if t122 = true then (if a0.toList = ([104, 116, 116, 112, 58, 47, 47, 119, 119, 119, 46, 119, 51, 46, 111, 114, 103, 47, 88, 77, 76, 47, 49, 57, 57, 56, 47, 110, 97, 109, 101, 115, 112, 97, 99, 101] : List UInt8) then (some false) else (if a0.toList = ([104, 116, 116, 112, 58, 47, 47, 119, 119, 119, 46, 119, 51, 46, 111, 114, 103, 47, 50, 48, 48, 48, 47, 120, 109, 108, 110, 115, 47] : List UInt8) then (some false) else (some (a0.toList != ([120, 109, 108, 110, 115] : List UInt8))))) else (some false))) else (some false)))) else (some false))
theorem spec_named.mono : ∀ a0 a1 a2 a3 k, LeO (spec_named.f k a0 a1 a2 a3) (spec_named.f (k + 1) a0 a1 a2 a3) := by
  intro a0 a1 a2 a3 k
  unfold spec_named.f
  repeat' first
      | (with_reducible exact spec_Chars.mono _ _)
      | (with_reducible exact spec_IsName.mono _ _)
      | (with_reducible exact LeO.refl _)
      | (with_reducible exact LeO.none _)
      | (with_reducible refine LeO.ite ?_ ?_)
      | (with_reducible refine LeO.bind ?_ (fun _ => ?_))
      | exact spec_Chars.mono _ _
      | exact spec_IsName.mono _ _
      | exact LeO.none _
      | refine LeO.ite ?_ ?_
      | refine LeO.bind ?_ (fun _ => ?_)
set_option maxHeartbeats 8000000 in
set_option maxRecDepth 100000 in
theorem spec_named.calls (k : Nat) (a0 : ByteArray) (a1 : ByteArray) (a2 : Bool) (a3 : Bool) (r : Bool) (w : World) (h : spec_named.f k a0 a1 a2 a3 = some r) :
    Calls Tryz.prog 11 #[.string a0, .string a1, .bool a2, .bool a3] w fun e w' => e = .returned (.bool r) ∧ Drawn0 w w' := by
  have H : ((spec_IsName.f k a1).bind fun t121 => (if t121 = true then (if a1.toList = ([120, 109, 108, 110, 115] : List UInt8) then (some false) else (if a0.toList = ([] : List UInt8) then (if a3 = true then (some false) else (some true)) else (if a2 = true then ((spec_Chars.f k a0).bind fun t122 => (if t122 = true then (if a0.toList = ([104, 116, 116, 112, 58, 47, 47, 119, 119, 119, 46, 119, 51, 46, 111, 114, 103, 47, 88, 77, 76, 47, 49, 57, 57, 56, 47, 110, 97, 109, 101, 115, 112, 97, 99, 101] : List UInt8) then (some false) else (if a0.toList = ([104, 116, 116, 112, 58, 47, 47, 119, 119, 119, 46, 119, 51, 46, 111, 114, 103, 47, 50, 48, 48, 48, 47, 120, 109, 108, 110, 115, 47] : List UInt8) then (some false) else (some (a0.toList != ([120, 109, 108, 110, 115] : List UInt8))))) else (some false))) else (some false)))) else (some false))) = some r := h
  clear h
  replace H := Option.bind_eq_some_iff.mp H
  obtain ⟨t121, A50, H⟩ := H
  replace H : (if t121 = true then (if a1.toList = ([120, 109, 108, 110, 115] : List UInt8) then (some false) else (if a0.toList = ([] : List UInt8) then (if a3 = true then (some false) else (some true)) else (if a2 = true then ((spec_Chars.f k a0).bind fun t122 => (if t122 = true then (if a0.toList = ([104, 116, 116, 112, 58, 47, 47, 119, 119, 119, 46, 119, 51, 46, 111, 114, 103, 47, 88, 77, 76, 47, 49, 57, 57, 56, 47, 110, 97, 109, 101, 115, 112, 97, 99, 101] : List UInt8) then (some false) else (if a0.toList = ([104, 116, 116, 112, 58, 47, 47, 119, 119, 119, 46, 119, 51, 46, 111, 114, 103, 47, 50, 48, 48, 48, 47, 120, 109, 108, 110, 115, 47] : List UInt8) then (some false) else (some (a0.toList != ([120, 109, 108, 110, 115] : List UInt8))))) else (some false))) else (some false)))) else (some false)) = some r := H
  have A5 := Aside0.mk A50
  clear A50
  by_cases c6 : t121 = true
  · subst c6
    have H1 : (if a1.toList = ([120, 109, 108, 110, 115] : List UInt8) then (some false) else (if a0.toList = ([] : List UInt8) then (if a3 = true then (some false) else (some true)) else (if a2 = true then ((spec_Chars.f k a0).bind fun t122 => (if t122 = true then (if a0.toList = ([104, 116, 116, 112, 58, 47, 47, 119, 119, 119, 46, 119, 51, 46, 111, 114, 103, 47, 88, 77, 76, 47, 49, 57, 57, 56, 47, 110, 97, 109, 101, 115, 112, 97, 99, 101] : List UInt8) then (some false) else (if a0.toList = ([104, 116, 116, 112, 58, 47, 47, 119, 119, 119, 46, 119, 51, 46, 111, 114, 103, 47, 50, 48, 48, 48, 47, 120, 109, 108, 110, 115, 47] : List UInt8) then (some false) else (some (a0.toList != ([120, 109, 108, 110, 115] : List UInt8))))) else (some false))) else (some false)))) = some r := by rw [if_pos rfl] at H; exact H
    clear H
    have H := H1
    clear H1
    by_cases c7 : a1.toList = ([120, 109, 108, 110, 115] : List UInt8)
    · rw [if_pos c7] at H
      have c7b0 : (a1.toList == ([120, 109, 108, 110, 115] : List UInt8)) = true := beq_iff_eq.mpr c7
      have c7b1 : (a1.toList != ([120, 109, 108, 110, 115] : List UInt8)) = false := bne_eq_false_iff_eq.mpr c7
      clear c7
      obtain rfl := Option.some.inj H
      go_enter Tryz.func11, Tryz.ntmps11
      go_wp2_with (first | ((with_reducible refine gate_callee (f := 6) rfl ?_); refine goesL_ (some 10) rfl rfl Tryz.func6 (by kernel_rfl) rfl #[.string a1] rfl (by (try simp only [List.map_toArray, List.map_cons, List.map_nil]); first | done | rfl | (simp only [List.length_drop, List.length_take]; rfl)) ?_; (with_reducible refine (spec_IsName.calls k a1 true _ A5.out).mono ?_); rintro e w' ⟨rfl, ⟨nd, rfl⟩⟩; refine ⟨_, rfl, ?_⟩))
      go_ret
      exact ⟨by first | rfl | (simp; done) | (simp [*]; done), by repeat (first | exact Drawn0.refl _ | apply Drawn0.step)⟩
    · rw [if_neg c7] at H
      have c7b0 : (a1.toList == ([120, 109, 108, 110, 115] : List UInt8)) = false := beq_eq_false_iff_ne.mpr c7
      have c7b1 : (a1.toList != ([120, 109, 108, 110, 115] : List UInt8)) = true := bne_iff_ne.mpr c7
      by_cases c8 : a0.toList = ([] : List UInt8)
      · rw [if_pos c8] at H
        have c8b0 : (a0.toList == ([] : List UInt8)) = true := beq_iff_eq.mpr c8
        have c8b1 : (a0.toList != ([] : List UInt8)) = false := bne_eq_false_iff_eq.mpr c8
        clear c8
        by_cases c9 : a3 = true
        · subst c9
          have H1 : (some false) = some r := by rw [if_pos rfl] at H; exact H
          clear H
          have H := H1
          clear H1
          obtain rfl := Option.some.inj H
          go_enter Tryz.func11, Tryz.ntmps11
          go_wp2_with (first | ((with_reducible refine gate_callee (f := 6) rfl ?_); refine goesL_ (some 10) rfl rfl Tryz.func6 (by kernel_rfl) rfl #[.string a1] rfl (by (try simp only [List.map_toArray, List.map_cons, List.map_nil]); first | done | rfl | (simp only [List.length_drop, List.length_take]; rfl)) ?_; (with_reducible refine (spec_IsName.calls k a1 true _ A5.out).mono ?_); rintro e w' ⟨rfl, ⟨nd, rfl⟩⟩; refine ⟨_, rfl, ?_⟩))
          go_ret
          exact ⟨by first | rfl | (simp; done) | (simp [*]; done), by repeat (first | exact Drawn0.refl _ | apply Drawn0.step)⟩
        · replace c9 := Bool.eq_false_iff.mpr c9
          subst c9
          have H1 : (some true) = some r := by rw [if_neg (show ¬ (false = true) by decide)] at H; exact H
          clear H
          have H := H1
          clear H1
          obtain rfl := Option.some.inj H
          go_enter Tryz.func11, Tryz.ntmps11
          go_wp2_with (first | ((with_reducible refine gate_callee (f := 6) rfl ?_); refine goesL_ (some 10) rfl rfl Tryz.func6 (by kernel_rfl) rfl #[.string a1] rfl (by (try simp only [List.map_toArray, List.map_cons, List.map_nil]); first | done | rfl | (simp only [List.length_drop, List.length_take]; rfl)) ?_; (with_reducible refine (spec_IsName.calls k a1 true _ A5.out).mono ?_); rintro e w' ⟨rfl, ⟨nd, rfl⟩⟩; refine ⟨_, rfl, ?_⟩))
          go_ret
          exact ⟨by first | rfl | (simp; done) | (simp [*]; done), by repeat (first | exact Drawn0.refl _ | apply Drawn0.step)⟩
      · rw [if_neg c8] at H
        have c8b0 : (a0.toList == ([] : List UInt8)) = false := beq_eq_false_iff_ne.mpr c8
        have c8b1 : (a0.toList != ([] : List UInt8)) = true := bne_iff_ne.mpr c8
        by_cases c10 : a2 = true
        · subst c10
          have H1 : ((spec_Chars.f k a0).bind fun t122 => (if t122 = true then (if a0.toList = ([104, 116, 116, 112, 58, 47, 47, 119, 119, 119, 46, 119, 51, 46, 111, 114, 103, 47, 88, 77, 76, 47, 49, 57, 57, 56, 47, 110, 97, 109, 101, 115, 112, 97, 99, 101] : List UInt8) then (some false) else (if a0.toList = ([104, 116, 116, 112, 58, 47, 47, 119, 119, 119, 46, 119, 51, 46, 111, 114, 103, 47, 50, 48, 48, 48, 47, 120, 109, 108, 110, 115, 47] : List UInt8) then (some false) else (some (a0.toList != ([120, 109, 108, 110, 115] : List UInt8))))) else (some false))) = some r := by rw [if_pos rfl] at H; exact H
          clear H
          have H := H1
          clear H1
          replace H := Option.bind_eq_some_iff.mp H
          obtain ⟨t122, A110, H⟩ := H
          replace H : (if t122 = true then (if a0.toList = ([104, 116, 116, 112, 58, 47, 47, 119, 119, 119, 46, 119, 51, 46, 111, 114, 103, 47, 88, 77, 76, 47, 49, 57, 57, 56, 47, 110, 97, 109, 101, 115, 112, 97, 99, 101] : List UInt8) then (some false) else (if a0.toList = ([104, 116, 116, 112, 58, 47, 47, 119, 119, 119, 46, 119, 51, 46, 111, 114, 103, 47, 50, 48, 48, 48, 47, 120, 109, 108, 110, 115, 47] : List UInt8) then (some false) else (some (a0.toList != ([120, 109, 108, 110, 115] : List UInt8))))) else (some false)) = some r := H
          have A11 := Aside0.mk A110
          clear A110
          by_cases c12 : t122 = true
          · subst c12
            have H1 : (if a0.toList = ([104, 116, 116, 112, 58, 47, 47, 119, 119, 119, 46, 119, 51, 46, 111, 114, 103, 47, 88, 77, 76, 47, 49, 57, 57, 56, 47, 110, 97, 109, 101, 115, 112, 97, 99, 101] : List UInt8) then (some false) else (if a0.toList = ([104, 116, 116, 112, 58, 47, 47, 119, 119, 119, 46, 119, 51, 46, 111, 114, 103, 47, 50, 48, 48, 48, 47, 120, 109, 108, 110, 115, 47] : List UInt8) then (some false) else (some (a0.toList != ([120, 109, 108, 110, 115] : List UInt8))))) = some r := by rw [if_pos rfl] at H; exact H
            clear H
            have H := H1
            clear H1
            by_cases c13 : a0.toList = ([104, 116, 116, 112, 58, 47, 47, 119, 119, 119, 46, 119, 51, 46, 111, 114, 103, 47, 88, 77, 76, 47, 49, 57, 57, 56, 47, 110, 97, 109, 101, 115, 112, 97, 99, 101] : List UInt8)
            · rw [if_pos c13] at H
              have c13b0 : (a0.toList == ([104, 116, 116, 112, 58, 47, 47, 119, 119, 119, 46, 119, 51, 46, 111, 114, 103, 47, 88, 77, 76, 47, 49, 57, 57, 56, 47, 110, 97, 109, 101, 115, 112, 97, 99, 101] : List UInt8)) = true := beq_iff_eq.mpr c13
              have c13b1 : (a0.toList != ([104, 116, 116, 112, 58, 47, 47, 119, 119, 119, 46, 119, 51, 46, 111, 114, 103, 47, 88, 77, 76, 47, 49, 57, 57, 56, 47, 110, 97, 109, 101, 115, 112, 97, 99, 101] : List UInt8)) = false := bne_eq_false_iff_eq.mpr c13
              clear c13
              obtain rfl := Option.some.inj H
              go_enter Tryz.func11, Tryz.ntmps11
              go_wp2_with (first | ((with_reducible refine gate_callee (f := 6) rfl ?_); refine goesL_ (some 10) rfl rfl Tryz.func6 (by kernel_rfl) rfl #[.string a1] rfl (by (try simp only [List.map_toArray, List.map_cons, List.map_nil]); first | done | rfl | (simp only [List.length_drop, List.length_take]; rfl)) ?_; (with_reducible refine (spec_IsName.calls k a1 true _ A5.out).mono ?_); rintro e w' ⟨rfl, ⟨nd, rfl⟩⟩; refine ⟨_, rfl, ?_⟩) | (go_at_call 13; (with_reducible refine (spec_Chars.calls k a0 true _ A11.out).mono ?_); rintro e w' ⟨rfl, ⟨nd, rfl⟩⟩))
              go_ret
              exact ⟨by first | rfl | (simp; done) | (simp [*]; done), by repeat (first | exact Drawn0.refl _ | apply Drawn0.step)⟩
            · rw [if_neg c13] at H
              have c13b0 : (a0.toList == ([104, 116, 116, 112, 58, 47, 47, 119, 119, 119, 46, 119, 51, 46, 111, 114, 103, 47, 88, 77, 76, 47, 49, 57, 57, 56, 47, 110, 97, 109, 101, 115, 112, 97, 99, 101] : List UInt8)) = false := beq_eq_false_iff_ne.mpr c13
              have c13b1 : (a0.toList != ([104, 116, 116, 112, 58, 47, 47, 119, 119, 119, 46, 119, 51, 46, 111, 114, 103, 47, 88, 77, 76, 47, 49, 57, 57, 56, 47, 110, 97, 109, 101, 115, 112, 97, 99, 101] : List UInt8)) = true := bne_iff_ne.mpr c13
              by_cases c14 : a0.toList = ([104, 116, 116, 112, 58, 47, 47, 119, 119, 119, 46, 119, 51, 46, 111, 114, 103, 47, 50, 48, 48, 48, 47, 120, 109, 108, 110, 115, 47] : List UInt8)
              · rw [if_pos c14] at H
                have c14b0 : (a0.toList == ([104, 116, 116, 112, 58, 47, 47, 119, 119, 119, 46, 119, 51, 46, 111, 114, 103, 47, 50, 48, 48, 48, 47, 120, 109, 108, 110, 115, 47] : List UInt8)) = true := beq_iff_eq.mpr c14
                have c14b1 : (a0.toList != ([104, 116, 116, 112, 58, 47, 47, 119, 119, 119, 46, 119, 51, 46, 111, 114, 103, 47, 50, 48, 48, 48, 47, 120, 109, 108, 110, 115, 47] : List UInt8)) = false := bne_eq_false_iff_eq.mpr c14
                clear c14
                obtain rfl := Option.some.inj H
                go_enter Tryz.func11, Tryz.ntmps11
                go_wp2_with (first | ((with_reducible refine gate_callee (f := 6) rfl ?_); refine goesL_ (some 10) rfl rfl Tryz.func6 (by kernel_rfl) rfl #[.string a1] rfl (by (try simp only [List.map_toArray, List.map_cons, List.map_nil]); first | done | rfl | (simp only [List.length_drop, List.length_take]; rfl)) ?_; (with_reducible refine (spec_IsName.calls k a1 true _ A5.out).mono ?_); rintro e w' ⟨rfl, ⟨nd, rfl⟩⟩; refine ⟨_, rfl, ?_⟩) | (go_at_call 13; (with_reducible refine (spec_Chars.calls k a0 true _ A11.out).mono ?_); rintro e w' ⟨rfl, ⟨nd, rfl⟩⟩))
                go_ret
                exact ⟨by first | rfl | (simp; done) | (simp [*]; done), by repeat (first | exact Drawn0.refl _ | apply Drawn0.step)⟩
              · rw [if_neg c14] at H
                have c14b0 : (a0.toList == ([104, 116, 116, 112, 58, 47, 47, 119, 119, 119, 46, 119, 51, 46, 111, 114, 103, 47, 50, 48, 48, 48, 47, 120, 109, 108, 110, 115, 47] : List UInt8)) = false := beq_eq_false_iff_ne.mpr c14
                have c14b1 : (a0.toList != ([104, 116, 116, 112, 58, 47, 47, 119, 119, 119, 46, 119, 51, 46, 111, 114, 103, 47, 50, 48, 48, 48, 47, 120, 109, 108, 110, 115, 47] : List UInt8)) = true := bne_iff_ne.mpr c14
                obtain rfl := Option.some.inj H
                go_enter Tryz.func11, Tryz.ntmps11
                go_wp2_with (first | ((with_reducible refine gate_callee (f := 6) rfl ?_); refine goesL_ (some 10) rfl rfl Tryz.func6 (by kernel_rfl) rfl #[.string a1] rfl (by (try simp only [List.map_toArray, List.map_cons, List.map_nil]); first | done | rfl | (simp only [List.length_drop, List.length_take]; rfl)) ?_; (with_reducible refine (spec_IsName.calls k a1 true _ A5.out).mono ?_); rintro e w' ⟨rfl, ⟨nd, rfl⟩⟩; refine ⟨_, rfl, ?_⟩) | (go_at_call 13; (with_reducible refine (spec_Chars.calls k a0 true _ A11.out).mono ?_); rintro e w' ⟨rfl, ⟨nd, rfl⟩⟩))
                go_ret
                exact ⟨by first | rfl | (simp; done) | (simp [*]; done), by repeat (first | exact Drawn0.refl _ | apply Drawn0.step)⟩
          · replace c12 := Bool.eq_false_iff.mpr c12
            subst c12
            have H1 : (some false) = some r := by rw [if_neg (show ¬ (false = true) by decide)] at H; exact H
            clear H
            have H := H1
            clear H1
            obtain rfl := Option.some.inj H
            go_enter Tryz.func11, Tryz.ntmps11
            go_wp2_with (first | ((with_reducible refine gate_callee (f := 6) rfl ?_); refine goesL_ (some 10) rfl rfl Tryz.func6 (by kernel_rfl) rfl #[.string a1] rfl (by (try simp only [List.map_toArray, List.map_cons, List.map_nil]); first | done | rfl | (simp only [List.length_drop, List.length_take]; rfl)) ?_; (with_reducible refine (spec_IsName.calls k a1 true _ A5.out).mono ?_); rintro e w' ⟨rfl, ⟨nd, rfl⟩⟩; refine ⟨_, rfl, ?_⟩) | (go_at_call 13; (with_reducible refine (spec_Chars.calls k a0 false _ A11.out).mono ?_); rintro e w' ⟨rfl, ⟨nd, rfl⟩⟩))
            go_ret
            exact ⟨by first | rfl | (simp; done) | (simp [*]; done), by repeat (first | exact Drawn0.refl _ | apply Drawn0.step)⟩
        · replace c10 := Bool.eq_false_iff.mpr c10
          subst c10
          have H1 : (some false) = some r := by rw [if_neg (show ¬ (false = true) by decide)] at H; exact H
          clear H
          have H := H1
          clear H1
          obtain rfl := Option.some.inj H
          go_enter Tryz.func11, Tryz.ntmps11
          go_wp2_with (first | ((with_reducible refine gate_callee (f := 6) rfl ?_); refine goesL_ (some 10) rfl rfl Tryz.func6 (by kernel_rfl) rfl #[.string a1] rfl (by (try simp only [List.map_toArray, List.map_cons, List.map_nil]); first | done | rfl | (simp only [List.length_drop, List.length_take]; rfl)) ?_; (with_reducible refine (spec_IsName.calls k a1 true _ A5.out).mono ?_); rintro e w' ⟨rfl, ⟨nd, rfl⟩⟩; refine ⟨_, rfl, ?_⟩))
          go_ret
          exact ⟨by first | rfl | (simp; done) | (simp [*]; done), by repeat (first | exact Drawn0.refl _ | apply Drawn0.step)⟩
  · replace c6 := Bool.eq_false_iff.mpr c6
    subst c6
    have H1 : (some false) = some r := by rw [if_neg (show ¬ (false = true) by decide)] at H; exact H
    clear H
    have H := H1
    clear H1
    obtain rfl := Option.some.inj H
    go_enter Tryz.func11, Tryz.ntmps11
    go_wp2_with (first | ((with_reducible refine gate_callee (f := 6) rfl ?_); refine goesL_ (some 10) rfl rfl Tryz.func6 (by kernel_rfl) rfl #[.string a1] rfl (by (try simp only [List.map_toArray, List.map_cons, List.map_nil]); first | done | rfl | (simp only [List.length_drop, List.length_take]; rfl)) ?_; (with_reducible refine (spec_IsName.calls k a1 false _ A5.out).mono ?_); rintro e w' ⟨rfl, ⟨nd, rfl⟩⟩; refine ⟨_, rfl, ?_⟩))
    go_ret
    exact ⟨by first | rfl | (simp; done) | (simp [*]; done), by repeat (first | exact Drawn0.refl _ | apply Drawn0.step)⟩

end Go.Proofs.YtjoahpmalhmjkaaGreatDoor.PFnEncodeNested
