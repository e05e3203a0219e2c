/- What is proved here: a new Encoder over the thin package's new writer is in the encoder's state; no condition but that the writer is new. -/
import Derived.Test.YtjoahpmalhmjkaaGreatDoorEncSA
import Derived.Stop.Asserts
namespace Go.Proofs.YtjoahpmalhmjkaaGreatDoor.EncSt
open Go.RowKit Go.Proofs.YtjoahpmalhmjkaaGreatDoorW.PrintWords Go.Proofs.YtjoahpmalhmjkaaGreatDoorW.PrintLast Go.Proofs.YtjoahpmalhmjkaaGreatDoorW.PrintMore Go.Lib
set_option linter.unusedVariables false
set_option linter.unusedSimpArgs false

theorem no_bw (v : Value) (w : World) : (Instr.typeAssert (.iface 40 v) 66 67 true).run Tryz.prog w = .ok (.tuple #[.pointer none, .bool false]) w := by kernel_rfl

/-- A new bufio.Writer over the writer q: the buffer b, the Writer p; all else as it was. -/
structure NewW (W : World) (q N b p : Nat) (W' : World) : Prop where
  below : Below W.heap.size W W'
  bge : W.heap.size ≤ b
  bp : b ≠ p
  pge : W.heap.size ≤ p
  buf : ∃ ys : List Int, ys.length = N ∧ W'.heap[b]? = some (.cells (nums .u8 ys).toArray 5 (0, 0))
  blk : W'.heap[p]? = some (.cells #[.nilIface, .slice (some ⟨b, 0, none⟩) N N, .int .i64 0, .iface 40 (.pointer (some ⟨q, 0, none⟩))] 138 (0, 0))

set_option maxRecDepth 100000 in
theorem size_any (W : World) (q N : Nat) (x : Int) (hx : x = (N : Int)) (h0 : 0 < N) (hN : N ≤ 1099511627776) :
    Calls Tryz.prog 49 #[.iface 40 (.pointer (some ⟨q, 0, none⟩)), .int .i64 x] W fun e W' => ∃ b p, e = .returned (.pointer (some ⟨p, 0, none⟩)) ∧ NewW W q N b p W' := by
  subst hx
  obtain ⟨i0, hi, hz0, hsz, hby⟩ := info_parts info5
  have hnb := no_bw
  have hq : decide ((N : Int) ≤ 0) = false := decide_eq_false (by omega)
  have HI := Aside0.mk (And.intro hi (And.intro hz0 (And.intro hsz hby)))
  clear hi hz0 hsz hby
  go_enter Tryz.func49, Tryz.ntmps49
  go_wp2_with (refine wpList_make_full _ rfl (.tmp 25) (.tmp 25) 41 rfl 0 5 i0 (.int .u8 0) 1 Tryz.underlying41 HI.out.1 HI.out.2.1 HI.out.2.2.1 .i64 .i64 (N : Int) (N : Int) N rfl rfl rfl rfl (by rw [HI.out.2.2.2]; omega) (by simp only [maxLen]; omega) (Nat.zero_le _) ?_; intro w1 hown hgr; have HO := Aside0.mk hown; have HGR := Aside0.mk hgr; clear hown hgr)
  go_ret
  have hb1 : Below W.heap.size W w1 := (Below.refl _ _).grown HGR.out (Nat.le_refl _) (by simp)
  obtain ⟨h1, h2⟩ := HO.out
  rcases h2 with ⟨he, _⟩ | ⟨g, cap, cur, hv, _, hg, _, _, hcs, htk⟩
  · injection he with he
    cases he
  · injection hv with e1 e2 e3
    injection e1 with e1
    injection e1 with e1
    subst e1 e3
    have hcur : cur = (nums .u8 (List.replicate N 0)).toArray := by
      apply Array.toList_inj.1
      rw [Nat.mul_one] at hcs htk
      have : cur.toList.take N = cur.toList := List.take_of_length_le (by rw [Array.length_toList]; omega)
      rw [this] at htk
      rw [htk]
      show (madeCells #[.int .u8 0] N).toList = _
      rw [toList_madeCells_one]
      simp [nums]
    subst hcur
    have hlt := blk_lt hg
    exact ⟨W.heap.size, w1.heap.size, rfl, ⟨below_alloc hb1 _, Nat.le_refl _, by omega, hb1.size, ⟨List.replicate N 0, by simp, blk_alloc hg _⟩, blk_new w1 _⟩⟩

theorem neww_any (W : World) (q : Nat) :
    Calls Tryz.prog 31 #[.iface 40 (.pointer (some ⟨q, 0, none⟩))] W fun e W' => ∃ b p, e = .returned (.pointer (some ⟨p, 0, none⟩)) ∧ NewW W q 4096 b p W' := by
  go_enter Tryz.func31, Tryz.ntmps31
  go_wp2_with fail
  with_reducible refine (size_any W q 4096 4096 (by omega) (by omega) (by omega)).mono ?_
  rintro e w1 ⟨b, p, rfl, h⟩
  have H := Aside0.mk h
  clear h
  go_wp2_with fail
  go_ret
  exact ⟨b, p, rfl, H.out⟩

set_option maxRecDepth 100000 in
theorem new_enc (W : World) (q : Nat) (hq : W.heap[q]? = some (.cells #[.slice none 0 0] 43 (0, 0))) :
    Calls Tryz.prog 19 #[.iface 40 (.pointer (some ⟨q, 0, none⟩))] W fun e W' => ∃ b p g, e = .returned (.pointer (some ⟨g, 0, none⟩)) ∧ Below W.heap.size W W' ∧ SA (fun i => i < W.heap.size ∧ i ≠ q) W q b p g 0 [] 0 false W' := by
  have HQ := Aside0.mk hq
  clear hq
  go_enter Tryz.func19, Tryz.ntmps19
  go_wp2_with fail
  with_reducible refine (neww_any W q).mono ?_
  rintro e w1 ⟨b, p, rfl, h⟩
  have H := Aside0.mk h
  clear h
  go_wp2_with fail
  go_ret
  have hs1 := H.out.below.size
  obtain ⟨ys, hy, hb⟩ := H.out.buf
  have hp := H.out.blk
  have hbl := blk_lt hb
  have hpl := blk_lt hp
  have hql := blk_lt HQ.out
  have hbge := H.out.bge
  have hpge := H.out.pge
  have hbp := H.out.bp
  have hql1 : q < w1.heap.size := by omega
  have hbelow := below_alloc H.out.below (.cells (gcells p w1.heap.size (.slice none 0 0) (.slice none 0 0) false) 75)
  have hst : St (fun i => i < W.heap.size ∧ i ≠ q) W q b p w1.heap.size 0 0 (.slice none 0 0) (.slice none 0 0) (.slice none 0 0) [] 0 false (w1.alloc (.cells (gcells p w1.heap.size (.slice none 0 0) (.slice none 0 0) false) 75)) :=
    ⟨⟨hbelow.os, hbelow.tape, hbelow.output, hbelow.size, fun i hi => hi.1, fun i hi => hbelow.block i hi.1, fun i hi => ⟨hi.2, by have := hi.1; omega, by have := hi.1; omega, by have := hi.1; omega⟩⟩,
      blk_below HQ.out hbelow, ⟨[], rfl, own_nil _ _ _ _⟩, fun i hi => by simp [Value.ownBlock] at hi, ⟨ys, hy, blk_alloc hb _⟩, blk_alloc hp _, by omega, blk_new w1 _, own_nil _ _ _ _, fun i hi => (by simp [Value.ownBlock] at hi), own_nil _ _ _ _, fun i hi => (by simp [Value.ownBlock] at hi)⟩
  exact ⟨b, p, w1.heap.size, rfl, hbelow, 0, Nat.le_refl _, 0, 0, _, _, _, rfl, hst⟩

end Go.Proofs.YtjoahpmalhmjkaaGreatDoor.EncSt
