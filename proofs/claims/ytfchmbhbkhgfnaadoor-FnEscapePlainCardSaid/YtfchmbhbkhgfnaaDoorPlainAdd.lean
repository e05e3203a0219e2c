/- What is proved here: the reader's add, onto no token; conditions: those that each theorem names. -/
import Derived.Test.YtfchmbhbkhgfnaaDoorPlainSt
import Derived.Deep.RegionLawGrows
namespace Go.Proofs.YtfchmbhbkhgfnaaDoor.PlainSt
open Go.RowKit Go.Proofs.YtfchmbhbkhgfnaaDoorW.PrintWords Go.Proofs.YtfchmbhbkhgfnaaDoorW.PrintLast Go.Proofs.YtfchmbhbkhgfnaaDoorW.PrintMore
open Go.Proofs.YtfchmbhbkhgfnaaDoor.EscPure Go.Proofs.YtfchmbhbkhgfnaaDoor.EscDec
attribute [local go_sem] max2_int min2_int max_two min_two max_three min_three max_four min_four
set_option linter.unusedVariables false
set_option linter.unusedSimpArgs false

theorem PS.drew {w0 W : World} {g : Nat} {e : ByteArray} {a : Nat} {v5 : Value} (h : PS w0 W g e a v5) : PS w0 W.drew g e a v5 := ⟨h.1, h.2.1, h.2.2.drew⟩
theorem PS.grown {w0 W W' : World} {g : Nat} {e : ByteArray} {a : Nat} {v5 : Value} (h : PS w0 W g e a v5) (hg : W.grownBy W' none) : PS w0 W' g e a v5 :=
  ⟨blk_grown h.1 hg (by simp), h.2.1, pw_below_grown h.2.2 none h.2.2.size hg (by simp)⟩
theorem PS.far {w0 W : World} {g : Nat} {e : ByteArray} {a : Nat} {v5 : Value} (h : PS w0 W g e a v5) {p : Addr} (hne : g ≠ p.block) (hge : w0.heap.size ≤ p.block) (v : Value) : PS w0 (W.setCell p v) g e a v5 :=
  ⟨blk_far h.1 hne v, h.2.1, h.2.2.setCell hge v⟩

theorem alloc_at (W : World) (o : Obj) (n : Nat) (h : W.heap.size = n) : (W.alloc o).heap[n]? = some o := by
  subst h
  exact heap_alloc_new W o
theorem alloc_drew (W : World) (o : Obj) (n : Nat) (h : W.heap.size = n) : (W.alloc o).drew.heap[n]? = some o := alloc_at W o n h
theorem one6 {t : ByteArray} {a : Int} : ∀ u ∈ [Value.int .i64 3, .string ⟨#[]⟩, .string ⟨#[]⟩, .slice none 0 0, .string t, .int .i64 a], u.oneCell' = true := by
  intro u hu
  simp only [List.mem_cons, List.not_mem_nil, or_false] at hu
  rcases hu with rfl | rfl | rfl | rfl | rfl | rfl <;> rfl

set_option maxHeartbeats 2000000 in
set_option maxRecDepth 100000 in
theorem add_any (w0 w : World) (g : Nat) (e : ByteArray) (a : Nat) (t : ByteArray) (h : PS w0 w g e a (.slice none 0 0)) :
    Calls Tryd.prog 27 #[.pointer (some ⟨g, 0, none⟩), .agg #[.int .i64 3, .string ⟨#[]⟩, .string ⟨#[]⟩, .slice none 0 0, .string t, .int .i64 0]] w fun x w' => x = .returned (.bool true) ∧ ∃ v, PS w0 w' g e a v := by
  have hl := blk_lt h.1
  have HP := Aside0.mk h
  have h0 := h.c0
  have h1 := h.c1
  have h5 := h.c5
  have f1 := h.fz 1
  have f5 := h.fz 5
  have hne : g ≠ w.heap.size := by omega
  have hne' : w.heap.size ≠ g := by omega
  clear h
  obtain ⟨i0, hi0, hz0⟩ := Option.map_eq_some_iff.1 (show (Tryd.prog.info? 60).map (fun i => (i.zero, i.size, i.bytes)) = some (some (.agg #[.int .i64 0, .string ⟨#[]⟩, .string ⟨#[]⟩, .slice none 0 0, .string ⟨#[]⟩, .int .i64 0]), 6, 88) by kernel_rfl)
  simp only [Prod.mk.injEq] at hz0
  obtain ⟨hz0, hz1, hz2⟩ := hz0
  have HI := Aside0.mk hi0
  have HZ0 := Aside0.mk hz0
  have HZ1 := Aside0.mk hz1
  have HZ2 := Aside0.mk hz2
  clear hi0 hz0 hz1 hz2
  go_enter Tryd.func27, Tryd.ntmps27
  go_wp2_with fail
  have hge : w0.heap.size ≤ w.heap.size := HP.out.2.2.size
  go_region_law (refine step_append_grows rfl (.tmp 14) (.tmp 16) 25 rfl 60 i0 _ 6 88 Tryd.underlying25 HI.out HZ0.out HZ1.out HZ2.out rfl (by decide) none 0 0 [] (by simp [Act.eval, Act.put]) (fun _ => ⟨rfl, rfl⟩) rfl (fun _ h => by cases h) ⟨w.heap.size + 1, 0, none⟩ 1 1 [.int .i64 3, .string ⟨#[]⟩, .string ⟨#[]⟩, .slice none 0 0, .string t, .int .i64 (a : Int)] (by simp [Act.eval, Act.put]) rfl (World.news_of_block (cs := #[.int .i64 3, .string ⟨#[]⟩, .string ⟨#[]⟩, .slice none 0 0, .string t, .int .i64 (a : Int)]) (t := 60) (fr := (0, 0)) (by first | exact alloc_at _ _ _ (by simp) | exact alloc_drew _ _ _ (by simp))) one6 (by decide) (by decide) (by decide) ?_; intro v' w' hown hgrow; obtain ⟨A1, c1, rfl⟩ := own_slice hown; have HPP := Aside0.mk (PS.grown (by repeat (first | exact HP.out | apply PS.drewN | apply PS.drew | apply PS.alloc | refine PS.far ?_ hne hge _)) hgrow); have hcc := PS.c5 HPP.out; have hff := PS.fz HPP.out 5; clear hown hgrow)
  all_goals go_wp2_with fail
  all_goals go_ret
  all_goals exact ⟨rfl, _, by repeat (first | exact PS.put HPP.out _ | exact PS.put (PS.drewN HPP.out _) _ | apply PS.drewN | apply PS.drew)⟩

end Go.Proofs.YtfchmbhbkhgfnaaDoor.PlainSt
