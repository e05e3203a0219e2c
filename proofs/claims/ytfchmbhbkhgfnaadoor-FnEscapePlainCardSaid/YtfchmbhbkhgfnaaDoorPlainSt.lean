/- What is proved here: the reader's state while it reads one text (PS), and its small methods: ended, has, add; conditions: those that each theorem names. -/
import Derived.Test.YtfchmbhbkhgfnaaDoorPFnEscapePlainx0
import Derived.Test.YtfchmbhbkhgfnaaDoorEscDec
import Derived.Test.YtfchmbhbkhgfnaaDoorPlainPure
namespace Go.Proofs.YtfchmbhbkhgfnaaDoor.PlainSt
open Go.RowKit Go.Proofs.YtfchmbhbkhgfnaaDoorW.PrintWords Go.Proofs.YtfchmbhbkhgfnaaDoorW.PrintLast Go.Proofs.YtfchmbhbkhgfnaaDoorW.PrintMore
open Go.Proofs.YtfchmbhbkhgfnaaDoor.EscPure Go.Proofs.YtfchmbhbkhgfnaaDoor.EscDec
attribute [local go_sem] max2_int min2_int max_two min_two max_three min_three max_four min_four
set_option linter.unusedVariables false
set_option linter.unusedSimpArgs false

/-- The reader of text e at block g of W, at a place, with its tokens v5; it was made behind w0. -/
def PS (w0 W : World) (g : Nat) (e : ByteArray) (a : Nat) (v5 : Value) : Prop :=
  W.heap[g]? = some (.cells #[.string e, .int .i64 (a : Int), .bool false, .slice none 0 0, .string ⟨#[]⟩, v5, .slice none 0 0, .slice none 0 0, .int .i64 0] 43 (0, 0)) ∧ w0.heap.size ≤ g ∧ Below w0.heap.size w0 W

theorem PS.drewN {w0 W : World} {g : Nat} {e : ByteArray} {a : Nat} {v5 : Value} (h : PS w0 W g e a v5) (n : Nat) : PS w0 (W.drewN n) g e a v5 := ⟨h.1, h.2.1, pw_below_drewN h.2.2 n⟩
theorem PS.drawn {w0 W W' : World} {g : Nat} {e : ByteArray} {a : Nat} {v5 : Value} (h : PS w0 W g e a v5) (hd : Drawn0 W W') : PS w0 W' g e a v5 := by
  obtain ⟨n, rfl⟩ := hd.out
  exact h.drewN n
theorem PS.below {w0 W W' : World} {g : Nat} {e : ByteArray} {a : Nat} {v5 : Value} (h : PS w0 W g e a v5) (hb : Below W.heap.size W W') : PS w0 W' g e a v5 :=
  ⟨(hb.block g (blk_lt h.1)).trans h.1, h.2.1, below_then h.2.2 h.2.2.size hb⟩
theorem PS.alloc {w0 W : World} {g : Nat} {e : ByteArray} {a : Nat} {v5 : Value} (h : PS w0 W g e a v5) (o : Obj) : PS w0 (W.alloc o) g e a v5 := h.below (below_alloc (Below.refl _ _) o)
theorem PS.goto {w0 W : World} {g : Nat} {e : ByteArray} {a : Nat} {v5 : Value} (h : PS w0 W g e a v5) (x : Int) (b : Nat) (hx : x = (b : Int)) : PS w0 (W.setCell ⟨g, 1, none⟩ (.int .i64 x)) g e b v5 := by
  subst hx
  exact ⟨by simpa using blk_set h.1 1 (.int .i64 (b : Int)), h.2.1, below_set h.2.2 h.2.1⟩
theorem PS.put {w0 W : World} {g : Nat} {e : ByteArray} {a : Nat} {v5 : Value} (h : PS w0 W g e a v5) (v : Value) : PS w0 (W.setCell ⟨g, 5, none⟩ v) g e a v :=
  ⟨by simpa using blk_set h.1 5 v, h.2.1, below_set h.2.2 h.2.1⟩

section
variable {w0 W : World} {g : Nat} {e : ByteArray} {a : Nat} {v5 : Value} (h : PS w0 W g e a v5)
include h
theorem PS.c0 : W.cell? ⟨g, 0, none⟩ = some (.string e) := (blk_cell h.1 0).trans rfl
theorem PS.c1 : W.cell? ⟨g, 1, none⟩ = some (.int .i64 (a : Int)) := (blk_cell h.1 1).trans rfl
theorem PS.c2 : W.cell? ⟨g, 2, none⟩ = some (.bool false) := (blk_cell h.1 2).trans rfl
theorem PS.c3 : W.cell? ⟨g, 3, none⟩ = some (.slice none 0 0) := (blk_cell h.1 3).trans rfl
theorem PS.c5 : W.cell? ⟨g, 5, none⟩ = some v5 := (blk_cell h.1 5).trans rfl
theorem PS.c6 : W.cell? ⟨g, 6, none⟩ = some (.slice none 0 0) := (blk_cell h.1 6).trans rfl
theorem PS.fz (i : Nat) : W.frozen? ⟨g, i, none⟩ = false := blk_frozen h.1 i
end

theorem ended_any (w0 w : World) (g : Nat) (e : ByteArray) (a : Nat) (v5 : Value) (h : PS w0 w g e a v5) :
    Calls Tryd.prog 11 #[.pointer (some ⟨g, 0, none⟩)] w fun x w' => x = .returned (.bool (decide (e.size ≤ a))) ∧ PS w0 w' g e a v5 := by
  have HP := Aside0.mk h
  have h0 := h.c0
  have h1 := h.c1
  have f0 := h.fz 0
  have f1 := h.fz 1
  clear h
  go_enter Tryd.func11, Tryd.ntmps11
  go_wp2
  repeat (go_quiet (fail); try go_wp2)
  go_ret
  exact ⟨by simp, by repeat (first | exact HP.out | apply PS.drewN)⟩

theorem has_short (w0 w : World) (g : Nat) (e : ByteArray) (a : Nat) (v5 : Value) (s : ByteArray) (h : PS w0 w g e a v5) (ha : a ≤ e.size) (he : e.size < 9223372036854775808) (hs : e.size - a < s.size) :
    Calls Tryd.prog 15 #[.pointer (some ⟨g, 0, none⟩), .string s] w fun x w' => x = .returned (.bool false) ∧ PS w0 w' g e a v5 := by
  have HP := Aside0.mk h
  have h0 := h.c0
  have h1 := h.c1
  have f0 := h.fz 0
  have f1 := h.fz 1
  have c3b0 : decide ((wrap64 ((e.size : Int) - (a : Int))) < (s.size : Int)) = true := decide_eq_true (by unfold wrap64; omega)
  clear h
  generalize (a : Int) = x at h0 h1 c3b0
  go_enter Tryd.func15, Tryd.ntmps15
  go_wp2
  repeat (go_quiet (fail); try go_wp2)
  go_ret
  exact ⟨rfl, by repeat (first | exact HP.out | apply PS.drewN)⟩

theorem has_other (w0 w : World) (g : Nat) (e : ByteArray) (a : Nat) (v5 : Value) (s : ByteArray) (h : PS w0 w g e a v5) (he : e.size < 9223372036854775808) (hs : a + s.size ≤ e.size)
    (hne : (e.data.toList.drop a).take s.size ≠ s.data.toList) :
    Calls Tryd.prog 15 #[.pointer (some ⟨g, 0, none⟩), .string s] w fun x w' => x = .returned (.bool false) ∧ PS w0 w' g e a v5 := by
  have HP := Aside0.mk h
  have h0 := h.c0
  have h1 := h.c1
  have f0 := h.fz 0
  have f1 := h.fz 1
  have hw : wrap64 ((a : Int) + (s.size : Int)) = (a : Int) + (s.size : Int) := by unfold wrap64; omega
  have c3b0 : decide ((wrap64 ((e.size : Int) - (a : Int))) < (s.size : Int)) = false := decide_eq_false (by unfold wrap64; omega)
  have c5 : (0 : Int) ≤ (a : Int) := by omega
  have c6 : (a : Int) ≤ wrap64 ((a : Int) + (s.size : Int)) := by omega
  have c7 : wrap64 ((a : Int) + (s.size : Int)) ≤ (e.size : Int) := by omega
  have c8 : ¬ (e.extract ((a : Int)).toNat (wrap64 ((a : Int) + (s.size : Int))).toNat).toList = s.toList := by
    rw [hw, Lib.toList_data, Lib.toList_data, Lib.extract_data]
    rw [show ((a : Int)).toNat = a by omega, show ((a : Int) + (s.size : Int)).toNat - a = s.size by omega]
    exact hne
  have c8b0 := beq_eq_false_iff_ne.mpr c8
  have c8b1 := bne_iff_ne.mpr c8
  clear h hw c8 hne
  generalize (a : Int) = x at h0 h1 c3b0 c5 c6 c7 c8b0 c8b1
  have c5b0 := eq_true c5
  have c5b1 := decide_eq_true c5
  have c6b0 := eq_true c6
  have c6b1 := decide_eq_true c6
  have c7b0 := eq_true c7
  have c7b1 := decide_eq_true c7
  clear c5
  go_enter Tryd.func15, Tryd.ntmps15
  go_wp2
  repeat (go_quiet (fail); try go_wp2)
  go_ret
  exact ⟨rfl, by repeat (first | exact HP.out | apply PS.drewN)⟩

theorem has_yes (w0 w : World) (g : Nat) (e : ByteArray) (a : Nat) (v5 : Value) (s : ByteArray) (h : PS w0 w g e a v5) (he : e.size < 9223372036854775808) (hs : a + s.size ≤ e.size)
    (heq : (e.data.toList.drop a).take s.size = s.data.toList) :
    Calls Tryd.prog 15 #[.pointer (some ⟨g, 0, none⟩), .string s] w fun x w' => x = .returned (.bool true) ∧ PS w0 w' g e (a + s.size) v5 := by
  have HP := Aside0.mk h
  have h0 := h.c0
  have h1 := h.c1
  have f0 := h.fz 0
  have f1 := h.fz 1
  have hw : wrap64 ((a : Int) + (s.size : Int)) = (a : Int) + (s.size : Int) := by unfold wrap64; omega
  have HX := Aside0.mk (show wrap64 ((a : Int) + (s.size : Int)) = ((a + s.size : Nat) : Int) by omega)
  have c3b0 : decide ((wrap64 ((e.size : Int) - (a : Int))) < (s.size : Int)) = false := decide_eq_false (by unfold wrap64; omega)
  have c5 : (0 : Int) ≤ (a : Int) := by omega
  have c6 : (a : Int) ≤ wrap64 ((a : Int) + (s.size : Int)) := by omega
  have c7 : wrap64 ((a : Int) + (s.size : Int)) ≤ (e.size : Int) := by omega
  have c8 : (e.extract ((a : Int)).toNat (wrap64 ((a : Int) + (s.size : Int))).toNat).toList = s.toList := by
    rw [hw, Lib.toList_data, Lib.toList_data, Lib.extract_data]
    rw [show ((a : Int)).toNat = a by omega, show ((a : Int) + (s.size : Int)).toNat - a = s.size by omega]
    exact heq
  have c8b0 := beq_iff_eq.mpr c8
  have c8b1 := bne_eq_false_iff_eq.mpr c8
  clear h hw c8 heq
  generalize (a : Int) = x at h0 h1 c3b0 c5 c6 c7 c8b0 c8b1 HX
  have c5b0 := eq_true c5
  have c5b1 := decide_eq_true c5
  have c6b0 := eq_true c6
  have c6b1 := decide_eq_true c6
  have c7b0 := eq_true c7
  have c7b1 := decide_eq_true c7
  clear c5
  go_enter Tryd.func15, Tryd.ntmps15
  go_wp2
  repeat (go_quiet (fail); try go_wp2)
  go_ret
  exact ⟨rfl, by first | exact PS.goto (PS.drewN HP.out _) _ _ HX.out | exact PS.goto HP.out _ _ HX.out⟩

end Go.Proofs.YtfchmbhbkhgfnaaDoor.PlainSt
