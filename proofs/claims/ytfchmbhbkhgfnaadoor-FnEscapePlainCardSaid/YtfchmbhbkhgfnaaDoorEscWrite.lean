/- What is proved here: the thin package's writer keeps what it is handed; conditions: what it holds and gets is at most 2^47 bytes. -/
import Derived.Test.YtfchmbhbkhgfnaaDoorPFnEscapePartsx0
namespace Go.Proofs.YtfchmbhbkhgfnaaDoor.Esc
open Go.RowKit Go.Proofs.YtfchmbhbkhgfnaaDoorW.PrintWords Go.Proofs.YtfchmbhbkhgfnaaDoorW.PrintLast Go.Proofs.YtfchmbhbkhgfnaaDoorW.PrintMore
set_option linter.unusedVariables false
set_option linter.unusedSimpArgs false

/-- The thin package's writer: its block g holds a row of the bytes xs; what lies below base stands, but for g. -/
def Wr (w0 : World) (base g : Nat) (xs : List Int) (W : World) : Prop :=
  ∃ v : Value, W.heap[g]? = some (.cells #[v] 34 (0, 0)) ∧ W.ownsRow base 5 1 v xs.length (nums .u8 xs) ∧ base ≤ W.heap.size ∧ g < base ∧
    W.os = w0.os ∧ W.tape = w0.tape ∧ W.output = w0.output ∧ ∀ i, i < base → i ≠ g → W.heap[i]? = w0.heap[i]?

theorem cell_keeps {W w1 : World} {base g : Nat} {v : Value} (hg : g < base) (h : W.heap[g]? = some (.cells #[v] 34 (0, 0))) (hb : Below base W w1) : w1.cell? ⟨g, 0, none⟩ = some v := by
  rw [blk_cell ((hb.block g hg).trans h)]
  rfl
theorem frozen_keeps {W w1 : World} {base g : Nat} {v : Value} (hg : g < base) (h : W.heap[g]? = some (.cells #[v] 34 (0, 0))) (hb : Below base W w1) : w1.frozen? ⟨g, 0, none⟩ = false :=
  blk_frozen ((hb.block g hg).trans h) 0
theorem Wr.put {w0 W w1 : World} {base g : Nat} {v v1 : Value} {zs : List Int} (h : W.heap[g]? = some (.cells #[v] 34 (0, 0))) (h4 : W.os = w0.os ∧ W.tape = w0.tape ∧ W.output = w0.output ∧ ∀ i, i < base → i ≠ g → W.heap[i]? = w0.heap[i]?)
    (hg : g < base) (hb : base ≤ W.heap.size) (ho : w1.ownsRow base 5 1 v1 zs.length (nums .u8 zs)) (hbel : Below base W w1) : Wr w0 base g zs (w1.setCell ⟨g, 0, none⟩ v1) := by
  obtain ⟨a1, a2, a3, a4⟩ := h4
  have hs := (Below.refl 0 w1).setCell (p := ⟨g, 0, none⟩) (Nat.zero_le _) v1
  refine ⟨v1, blk_set ((hbel.block g hg).trans h) 0 v1, own_setCell ho (fun e => ?_) v1, by simpa using Nat.le_trans hb hbel.size, hg, ?_, ?_, ?_, fun i hi hne => ?_⟩
  · have := own_base ho g e.symm
    omega
  · exact hs.os.trans (hbel.os.trans a1)
  · exact hs.tape.trans (hbel.tape.trans a2)
  · exact hs.output.trans (hbel.output.trans a3)
  · exact (Below.heap_setCell w1 ⟨g, 0, none⟩ v1 i hne).trans ((hbel.block i hi).trans (a4 i hi hne))

set_option maxHeartbeats 1600000 in
theorem write_any (w0 : World) (base g : Nat) (xs ys : List Int) (A : Option Addr) (m c : Nat) (W : World) (h : Wr w0 base g xs W) (hr : ReadsInt W .u8 A m ys) (hl : xs.length + m ≤ 140737488355328) :
    Calls Tryd.prog 63 #[.pointer (some ⟨g, 0, none⟩), .slice A m c] W fun e W' => e = .returned (.tuple #[.int .i64 m, .nilIface]) ∧ Wr w0 base g (xs ++ ys) W' := by
  obtain ⟨v, hg, ho, hb, hgb, h1, h2, h3, h4⟩ := h
  have HG := Aside0.mk hg
  have HO := Aside0.mk ho
  have HR := Aside0.mk hr
  have H4 := Aside0.mk (show W.os = w0.os ∧ W.tape = w0.tape ∧ W.output = w0.output ∧ ∀ i, i < base → i ≠ g → W.heap[i]? = w0.heap[i]? from ⟨h1, h2, h3, h4⟩)
  have hc : W.cell? ⟨g, 0, none⟩ = some v := by rw [blk_cell hg]; rfl
  have hf : W.frozen? ⟨g, 0, none⟩ = false := blk_frozen hg 0
  clear hg ho hr h1 h2 h3 h4
  go_enter Tryd.func63, Tryd.ntmps63
  go_wp2_with (at_builtin; refine print_append_row (w0 := W) base rfl _ _ 32 5 .u8 1 rfl Tryd.underlying32 (by kernel_rfl) (by decide) v xs ys A m c rfl rfl HO.out HR.out (Below.refl _ _) hb (by omega) ?_; intro v1 w1 hown hbel hgr hat; obtain ⟨A1, c1, rfl⟩ := own_slice hown; have hc1 := cell_keeps hgb HG.out hbel; have hf1 := frozen_keeps hgb HG.out hbel; have HOW := Aside0.mk hown; have HBEL := Aside0.mk hbel; clear hown hbel hgr hat)
  go_ret2
  exact ⟨rfl, Wr.put HG.out H4.out hgb hb (by rw [← List.length_append]; exact HOW.out) HBEL.out⟩
end Go.Proofs.YtfchmbhbkhgfnaaDoor.Esc
