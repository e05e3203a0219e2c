/- What is proved here: the thin package's EscapeText hands back what the plain function esc tells; conditions: at most 10^6 bytes, the tables of unicode/utf8 as laid. -/
import Derived.Test.YtfchmbhbkhgfnaaDoorEscWalk
namespace Go.Proofs.YtfchmbhbkhgfnaaDoor.Esc
open Go.RowKit Go.Proofs.YtfchmbhbkhgfnaaDoorW.PrintWords Go.Proofs.YtfchmbhbkhgfnaaDoorW.PrintLast Go.Proofs.YtfchmbhbkhgfnaaDoorW.PrintMore
open Go.Proofs.YtfchmbhbkhgfnaaDoor.EscPure Go.Proofs.YtfchmbhbkhgfnaaDoor.PFnEscapeParts
set_option linter.unusedVariables false
set_option linter.unusedSimpArgs false

theorem pub_any (s : ByteArray) (b1 base g c : Nat) (w0 : World) (hs : s.size ≤ 1000000) (hc : s.size ≤ c) (h : Src s b1 base g w0) (hw : Wr w0 base g [] w0) :
    Calls Tryd.prog 10 #[.iface 31 (.pointer (some ⟨g, 0, none⟩)), .slice (some ⟨b1, 0, none⟩) s.size c] w0 fun e W' => e = .returned .nilIface ∧ Wr w0 base g (nm (esc s)) W' := by
  have HS := Aside0.mk h
  have HW0 := Aside0.mk hw
  clear h hw
  go_enter Tryd.func10, Tryd.ntmps10
  go_wp2_with fail
  with_reducible refine (escape_any s b1 base g c w0 hs hc HS.out HW0.out).mono ?_
  rintro e w1 ⟨rfl, hw1⟩
  have HW1 := Aside0.mk hw1
  clear hw1
  go_wp2_with fail
  go_ret
  exact ⟨rfl, HW1.out⟩

theorem tabs_lt {w : World} (h : Lib.Utf8Tabs 0 1 w) : 1 < w.heap.size := World.block_lt_of_cell? w ⟨1, 0, none⟩ (h.2 0 (by omega)).1

theorem start_src (s : ByteArray) (w : World) (hs : s.size ≤ 1000000) (h : Lib.Utf8Tabs 0 1 w) :
    Src s (w.heap.size + 1) (w.heap.size + 2) w.heap.size (Lib.bytesWorld (w.alloc (.cells #[.slice none 0 0] 34)) 5 s) ∧
    Wr (Lib.bytesWorld (w.alloc (.cells #[.slice none 0 0] 34)) 5 s) (w.heap.size + 2) w.heap.size [] (Lib.bytesWorld (w.alloc (.cells #[.slice none 0 0] 34)) 5 s) ∧
    Below w.heap.size w (Lib.bytesWorld (w.alloc (.cells #[.slice none 0 0] 34)) 5 s) := by
  have hl := tabs_lt h
  have ha : (w.alloc (.cells #[.slice none 0 0] 34)).heap.size = w.heap.size + 1 := by simp
  have hb : Below w.heap.size w (Lib.bytesWorld (w.alloc (.cells #[.slice none 0 0] 34)) 5 s) := bytes_below (below_alloc (Below.refl _ _) _) (by rw [ha]; omega) 5 s
  refine ⟨⟨Utf8Tabs_below h hb, ?_, hl, by omega, by omega, by omega⟩, ⟨.slice none 0 0, ?_, own_nil _ _ _ _, by rw [Lib.bytesWorld_size, ha]; omega, by omega, rfl, rfl, rfl, fun _ _ _ => rfl⟩, hb⟩
  · have := bytes_reads (w.alloc (.cells #[.slice none 0 0] 34)) 5 s (by omega)
    rw [ha] at this
    exact this
  · rw [Lib.bytesWorld_at_old _ _ _ _ (by rw [ha]; omega)]
    exact heap_alloc_new w _

theorem ofNums (L : List UInt8) : strOfNums (nm L) = ⟨L.toArray⟩ := by
  have e : (strOfNums (nm L)).data.toList = L := by
    rw [strOfNums_data]
    unfold nm
    rw [List.map_map]
    have : (fun n : Int => UInt8.ofNat n.toNat) ∘ (fun b : UInt8 => (b.toNat : Int)) = id := by
      funext b
      simp
    rw [this, List.map_id]
  rw [← Lib.mk_data (strOfNums (nm L)), e]

theorem Wr.over {w w0 W : World} {xs : List Int} (hb : Below w.heap.size w w0) (h : Wr w0 (w.heap.size + 2) w.heap.size xs W) : Below w.heap.size w W := by
  obtain ⟨v, h1, h2, h3, h4, h5, h6, h7, h8⟩ := h
  exact ⟨h5.trans hb.os, h6.trans hb.tape, h7.trans hb.output, by omega, fun k hk => (h8 k (by omega) (by omega)).trans (hb.block k hk)⟩

set_option maxHeartbeats 1600000 in
theorem impl_any (s : ByteArray) (w : World) (hs : s.size ≤ 1000000) (h : Lib.Utf8Tabs 0 1 w) :
    Calls Tryd.prog 6 #[.string s] w fun e W' => e = .returned (.string ⟨(esc s).toArray⟩) ∧ Below w.heap.size w W' := by
  obtain ⟨h1, h2, h3⟩ := start_src s w hs h
  have H1 := Aside0.mk h1
  have H2 := Aside0.mk h2
  have H3 := Aside0.mk h3
  have kb := fun W => print_bytes (P := Tryd.prog) 9 32 5 Tryd.underlying9 Tryd.underlying32 Tryd.underlying5 s W
  clear h1 h2 h3 h
  go_enter Tryd.func6, Tryd.ntmps6
  go_wp2_with fail
  with_reducible refine (pub_any s (w.heap.size + 1) (w.heap.size + 2) w.heap.size _ _ hs (grownCap_ge _ _ _ _) H1.out H2.out).mono ?_
  rintro e w1 ⟨rfl, hw1⟩
  obtain ⟨v, g1, g2, g3⟩ := id hw1
  obtain ⟨A, c, rfl⟩ := own_slice g2
  have hcell : w1.cell? ⟨w.heap.size, 0, none⟩ = some (.slice A (nm (esc s)).length c) := by rw [blk_cell g1]; rfl
  have hconv := own_string (P := Tryd.prog) (src := 32) (dst := 9) (e := 5) Tryd.underlying32 Tryd.underlying5 Tryd.underlying9 g2
  rw [ofNums] at hconv
  have HW1 := Aside0.mk (Wr.over H3.out hw1)
  clear hw1 g1 g2 g3
  go_wp2_with fail
  go_ret
  exact ⟨rfl, HW1.out⟩

end Go.Proofs.YtfchmbhbkhgfnaaDoor.Esc
