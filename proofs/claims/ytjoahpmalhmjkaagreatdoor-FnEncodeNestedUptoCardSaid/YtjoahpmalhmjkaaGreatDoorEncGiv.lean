/- What is proved here: the thin package's given turns a token into one of package xml, by the kinds of tokens; conditions: those that each theorem names. -/
import Derived.Test.YtjoahpmalhmjkaaGreatDoorEncTok
namespace Go.Proofs.YtjoahpmalhmjkaaGreatDoor.EncSt
open Go.RowKit Go.Proofs.YtjoahpmalhmjkaaGreatDoorW.PrintWords Go.Proofs.YtjoahpmalhmjkaaGreatDoorW.PrintLast Go.Proofs.YtjoahpmalhmjkaaGreatDoorW.PrintMore Go.Lib
open Go.Proofs.YtjoahpmalhmjkaaGreatDoor.PFnEncodeNested
set_option linter.unusedVariables false
set_option linter.unusedSimpArgs false

/-- A token's value, kind k. -/
def tokV (k : Int) (sp loc : ByteArray) (A : Option Addr) (n c : Nat) (tx : ByteArray) (a l m : Int) : Value :=
  .agg #[.int .i64 k, .string sp, .string loc, .slice A n c, .string tx, .int .i64 a, .int .i64 l, .int .i64 m]

def acells (ps : List (ByteArray × ByteArray)) : List Value := ps.flatMap fun p => [.string ⟨#[]⟩, .string p.1, .string p.2]
theorem acells_length (ps : List (ByteArray × ByteArray)) : (acells ps).length = ps.length * 3 := by
  unfold acells
  induction ps with
  | nil => rfl
  | cons t r ih =>
    rw [List.flatMap_cons, List.length_append, ih]
    simp
    omega
theorem acells_get (ps : List (ByteArray × ByteArray)) (j : Nat) (p : ByteArray × ByteArray) (h : ps[j]? = some p) :
    (acells ps)[j * 3]? = some (.string ⟨#[]⟩) ∧ (acells ps)[j * 3 + 1]? = some (.string p.1) ∧ (acells ps)[j * 3 + 2]? = some (.string p.2) := by
  have hl : j < ps.length := (List.getElem?_eq_some_iff.1 h).1
  have hp : ps[j] = p := (List.getElem?_eq_some_iff.1 h).2
  have e : ps = ps.take j ++ p :: ps.drop (j + 1) := by rw [← hp, List.getElem_cons_drop, List.take_append_drop]
  have e2 : acells ps = acells (ps.take j) ++ ([.string ⟨#[]⟩, .string p.1, .string p.2] ++ acells (ps.drop (j + 1))) := by
    conv => lhs; rw [e]
    unfold acells
    rw [List.flatMap_append, List.flatMap_cons]
  have hlen : (acells (ps.take j)).length = j * 3 := by rw [acells_length, List.length_take]; omega
  rw [e2]
  refine ⟨?_, ?_, ?_⟩
  · rw [List.getElem?_append_right (by omega), hlen, Nat.sub_self]; rfl
  · rw [List.getElem?_append_right (by omega), hlen, Nat.add_sub_cancel_left]; rfl
  · rw [List.getElem?_append_right (by omega), hlen, Nat.add_sub_cancel_left]; rfl

theorem given_end (nm sp tx : ByteArray) (A : Option Addr) (n c : Nat) (a l m : Int) (W : World) (hsp : sp = ⟨#[]⟩) :
    Calls Tryz.prog 21 #[tokV 2 sp nm A n c tx a l m] W fun e W' => e = .returned (.tuple #[.iface 84 (.agg #[.string ⟨#[]⟩, .string nm]), .bool true]) ∧ Below W.heap.size W W' := by
  subst hsp
  unfold tokV
  go_enter Tryz.func21, Tryz.ntmps21
  go_wp2
  go_ret2
  exact ⟨rfl, by repeat (first | exact Below.refl _ _ | apply below_alloc)⟩

theorem conv_end (W W2 : World) (hb : Below W.heap.size W W2) (x : Nat) (hx : W2.heap.size = x) (tx : ByteArray) (htx : tx.size ≤ 9223372036854775807) :
    Below W.heap.size W (Lib.bytesWorld W2 5 tx) ∧ W.heap.size ≤ x ∧ x < (Lib.bytesWorld W2 5 tx).heap.size ∧ tx.size ≤ grownCap W2 tx.size 0 5 ∧ ReadsInt (Lib.bytesWorld W2 5 tx) .u8 (some ⟨x, 0, none⟩) tx.size (bytesOf tx) := by
  subst hx
  have h2 := bytes_below (Below.refl W2.heap.size W2) (Nat.le_refl _) 5 tx
  exact ⟨below_step hb h2, hb.size, by rw [Lib.bytesWorld_size]; omega, grownCap_ge _ _ _ _, bytes_reads W2 5 tx htx⟩

theorem given_bytes (k : Int) (T : TypeId) (nm sp tx : ByteArray) (A : Option Addr) (n c : Nat) (a l m : Int) (W : World) (hk : (k = 3 ∧ T = 85) ∨ (k = 4 ∧ T = 86)) (htx : tx.size ≤ 9223372036854775807) :
    Calls Tryz.prog 21 #[tokV k sp nm A n c tx a l m] W fun e W' => ∃ x c', e = .returned (.tuple #[.iface T (.slice (some ⟨x, 0, none⟩) tx.size c'), .bool true]) ∧ Below W.heap.size W W' ∧ W.heap.size ≤ x ∧ x < W'.heap.size ∧ tx.size ≤ c' ∧ ReadsInt W' .u8 (some ⟨x, 0, none⟩) tx.size (bytesOf tx) := by
  rcases hk with ⟨rfl, rfl⟩ | ⟨rfl, rfl⟩
  · have kb := fun W => print_bytes (P := Tryz.prog) 9 85 5 Tryz.underlying9 Tryz.underlying85 Tryz.underlying5 tx W
    unfold tokV
    go_enter Tryz.func21, Tryz.ntmps21
    go_wp2
    go_ret2
    exact ⟨_, _, rfl, conv_end W _ (below_alloc (below_alloc (Below.refl _ _) _) _) _ (by simp) tx htx⟩
  · have kb := fun W => print_bytes (P := Tryz.prog) 9 86 5 Tryz.underlying9 Tryz.underlying86 Tryz.underlying5 tx W
    unfold tokV
    go_enter Tryz.func21, Tryz.ntmps21
    go_wp2
    go_ret2
    exact ⟨_, _, rfl, conv_end W _ (below_alloc (below_alloc (Below.refl _ _) _) _) _ (by simp) tx htx⟩

theorem given_proc (nm sp tx : ByteArray) (A : Option Addr) (n c : Nat) (a l m : Int) (W : World) (htx : tx.size ≤ 9223372036854775807) :
    Calls Tryz.prog 21 #[tokV 5 sp nm A n c tx a l m] W fun e W' => ∃ x c', e = .returned (.tuple #[.iface 88 (.agg #[.string nm, .slice (some ⟨x, 0, none⟩) tx.size c']), .bool true]) ∧ Below W.heap.size W W' ∧ W.heap.size ≤ x ∧ x < W'.heap.size ∧ tx.size ≤ c' ∧ ReadsInt W' .u8 (some ⟨x, 0, none⟩) tx.size (bytesOf tx) := by
  have kb := fun W => print_bytes (P := Tryz.prog) 9 41 5 Tryz.underlying9 Tryz.underlying41 Tryz.underlying5 tx W
  unfold tokV
  go_enter Tryz.func21, Tryz.ntmps21
  go_wp2
  go_ret2
  exact ⟨_, _, rfl, conv_end W _ (below_alloc (below_alloc (Below.refl _ _) _) _) _ (by simp) tx htx⟩

/-- The attributes of a token of the thin package, none with a name space. -/
def pairsOf (l : List S60) : List (ByteArray × ByteArray) := l.map fun a => (a.f1, a.f2)

set_option maxHeartbeats 4000000 in
set_option maxRecDepth 100000 in
theorem given_start (nm sp tx : ByteArray) (A : Option Addr) (ats : List S60) (c : Nat) (a l m : Int) (W : World) (hsp : sp = ⟨#[]⟩) (hc : ats.length ≤ c) (hr : Kd.C k60 W A ats.length ats) (hn : ats.length ≤ 1099511627776) (hs : ∀ z ∈ ats, z.f0 = ⟨#[]⟩) :
    Calls Tryz.prog 21 #[tokV 1 sp nm A ats.length c tx a l m] W fun e W' => ∃ A' c', e = .returned (.tuple #[.iface 80 (.agg #[.string ⟨#[]⟩, .string nm, .slice A' ats.length c']), .bool true]) ∧ Below W.heap.size W W' ∧ ats.length ≤ c' ∧
      (0 < ats.length → ∃ x, A' = some ⟨x, 0, none⟩ ∧ W.heap.size ≤ x ∧ x < W'.heap.size ∧ ∀ (j : Nat) (p : ByteArray × ByteArray), (pairsOf ats)[j]? = some p → W'.cell? ⟨x, j * 3, none⟩ = some (.string ⟨#[]⟩) ∧ W'.cell? ⟨x, j * 3 + 1, none⟩ = some (.string p.1) ∧ W'.cell? ⟨x, j * 3 + 2, none⟩ = some (.string p.2)) := by
  subst hsp
  have HR := Aside0.mk hr
  clear hr
  unfold tokV
  go_enter Tryz.func21, Tryz.ntmps21
  go_wp2_with fail
  have HE := Aside0.mk (show (((W.alloc (.cells #[.int .i64 1, .string ⟨#[]⟩, .string nm, .slice A ats.length c, .string tx, .int .i64 a, .int .i64 l, .int .i64 m] 49)).alloc (.cells #[.string ⟨#[]⟩, .string nm] 77)).alloc (.cells #[.string ⟨#[]⟩, .string nm, .slice none 0 0] 80)).heap[W.heap.size + 1 + 1]? = some (.cells #[.string ⟨#[]⟩, .string nm, .slice none 0 0] 80 (0, 0)) by
    have := blk_new ((W.alloc (.cells #[.int .i64 1, .string ⟨#[]⟩, .string nm, .slice A ats.length c, .string tx, .int .i64 a, .int .i64 l, .int .i64 m] 49)).alloc (.cells #[.string ⟨#[]⟩, .string nm] 77)) (.cells #[.string ⟨#[]⟩, .string nm, .slice none 0 0] 80)
    simpa using this)
  have HB0 := Aside0.mk (below_alloc (below_alloc (below_alloc (Below.refl W.heap.size W) (.cells #[.int .i64 1, .string ⟨#[]⟩, .string nm, .slice A ats.length c, .string tx, .int .i64 a, .int .i64 l, .int .i64 m] 49)) (.cells #[.string ⟨#[]⟩, .string nm] 77)) (.cells #[.string ⟨#[]⟩, .string nm, .slice none 0 0] 80))
  go_loopw [22] (fun v22 W1 => ∃ (i : Nat) (v : Value), v22 = .int .i64 (i : Int) ∧ i ≤ ats.length ∧ Aside0 (W1.heap[W.heap.size + 1 + 1]? = some (.cells #[.string ⟨#[]⟩, .string nm, v] 80 (0, 0))) ∧ Aside0 (W1.ownsRow W.heap.size 82 3 v i (acells ((pairsOf ats).take i))) ∧ Aside0 (Below W.heap.size W W1)) (fun v22 _ => ats.length - (RowKit.intOf v22).toNat)
  case atStart => exact ⟨0, _, rfl, Nat.zero_le _, HE, ⟨own_nil _ _ _ _⟩, HB0⟩
  case round =>
    obtain ⟨i, v, rfl, hi, HEi, HO, HB⟩ := hrel
    clear HE HB0
    by_cases hlt : i < ats.length
    · have hr := Kd.C_below HR.out HB.out
      obtain ⟨ad, rfl, x0, x1, x2⟩ := at_T60 hr (i : Int) (by omega) (by omega)
      have hsz := HB.out.size
      generalize hz : rd_T60 ats (i : Int) = z at x0 x1 x2
      have hz0 : ats[i]? = some z := by
        rw [← hz]
        unfold rd_T60
        rw [List.getD_eq_getElem?_getD]
        simp [hlt]
      have HZ := Aside0.mk hz0
      have hz1 : z.f0 = ⟨#[]⟩ := hs z (List.mem_of_getElem? hz0)
      rw [hz1] at x0
      simp only [Int.toNat_natCast] at x0 x1 x2
      have hl1 := blk_lt HEi.out
      obtain ⟨A0, c0, rfl⟩ := own_slice HO.out
      have e2 : wr.cell? ⟨W.heap.size + 1 + 1, 2, none⟩ = some (.slice A0 i c0) := blk_cell HEi.out 2
      have HEa := Aside0.mk (blk_alloc HEi.out (.cells #[.string ⟨#[]⟩, .string z.f1, .string z.f2] 60))
      have HOa := Aside0.mk (own_alloc HO.out (.cells #[.string ⟨#[]⟩, .string z.f1, .string z.f2] 60))
      have HBa := Aside0.mk (below_alloc HB.out (.cells #[.string ⟨#[]⟩, .string z.f1, .string z.f2] 60))
      clear hr hz hz0
      go_wp2_with (at_builtin; refine print_append_cells (w0 := W) W.heap.size rfl (.tmp 27) (.tmp 36) 78 82 (.agg #[.string ⟨#[]⟩, .string ⟨#[]⟩, .string ⟨#[]⟩]) 3 48 rfl Tryz.underlying78 (by kernel_rfl) rfl (by decide) (by decide) (.slice A0 i c0) i (acells ((pairsOf ats).take i)) [.string ⟨#[]⟩, .string z.f1, .string z.f2] rfl (by simp [Act.eval, Act.put]) rfl (by intro u hu; simp at hu; rcases hu with rfl | rfl | rfl <;> rfl) HOa.out HBa.out (by simp; omega) (by omega) ?_; intro v1 w1 hown hbel hgr hat; obtain ⟨A1, c1, rfl⟩ := own_slice hown; have hne := row_ne HOa.out HEa.out (by decide); have hblk := (Only.grown hgr).blk HEa.out (fun e => hne _ e rfl); have HO1 := Aside0.mk hown; have HB1 := Aside0.mk hbel; have HE1 := Aside0.mk hblk; have hc1 := blk_cell hblk 2; have hf1 := blk_frozen hblk 2; simp at hc1; clear hown hbel hgr hat hblk hne)
      go_roundw
      case rel =>
        go_light
        refine ⟨i + 1, .slice A1 (i + 1) c1, by go_num, by omega, ⟨by have := blk_set HE1.out 2 (.slice A1 (i + 1) c1); simpa using this⟩, ⟨?_⟩, ⟨HB1.out.setCell (p := ⟨W.heap.size + 1 + 1, 2, none⟩) (by simp; omega) _⟩⟩
        have hap : acells ((pairsOf ats).take (i + 1)) = acells ((pairsOf ats).take i) ++ [.string ⟨#[]⟩, .string z.f1, .string z.f2] := by
          have hl : i < (pairsOf ats).length := by simp [pairsOf]; exact hlt
          have hz2 : (pairsOf ats)[i] = (z.f1, z.f2) := by
            have h3 : ats[i] = z := (List.getElem?_eq_some_iff.1 HZ.out).2
            simp [pairsOf, h3]
          rw [List.take_succ_eq_append_getElem hl, hz2]
          unfold acells
          rw [List.flatMap_append]
          rfl
        rw [hap]
        exact own_setCell HO1.out (fun e => row_ne HO1.out HE1.out (by decide) _ e.symm rfl) _
      case measure =>
        go_light
        simp [RowKit.intOf]
        omega
    · obtain rfl : i = ats.length := by omega
      obtain ⟨A0, c0, rfl⟩ := own_slice HO.out
      have hc0 := own_le HO.out
      have e0 : wr.cell? ⟨W.heap.size + 1 + 1, 0, none⟩ = some (.string ⟨#[]⟩) := blk_cell HEi.out 0
      have e1 : wr.cell? ⟨W.heap.size + 1 + 1, 1, none⟩ = some (.string nm) := blk_cell HEi.out 1
      have e2 : wr.cell? ⟨W.heap.size + 1 + 1, 2, none⟩ = some (.slice A0 ats.length c0) := blk_cell HEi.out 2
      go_wp2_with fail
      go_ret2
      refine ⟨A0, c0, rfl, HB.out, hc0, fun h0 => ?_⟩
      obtain ⟨x, c', hx, _, hcell⟩ := own_form HO.out h0
      injection hx with hx1 hx2 hx3
      refine ⟨x, hx1, own_base HO.out x (by rw [hx1]; rfl), own_lt HO.out x (by rw [hx1]; rfl), fun j p hj => ?_⟩
      have ht : (pairsOf ats).take ats.length = pairsOf ats := List.take_of_length_le (by simp [pairsOf])
      rw [ht] at hcell
      obtain ⟨g1, g2, g3⟩ := acells_get (pairsOf ats) j p hj
      exact ⟨hcell _ _ g1, hcell _ _ g2, hcell _ _ g3⟩

end Go.Proofs.YtjoahpmalhmjkaaGreatDoor.EncSt
