/- What is proved here: the call of the reference's Declared hands back a text, three values and a bool; where the bool is true they are those that the rounds below tell. Conditions: at most 100 names, each value of at most 2^31 - 1 bytes. -/
import Derived.Test.YtfcefkenpndblaaPFnParamx
import Derived.RegionTactic
namespace Go.Proofs.Ytfcefkenpndblaa.ParA
open Go.RowKit Go.Proofs.YtfcefkenpndblaaW.PrintWords Go.Proofs.YtfcefkenpndblaaW.PrintLast Go.Proofs.YtfcefkenpndblaaW.PrintMore Go.Proofs.Ytfcefkenpndblaa.PFnParam
set_option linter.unusedVariables false
set_option linter.unusedSimpArgs false

/-- What Declared holds after some rounds: the text, the three values, which names were seen. -/
structure St where
  s : ByteArray
  f0 : ByteArray
  f1 : ByteArray
  f2 : ByteArray
  z0 : Bool
  z1 : Bool
  z2 : Bool

def nameOf : Nat → ByteArray
  | 0 => ⟨#[118, 101, 114, 115, 105, 111, 110]⟩
  | 1 => ⟨#[101, 110, 99, 111, 100, 105, 110, 103]⟩
  | _ => ⟨#[115, 116, 97, 110, 100, 97, 108, 111, 110, 101]⟩
def placeOf (n : Int) : Nat := (Int.tmod (wrap64 (Int.tmod n 3 + 3)) 3).toNat
def quoteOf (i : Nat) : ByteArray := if i % 2 = 0 then ⟨#[34]⟩ else ⟨#[39]⟩
def pairOf (i p : Nat) (v : ByteArray) : ByteArray := nameOf p ++ ⟨#[61]⟩ ++ quoteOf i ++ v ++ quoteOf i

def St.text (t : St) (i p : Nat) (v : ByteArray) : ByteArray := (if i = 0 then t.s else t.s ++ ⟨#[32]⟩) ++ pairOf i p v
def St.step (t : St) (i p : Nat) (v : ByteArray) : St :=
  match p with
  | 0 => { t with s := t.text i p v, f0 := if t.z0 then t.f0 else v, z0 := true }
  | 1 => { t with s := t.text i p v, f1 := if t.z1 then t.f1 else v, z1 := true }
  | _ => { t with s := t.text i p v, f2 := if t.z2 then t.f2 else v, z2 := true }

def run (ns : List Int) (vs : List ByteArray) : Nat → St
  | 0 => ⟨⟨#[]⟩, ⟨#[]⟩, ⟨#[]⟩, ⟨#[]⟩, false, false, false⟩
  | k + 1 => (run ns vs k).step k (placeOf (rd ns (k : Int))) (rdOf ByteArray.empty vs (k : Int))

def cells3 (a b c : ByteArray) : Array Value := #[.string a, .string b, .string c]
def bools3 (a b c : Bool) : Array Value := #[.bool a, .bool b, .bool c]

def Inv (w : World) (t : St) (W : World) : Prop :=
  Below w.heap.size w W ∧ W.heap[w.heap.size]? = some (.cells (cells3 t.f0 t.f1 t.f2) 27 (0, 0)) ∧ W.heap[w.heap.size + 1]? = some (.cells (bools3 t.z0 t.z1 t.z2) 36 (0, 0)) ∧ w.heap.size + 1 < W.heap.size

theorem heap_alloc_at (w : World) (o : Obj) (n : Nat) (h : n = w.heap.size) : (w.alloc o).heap[n]? = some o := by
  subst h
  exact heap_alloc_new w o

theorem Inv.start (w : World) (ns : List Int) (vs : List ByteArray) : Inv w (run ns vs 0) ((w.alloc (.cells #[.string ⟨#[]⟩, .string ⟨#[]⟩, .string ⟨#[]⟩] 27)).alloc (.cells #[.bool false, .bool false, .bool false] 36)) := by
  refine ⟨((Below.refl _ _).alloc (Nat.le_refl _) _).alloc (by simp) _, ?_, ?_, by simp⟩
  · rw [show ((w.alloc (.cells #[.string ⟨#[]⟩, .string ⟨#[]⟩, .string ⟨#[]⟩] 27)).alloc (.cells #[.bool false, .bool false, .bool false] 36)).heap[w.heap.size]? = (w.alloc (.cells #[.string ⟨#[]⟩, .string ⟨#[]⟩, .string ⟨#[]⟩] 27)).heap[w.heap.size]? from (blk_below (heap_alloc_at _ _ _ rfl) (below_alloc (Below.refl _ _) _)).trans (heap_alloc_at _ _ _ rfl).symm]
    exact heap_alloc_at _ _ _ rfl
  · exact heap_alloc_at _ _ _ (by simp)

def good (c : Int) : Prop := c < 128 ∧ c ≠ 95 ∧ c ≠ 58 ∧ spec_continues.f c = some true
def goodText (v : ByteArray) : Prop := ∀ t : Nat, t < v.size → good (bt v (t : Int))
def goods (ns : List Int) (vs : List ByteArray) (k : Nat) : Prop := k ≤ vs.length ∧ ∀ i : Nat, i < k → goodText (rdOf ByteArray.empty vs (i : Int))

/-- What Declared hands back: where it says true, what the rounds tell. -/
def Post (w : World) (ns : List Int) (vs : List ByteArray) (e : Ending) (W : World) : Prop :=
  ∃ (S a b c : ByteArray) (ok : Bool), e = .returned (.tuple #[.string S, .agg #[.string a, .string b, .string c], .bool ok]) ∧ Below w.heap.size w W ∧
    (ok = true → goods ns vs ns.length ∧ S = (run ns vs ns.length).s ∧ a = (run ns vs ns.length).f0 ∧ b = (run ns vs ns.length).f1 ∧ c = (run ns vs ns.length).f2)

theorem three {W : World} {g : Nat} {a b c : ByteArray} (h : W.heap[g]? = some (.cells #[.string a, .string b, .string c] 27 (0, 0))) :
    ((((W.setCell ⟨g, 0, none⟩ (.string a)).setCell ⟨g, 1, none⟩ (.string b)).setCell ⟨g, 2, none⟩ (.string c)).drew).heap[g]? = some (.cells #[.string a, .string b, .string c] 27 (0, 0)) := by
  have h1 := blk_set (blk_set (blk_set h 0 (.string a)) 1 (.string b)) 2 (.string c)
  exact h1

theorem three_below {w W : World} {g : Nat} {a b c : Value} (h : Below w.heap.size w W) (hg : w.heap.size ≤ g) :
    Below w.heap.size w ((((W.setCell ⟨g, 0, none⟩ a).setCell ⟨g, 1, none⟩ b).setCell ⟨g, 2, none⟩ c).drew) :=
  below_drew (((h.setCell hg _).setCell hg _).setCell hg _)

theorem begins_some (c : Int) : ∃ b, spec_begins.f c = some b := by
  unfold spec_begins.f
  repeat' split
  all_goals exact ⟨_, rfl⟩

theorem continues_some (c : Int) : ∃ b, spec_continues.f c = some b := by
  obtain ⟨b, hb⟩ := begins_some c
  unfold spec_continues.f
  rw [hb]
  simp only [Option.bind_some]
  repeat' split
  all_goals exact ⟨_, rfl⟩

section
variable {w W : World} {t : St}
theorem Inv.c0 (h : Inv w t W) : W.cell? ⟨w.heap.size, 0, none⟩ = some (.string t.f0) := by rw [blk_cell h.2.1]; rfl
theorem Inv.c1 (h : Inv w t W) : W.cell? ⟨w.heap.size, 1, none⟩ = some (.string t.f1) := by rw [blk_cell h.2.1]; rfl
theorem Inv.c2 (h : Inv w t W) : W.cell? ⟨w.heap.size, 2, none⟩ = some (.string t.f2) := by rw [blk_cell h.2.1]; rfl
theorem Inv.e0 (h : Inv w t W) : W.cell? ⟨w.heap.size + 1, 0, none⟩ = some (.bool t.z0) := by rw [blk_cell h.2.2.1]; rfl
theorem Inv.e1 (h : Inv w t W) : W.cell? ⟨w.heap.size + 1, 1, none⟩ = some (.bool t.z1) := by rw [blk_cell h.2.2.1]; rfl
theorem Inv.e2 (h : Inv w t W) : W.cell? ⟨w.heap.size + 1, 2, none⟩ = some (.bool t.z2) := by rw [blk_cell h.2.2.1]; rfl
theorem Inv.fr (h : Inv w t W) (i : Nat) : W.frozen? ⟨w.heap.size, i, none⟩ = false := blk_frozen h.2.1 i
theorem Inv.fr1 (h : Inv w t W) (i : Nat) : W.frozen? ⟨w.heap.size + 1, i, none⟩ = false := blk_frozen h.2.2.1 i
theorem Inv.row (h : Inv w t W) : W.heap[w.heap.size]? = some (.cells #[.string t.f0, .string t.f1, .string t.f2] 27 (0, 0)) := h.2.1
theorem Inv.below {W' : World} (h : Inv w t W) (hb : Below W.heap.size W W') : Inv w t W' :=
  ⟨below_step h.1 hb, blk_below h.2.1 hb, blk_below h.2.2.1 hb, Nat.lt_of_lt_of_le h.2.2.2 hb.size⟩
theorem Inv.drawn {W' : World} (h : Inv w t W) (hd : Drawn0 W W') : Inv w t W' := h.below hd.below
end

/-- The round's end: nothing new was seen. -/
theorem Inv.same {w W : World} {t t' : St} (h : Inv w t W) (h0 : t'.f0 = t.f0) (h1 : t'.f1 = t.f1) (h2 : t'.f2 = t.f2) (k0 : t'.z0 = t.z0) (k1 : t'.z1 = t.z1) (k2 : t'.z2 = t.z2) : Inv w t' W := by
  obtain ⟨a, b, c, d⟩ := h
  exact ⟨a, by rw [h0, h1, h2]; exact b, by rw [k0, k1, k2]; exact c, d⟩

theorem Inv.put {w W : World} {t t' : St} (h : Inv w t W) (p : Nat) (v : ByteArray)
    (hf : (cells3 t.f0 t.f1 t.f2).setIfInBounds p (.string v) = cells3 t'.f0 t'.f1 t'.f2) (hz : (bools3 t.z0 t.z1 t.z2).setIfInBounds p (.bool true) = bools3 t'.z0 t'.z1 t'.z2) :
    Inv w t' ((W.setCell ⟨w.heap.size + 1, p, none⟩ (.bool true)).setCell ⟨w.heap.size, p, none⟩ (.string v)) := by
  obtain ⟨a, b, c, d⟩ := h
  refine ⟨(a.setCell (by simp) _).setCell (by simp) _, ?_, ?_, by simpa using d⟩
  · rw [← hf]
    exact blk_set (blk_far b (by simp) _) p _
  · rw [← hz]
    exact blk_far (blk_set c p _) (by simp) _

theorem nameOf_size (p : Nat) : (nameOf p).size ≤ 10 := by
  unfold nameOf
  split <;> simp [ByteArray.size]

theorem quoteOf_size (i : Nat) : (quoteOf i).size = 1 := by
  unfold quoteOf
  split <;> rfl

theorem text_size (t : St) (i p : Nat) (v : ByteArray) : (t.text i p v).size ≤ t.s.size + v.size + 14 := by
  have h1 := nameOf_size p
  have h2 := quoteOf_size i
  unfold St.text pairOf
  simp only [ByteArray.size_append, h2]
  split
  · rw [show (⟨#[61]⟩ : ByteArray).size = 1 from rfl]
    omega
  · simp only [ByteArray.size_append]
    rw [show (⟨#[61]⟩ : ByteArray).size = 1 from rfl, show (⟨#[32]⟩ : ByteArray).size = 1 from rfl]
    omega

theorem step_s (t : St) (i p : Nat) (v : ByteArray) : (t.step i p v).s = t.text i p v := by
  unfold St.step
  split <;> rfl

theorem run_size (ns : List Int) (vs : List ByteArray) (h : ∀ v ∈ vs, v.size ≤ 2147483647) (k : Nat) : (run ns vs k).s.size ≤ k * 2147483700 := by
  induction k with
  | zero => exact Nat.le_refl _
  | succ k ih =>
    have hv : (rdOf ByteArray.empty vs (k : Int)).size ≤ 2147483647 := by
      unfold rdOf
      rw [Int.toNat_natCast, List.getD_eq_getElem?_getD]
      rcases Nat.lt_or_ge k vs.length with hk | hk
      · rw [List.getElem?_eq_getElem hk]
        exact h _ (List.getElem_mem _)
      · rw [List.getElem?_eq_none hk]
        exact Nat.zero_le _
    have := text_size (run ns vs k) k (placeOf (rd ns (k : Int))) (rdOf ByteArray.empty vs (k : Int))
    rw [run, step_s]
    omega

theorem tmod3 (n : Int) : n.tmod 3 = -2 ∨ n.tmod 3 = -1 ∨ n.tmod 3 = 0 ∨ n.tmod 3 = 1 ∨ n.tmod 3 = 2 := by
  rcases Int.lt_or_le n 0 with h | h
  · have e : n.tmod 3 = -((-n) % 3) := by
      rw [← Int.tmod_eq_emod_of_nonneg (by omega), Int.neg_tmod, Int.neg_neg]
    rw [e]
    omega
  · rw [Int.tmod_eq_emod_of_nonneg h]
    omega

theorem place_lt (n : Int) : (wrap64 (n.tmod 3 + 3)).tmod 3 = 0 ∨ (wrap64 (n.tmod 3 + 3)).tmod 3 = 1 ∨ (wrap64 (n.tmod 3 + 3)).tmod 3 = 2 := by
  have e : wrap64 (n.tmod 3 + 3) = n.tmod 3 + 3 := by
    have := tmod3 n
    unfold wrap64
    omega
  rw [e]
  rcases tmod3 n with h | h | h | h | h <;> rw [h] <;> decide

theorem pseudo_is (n : Int) (p : Nat) (hp : p < 3) (h : (wrap64 (n.tmod 3 + 3)).tmod 3 = (p : Int)) : placeOf n = p ∧ spec_pseudo.f n = some (nameOf p) := by
  refine ⟨by unfold placeOf; rw [h]; rfl, ?_⟩
  unfold spec_pseudo.f
  simp only [Option.bind_some]
  rw [h, if_pos (by omega), if_pos (by simp; omega)]
  obtain rfl | rfl | rfl : p = 0 ∨ p = 1 ∨ p = 2 := by omega
  all_goals rfl

section
variable {w W : World} {T : St}
theorem Inv.put0 (h : Inv w T W) (k : Nat) (v : ByteArray) (hz : T.z0 = false) : Inv w (T.step k 0 v) ((W.setCell ⟨w.heap.size + 1, 0, none⟩ (.bool true)).setCell ⟨w.heap.size, 0, none⟩ (.string v)) :=
  h.put 0 v (by simp [St.step, hz, cells3]) (by simp [St.step, bools3])
theorem Inv.put1 (h : Inv w T W) (k : Nat) (v : ByteArray) (hz : T.z1 = false) : Inv w (T.step k 1 v) ((W.setCell ⟨w.heap.size + 1, 1, none⟩ (.bool true)).setCell ⟨w.heap.size, 1, none⟩ (.string v)) :=
  h.put 1 v (by simp [St.step, hz, cells3]) (by simp [St.step, bools3])
theorem Inv.put2 (h : Inv w T W) (k : Nat) (v : ByteArray) (hz : T.z2 = false) : Inv w (T.step k 2 v) ((W.setCell ⟨w.heap.size + 1, 2, none⟩ (.bool true)).setCell ⟨w.heap.size, 2, none⟩ (.string v)) :=
  h.put 2 v (by simp [St.step, hz, cells3]) (by simp [St.step, bools3])
theorem Inv.same0 (h : Inv w T W) (k : Nat) (v : ByteArray) (hz : T.z0 = true) : Inv w (T.step k 0 v) W := h.same (by simp [St.step, hz]) rfl rfl (by simp [St.step, hz]) rfl rfl
theorem Inv.same1 (h : Inv w T W) (k : Nat) (v : ByteArray) (hz : T.z1 = true) : Inv w (T.step k 1 v) W := h.same rfl (by simp [St.step, hz]) rfl rfl (by simp [St.step, hz]) rfl
theorem Inv.same2 (h : Inv w T W) (k : Nat) (v : ByteArray) (hz : T.z2 = true) : Inv w (T.step k 2 v) W := h.same rfl rfl (by simp [St.step, hz]) rfl rfl (by simp [St.step, hz])
end

set_option maxHeartbeats 16000000 in
set_option maxRecDepth 100000 in
theorem decl_any (A0 A1 : Option Addr) (c0 c1 : Nat) (ns : List Int) (vs : List ByteArray) (w : World)
    (hn : Kd.C (Kd.int .i64) w A0 ns.length ns) (hv : Kd.C Kd.string w A1 vs.length vs) (hsz : ∀ v ∈ vs, v.size ≤ 2147483647) (h100 : ns.length ≤ 100) :
    Calls Try.prog 12 #[.slice A0 ns.length c0, .slice A1 vs.length c1] w (Post w ns vs) := by
  have HN := Aside0.mk hn
  have HV := Aside0.mk hv
  have HSZ := Aside0.mk hsz
  clear hn hv hsz
  go_enter Try.func12, Try.ntmps12
  go_wp2_with fail
  go_loopw [4, 17] (fun v4 v17 W => ∃ k : Nat, v17 = .int .i64 k ∧ v4 = .string (run ns vs k).s ∧ Aside0 (k ≤ ns.length ∧ goods ns vs k) ∧ Aside0 (Inv w (run ns vs k) W)) (fun _ v17 _ => ns.length - (intOf v17).toNat)
  case atStart => exact ⟨0, rfl, rfl, ⟨Nat.zero_le _, Nat.zero_le _, fun i hi => absurd hi (by omega)⟩, ⟨Inv.start w ns vs⟩⟩
  case round =>
    obtain ⟨k, rfl, rfl, HK, HI⟩ := hrel
    have hlen := HN.out.2.1
    have hlen1 := HV.out.2.1
    by_cases hk : k < ns.length
    · obtain ⟨ad0, rfl, hx0⟩ := Kd.at_int (Kd.C_below HN.out HI.out.1) (k : Int) (by omega) (by omega)
      rw [Int.toNat_natCast] at hx0
      have HR := Aside0.mk (show run ns vs (k + 1) = (run ns vs k).step k (placeOf (rd ns (k : Int))) (rdOf ByteArray.empty vs (k : Int)) from rfl)
      have hts : (run ns vs k).s.size ≤ 300000000000 := Nat.le_trans (run_size ns vs HSZ.out k) (by omega)
      generalize rd ns (k : Int) = n at *
      generalize hT : run ns vs k = T at *
      have HT := Aside0.mk hT
      clear hT
      by_cases hkv : k < vs.length
      · obtain ⟨ad1, rfl, hx1⟩ := Kd.at_string (Kd.C_below HV.out HI.out.1) (k : Int) (by omega) (by omega)
        rw [Int.toNat_natCast] at hx1
        have hvl : (rdOf ByteArray.empty vs (k : Int)).size ≤ 2147483647 := HSZ.out _ (by unfold rdOf; rw [Int.toNat_natCast, List.getD_eq_getElem?_getD, List.getElem?_eq_getElem hkv]; exact List.getElem_mem _)
        generalize hV : rdOf ByteArray.empty vs (k : Int) = v at *
        have HVV := Aside0.mk hV
        clear hV
        have hkb : decide (vs.length ≤ k) = false := decide_eq_false (by omega)
        go_wp2_with fail
        obtain ⟨wo, rfl⟩ : ∃ wo : World, wo = wr := ⟨_, rfl⟩
        clear hx0 hx1
        go_loopw [4, 33] (fun v4 v33 W => ∃ j : Nat, v33 = .int .i64 j ∧ v4 = .string T.s ∧ Aside0 (j ≤ v.size ∧ ∀ t : Nat, t < j → good (bt v t)) ∧ Aside0 (Inv w T W)) (fun _ v33 _ => v.size - (intOf v33).toNat)
        case atStart => exact ⟨0, rfl, rfl, ⟨Nat.zero_le _, fun t ht => absurd ht (by omega)⟩, HI⟩
        case round =>
          clear HI
          obtain ⟨j, rfl, rfl, HJ, HI⟩ := hrel
          by_cases hj : j < v.size
          · have hx := bt_at v (j : Int)
            rw [Int.toNat_natCast] at hx
            have hr := bt_range v (j : Int)
            generalize hc : bt v (j : Int) = c at *
            have HC := Aside0.mk hc
            clear hc
            obtain ⟨r0, r1⟩ := hr
            by_cases g1 : c < 128
            · have b1 : decide ((128 : Int) ≤ c) = false := decide_eq_false (by omega)
              by_cases g2 : c = 95
              · have b2 : (c == 95) = true := beq_iff_eq.2 g2
                clear g2
                have hc0 := HI.out.c0
                have hc1 := HI.out.c1
                have hc2 := HI.out.c2
                have hf := HI.out.fr
                go_wp2_with fail
                go_region
                go_wp2_with fail
                have h3 := three HI.out.row
                have d0 := (blk_cell h3 0).trans rfl
                have d1 := (blk_cell h3 1).trans rfl
                have d2 := (blk_cell h3 2).trans rfl
                refine bodyPost_ret (v := .tuple #[.string ⟨#[]⟩, .agg #[.string T.f0, .string T.f1, .string T.f2], .bool false]) ?_ rfl ⟨_, _, _, _, _, rfl, three_below HI.out.1 (Nat.le_refl _), fun h => by cases h⟩
                simp [results, Try.results12, go_sem, d0, d1, d2]
              · have b2 : (c == 95) = false := beq_eq_false_iff_ne.2 g2
                by_cases g3 : c = 58
                · have b3 : (c == 58) = true := beq_iff_eq.2 g3
                  clear g3
                  have hc0 := HI.out.c0
                  have hc1 := HI.out.c1
                  have hc2 := HI.out.c2
                  have hf := HI.out.fr
                  go_wp2_with fail
                  go_region
                  go_wp2_with fail
                  have h3 := three HI.out.row
                  have d0 := (blk_cell h3 0).trans rfl
                  have d1 := (blk_cell h3 1).trans rfl
                  have d2 := (blk_cell h3 2).trans rfl
                  refine bodyPost_ret (v := .tuple #[.string ⟨#[]⟩, .agg #[.string T.f0, .string T.f1, .string T.f2], .bool false]) ?_ rfl ⟨_, _, _, _, _, rfl, three_below HI.out.1 (Nat.le_refl _), fun h => by cases h⟩
                  simp [results, Try.results12, go_sem, d0, d1, d2]
                · have b3 : (c == 58) = false := beq_eq_false_iff_ne.2 g3
                  obtain ⟨b, hb⟩ := continues_some c
                  have HF := Aside0.mk hb
                  clear hb
                  cases b with
                  | false =>
                    go_wp2_with fail
                    refine (spec_continues.calls c false _ HF.out).mono ?_
                    rintro e w2 ⟨rfl, hd⟩
                    have HI2 := Aside0.mk (HI.out.drawn hd)
                    clear HI
                    have HI := HI2
                    clear HI2 hd
                    have hc0 := HI.out.c0
                    have hc1 := HI.out.c1
                    have hc2 := HI.out.c2
                    have hf := HI.out.fr
                    go_wp2_with fail
                    go_region
                    go_wp2_with fail
                    have h3 := three HI.out.row
                    have d0 := (blk_cell h3 0).trans rfl
                    have d1 := (blk_cell h3 1).trans rfl
                    have d2 := (blk_cell h3 2).trans rfl
                    refine bodyPost_ret (v := .tuple #[.string ⟨#[]⟩, .agg #[.string T.f0, .string T.f1, .string T.f2], .bool false]) ?_ rfl ⟨_, _, _, _, _, rfl, three_below HI.out.1 (Nat.le_refl _), fun h => by cases h⟩
                    simp [results, Try.results12, go_sem, d0, d1, d2]
                  | true =>
                    have HJ2 := Aside0.mk (show j + 1 ≤ v.size ∧ ∀ t : Nat, t < j + 1 → good (bt v t) from ⟨by omega, fun t ht => by
                      rcases Nat.lt_or_ge t j with h | h
                      · exact HJ.out.2 t h
                      · obtain rfl : t = j := by omega
                        rw [HC.out]
                        exact ⟨g1, g2, g3, HF.out⟩⟩)
                    go_wp2_with fail
                    refine (spec_continues.calls c true _ HF.out).mono ?_
                    rintro e w2 ⟨rfl, hd⟩
                    have HI2 := Aside0.mk (HI.out.drawn hd)
                    clear hd HI
                    go_wp2_with fail
                    go_roundw
                    case rel => exact ⟨j + 1, by go_num, rfl, HJ2, HI2⟩
                    case measure => simp [intOf]; omega
            · have b1 : decide ((128 : Int) ≤ c) = true := decide_eq_true (by omega)
              have hc0 := HI.out.c0
              have hc1 := HI.out.c1
              have hc2 := HI.out.c2
              have hf := HI.out.fr
              go_wp2_with fail
              go_region
              go_wp2_with fail
              have h3 := three HI.out.row
              have d0 := (blk_cell h3 0).trans rfl
              have d1 := (blk_cell h3 1).trans rfl
              have d2 := (blk_cell h3 2).trans rfl
              refine bodyPost_ret (v := .tuple #[.string ⟨#[]⟩, .agg #[.string T.f0, .string T.f1, .string T.f2], .bool false]) ?_ rfl ⟨_, _, _, _, _, rfl, three_below HI.out.1 (Nat.le_refl _), fun h => by cases h⟩
              simp [results, Try.results12, go_sem, d0, d1, d2]
          · have hje : j = v.size := by have := HJ.out.1; omega
            subst hje
            clear hj
            have HG := Aside0.mk (show k + 1 ≤ ns.length ∧ goods ns vs (k + 1) from ⟨by omega, by omega, fun i hi => by
              rcases Nat.lt_or_ge i k with h | h
              · exact HK.out.2.2 i h
              · obtain rfl : i = k := by omega
                rw [HVV.out]
                exact fun t ht => HJ.out.2 t ht⟩)
            rcases place_lt n with hp | hp | hp
            · obtain ⟨hpl, hps⟩ := pseudo_is n 0 (by omega) hp
              rw [hpl] at HR
              have HPS := Aside0.mk hps
              clear hpl hps
              have hns := nameOf_size 0
              rcases (show (k ≤ 0 ∧ (k : Int) % 2 = 0) ∨ (0 < k ∧ (k : Int) % 2 = 0) ∨ (0 < k ∧ (k : Int) % 2 = 1) by omega) with ⟨p0, p1⟩ | ⟨p0, p1⟩ | ⟨p0, p1⟩
              · have HTX := Aside0.mk (show (T.step k 0 v).s = T.s ++ (nameOf 0 ++ ⟨#[61]⟩ ++ ⟨#[34]⟩ ++ v ++ ⟨#[34]⟩) by rw [step_s]; unfold St.text pairOf quoteOf; rw [if_pos (by omega), if_pos (by omega)])
                rw [← HR.out] at HTX
                go_wp2_with fail
                refine (spec_pseudo.calls n (nameOf 0) _ HPS.out).mono ?_
                rintro e w1 ⟨rfl, hb1⟩
                have HI1 := Aside0.mk ((HI.out.below (below_alloc (Below.refl _ _) _)).below hb1)
                clear hb1 HI
                have ha := HI1.out.e0
                have hb := HI1.out.c0
                have hf := HI1.out.fr
                have hf1 := HI1.out.fr1
                cases hz : T.z0
                · rw [hz] at ha
                  have HIV := Aside0.mk (HI1.out.put0 k v hz)
                  rw [← HR.out] at HIV
                  clear hz
                  go_wp2_with fail
                  go_roundw
                  case rel => exact ⟨k + 1, by go_num, by rw [HTX.out], HG, HIV⟩
                  case measure => simp [intOf]; omega
                · rw [hz] at ha
                  have HIV := Aside0.mk (HI1.out.same0 k v hz)
                  rw [← HR.out] at HIV
                  clear hz
                  go_wp2_with fail
                  go_roundw
                  case rel => exact ⟨k + 1, by go_num, by rw [HTX.out], HG, HIV⟩
                  case measure => simp [intOf]; omega
              · have HTX := Aside0.mk (show (T.step k 0 v).s = (T.s ++ ⟨#[32]⟩) ++ (nameOf 0 ++ ⟨#[61]⟩ ++ ⟨#[34]⟩ ++ v ++ ⟨#[34]⟩) by rw [step_s]; unfold St.text pairOf quoteOf; rw [if_neg (by omega), if_pos (by omega)])
                rw [← HR.out] at HTX
                go_wp2_with fail
                refine (spec_pseudo.calls n (nameOf 0) _ HPS.out).mono ?_
                rintro e w1 ⟨rfl, hb1⟩
                have HI1 := Aside0.mk ((HI.out.below (below_alloc (Below.refl _ _) _)).below hb1)
                clear hb1 HI
                have ha := HI1.out.e0
                have hb := HI1.out.c0
                have hf := HI1.out.fr
                have hf1 := HI1.out.fr1
                cases hz : T.z0
                · rw [hz] at ha
                  have HIV := Aside0.mk (HI1.out.put0 k v hz)
                  rw [← HR.out] at HIV
                  clear hz
                  go_wp2_with fail
                  go_roundw
                  case rel => exact ⟨k + 1, by go_num, by rw [HTX.out], HG, HIV⟩
                  case measure => simp [intOf]; omega
                · rw [hz] at ha
                  have HIV := Aside0.mk (HI1.out.same0 k v hz)
                  rw [← HR.out] at HIV
                  clear hz
                  go_wp2_with fail
                  go_roundw
                  case rel => exact ⟨k + 1, by go_num, by rw [HTX.out], HG, HIV⟩
                  case measure => simp [intOf]; omega
              · have HTX := Aside0.mk (show (T.step k 0 v).s = (T.s ++ ⟨#[32]⟩) ++ (nameOf 0 ++ ⟨#[61]⟩ ++ ⟨#[39]⟩ ++ v ++ ⟨#[39]⟩) by rw [step_s]; unfold St.text pairOf quoteOf; rw [if_neg (by omega), if_neg (by omega)])
                rw [← HR.out] at HTX
                go_wp2_with fail
                refine (spec_pseudo.calls n (nameOf 0) _ HPS.out).mono ?_
                rintro e w1 ⟨rfl, hb1⟩
                have HI1 := Aside0.mk ((HI.out.below (below_alloc (Below.refl _ _) _)).below hb1)
                clear hb1 HI
                have ha := HI1.out.e0
                have hb := HI1.out.c0
                have hf := HI1.out.fr
                have hf1 := HI1.out.fr1
                cases hz : T.z0
                · rw [hz] at ha
                  have HIV := Aside0.mk (HI1.out.put0 k v hz)
                  rw [← HR.out] at HIV
                  clear hz
                  go_wp2_with fail
                  go_roundw
                  case rel => exact ⟨k + 1, by go_num, by rw [HTX.out], HG, HIV⟩
                  case measure => simp [intOf]; omega
                · rw [hz] at ha
                  have HIV := Aside0.mk (HI1.out.same0 k v hz)
                  rw [← HR.out] at HIV
                  clear hz
                  go_wp2_with fail
                  go_roundw
                  case rel => exact ⟨k + 1, by go_num, by rw [HTX.out], HG, HIV⟩
                  case measure => simp [intOf]; omega
            · obtain ⟨hpl, hps⟩ := pseudo_is n 1 (by omega) hp
              rw [hpl] at HR
              have HPS := Aside0.mk hps
              clear hpl hps
              have hns := nameOf_size 1
              rcases (show (k ≤ 0 ∧ (k : Int) % 2 = 0) ∨ (0 < k ∧ (k : Int) % 2 = 0) ∨ (0 < k ∧ (k : Int) % 2 = 1) by omega) with ⟨p0, p1⟩ | ⟨p0, p1⟩ | ⟨p0, p1⟩
              · have HTX := Aside0.mk (show (T.step k 1 v).s = T.s ++ (nameOf 1 ++ ⟨#[61]⟩ ++ ⟨#[34]⟩ ++ v ++ ⟨#[34]⟩) by rw [step_s]; unfold St.text pairOf quoteOf; rw [if_pos (by omega), if_pos (by omega)])
                rw [← HR.out] at HTX
                go_wp2_with fail
                refine (spec_pseudo.calls n (nameOf 1) _ HPS.out).mono ?_
                rintro e w1 ⟨rfl, hb1⟩
                have HI1 := Aside0.mk ((HI.out.below (below_alloc (Below.refl _ _) _)).below hb1)
                clear hb1 HI
                have ha := HI1.out.e1
                have hb := HI1.out.c1
                have hf := HI1.out.fr
                have hf1 := HI1.out.fr1
                cases hz : T.z1
                · rw [hz] at ha
                  have HIV := Aside0.mk (HI1.out.put1 k v hz)
                  rw [← HR.out] at HIV
                  clear hz
                  go_wp2_with fail
                  go_roundw
                  case rel => exact ⟨k + 1, by go_num, by rw [HTX.out], HG, HIV⟩
                  case measure => simp [intOf]; omega
                · rw [hz] at ha
                  have HIV := Aside0.mk (HI1.out.same1 k v hz)
                  rw [← HR.out] at HIV
                  clear hz
                  go_wp2_with fail
                  go_roundw
                  case rel => exact ⟨k + 1, by go_num, by rw [HTX.out], HG, HIV⟩
                  case measure => simp [intOf]; omega
              · have HTX := Aside0.mk (show (T.step k 1 v).s = (T.s ++ ⟨#[32]⟩) ++ (nameOf 1 ++ ⟨#[61]⟩ ++ ⟨#[34]⟩ ++ v ++ ⟨#[34]⟩) by rw [step_s]; unfold St.text pairOf quoteOf; rw [if_neg (by omega), if_pos (by omega)])
                rw [← HR.out] at HTX
                go_wp2_with fail
                refine (spec_pseudo.calls n (nameOf 1) _ HPS.out).mono ?_
                rintro e w1 ⟨rfl, hb1⟩
                have HI1 := Aside0.mk ((HI.out.below (below_alloc (Below.refl _ _) _)).below hb1)
                clear hb1 HI
                have ha := HI1.out.e1
                have hb := HI1.out.c1
                have hf := HI1.out.fr
                have hf1 := HI1.out.fr1
                cases hz : T.z1
                · rw [hz] at ha
                  have HIV := Aside0.mk (HI1.out.put1 k v hz)
                  rw [← HR.out] at HIV
                  clear hz
                  go_wp2_with fail
                  go_roundw
                  case rel => exact ⟨k + 1, by go_num, by rw [HTX.out], HG, HIV⟩
                  case measure => simp [intOf]; omega
                · rw [hz] at ha
                  have HIV := Aside0.mk (HI1.out.same1 k v hz)
                  rw [← HR.out] at HIV
                  clear hz
                  go_wp2_with fail
                  go_roundw
                  case rel => exact ⟨k + 1, by go_num, by rw [HTX.out], HG, HIV⟩
                  case measure => simp [intOf]; omega
              · have HTX := Aside0.mk (show (T.step k 1 v).s = (T.s ++ ⟨#[32]⟩) ++ (nameOf 1 ++ ⟨#[61]⟩ ++ ⟨#[39]⟩ ++ v ++ ⟨#[39]⟩) by rw [step_s]; unfold St.text pairOf quoteOf; rw [if_neg (by omega), if_neg (by omega)])
                rw [← HR.out] at HTX
                go_wp2_with fail
                refine (spec_pseudo.calls n (nameOf 1) _ HPS.out).mono ?_
                rintro e w1 ⟨rfl, hb1⟩
                have HI1 := Aside0.mk ((HI.out.below (below_alloc (Below.refl _ _) _)).below hb1)
                clear hb1 HI
                have ha := HI1.out.e1
                have hb := HI1.out.c1
                have hf := HI1.out.fr
                have hf1 := HI1.out.fr1
                cases hz : T.z1
                · rw [hz] at ha
                  have HIV := Aside0.mk (HI1.out.put1 k v hz)
                  rw [← HR.out] at HIV
                  clear hz
                  go_wp2_with fail
                  go_roundw
                  case rel => exact ⟨k + 1, by go_num, by rw [HTX.out], HG, HIV⟩
                  case measure => simp [intOf]; omega
                · rw [hz] at ha
                  have HIV := Aside0.mk (HI1.out.same1 k v hz)
                  rw [← HR.out] at HIV
                  clear hz
                  go_wp2_with fail
                  go_roundw
                  case rel => exact ⟨k + 1, by go_num, by rw [HTX.out], HG, HIV⟩
                  case measure => simp [intOf]; omega
            · obtain ⟨hpl, hps⟩ := pseudo_is n 2 (by omega) hp
              rw [hpl] at HR
              have HPS := Aside0.mk hps
              clear hpl hps
              have hns := nameOf_size 2
              rcases (show (k ≤ 0 ∧ (k : Int) % 2 = 0) ∨ (0 < k ∧ (k : Int) % 2 = 0) ∨ (0 < k ∧ (k : Int) % 2 = 1) by omega) with ⟨p0, p1⟩ | ⟨p0, p1⟩ | ⟨p0, p1⟩
              · have HTX := Aside0.mk (show (T.step k 2 v).s = T.s ++ (nameOf 2 ++ ⟨#[61]⟩ ++ ⟨#[34]⟩ ++ v ++ ⟨#[34]⟩) by rw [step_s]; unfold St.text pairOf quoteOf; rw [if_pos (by omega), if_pos (by omega)])
                rw [← HR.out] at HTX
                go_wp2_with fail
                refine (spec_pseudo.calls n (nameOf 2) _ HPS.out).mono ?_
                rintro e w1 ⟨rfl, hb1⟩
                have HI1 := Aside0.mk ((HI.out.below (below_alloc (Below.refl _ _) _)).below hb1)
                clear hb1 HI
                have ha := HI1.out.e2
                have hb := HI1.out.c2
                have hf := HI1.out.fr
                have hf1 := HI1.out.fr1
                cases hz : T.z2
                · rw [hz] at ha
                  have HIV := Aside0.mk (HI1.out.put2 k v hz)
                  rw [← HR.out] at HIV
                  clear hz
                  go_wp2_with fail
                  go_roundw
                  case rel => exact ⟨k + 1, by go_num, by rw [HTX.out], HG, HIV⟩
                  case measure => simp [intOf]; omega
                · rw [hz] at ha
                  have HIV := Aside0.mk (HI1.out.same2 k v hz)
                  rw [← HR.out] at HIV
                  clear hz
                  go_wp2_with fail
                  go_roundw
                  case rel => exact ⟨k + 1, by go_num, by rw [HTX.out], HG, HIV⟩
                  case measure => simp [intOf]; omega
              · have HTX := Aside0.mk (show (T.step k 2 v).s = (T.s ++ ⟨#[32]⟩) ++ (nameOf 2 ++ ⟨#[61]⟩ ++ ⟨#[34]⟩ ++ v ++ ⟨#[34]⟩) by rw [step_s]; unfold St.text pairOf quoteOf; rw [if_neg (by omega), if_pos (by omega)])
                rw [← HR.out] at HTX
                go_wp2_with fail
                refine (spec_pseudo.calls n (nameOf 2) _ HPS.out).mono ?_
                rintro e w1 ⟨rfl, hb1⟩
                have HI1 := Aside0.mk ((HI.out.below (below_alloc (Below.refl _ _) _)).below hb1)
                clear hb1 HI
                have ha := HI1.out.e2
                have hb := HI1.out.c2
                have hf := HI1.out.fr
                have hf1 := HI1.out.fr1
                cases hz : T.z2
                · rw [hz] at ha
                  have HIV := Aside0.mk (HI1.out.put2 k v hz)
                  rw [← HR.out] at HIV
                  clear hz
                  go_wp2_with fail
                  go_roundw
                  case rel => exact ⟨k + 1, by go_num, by rw [HTX.out], HG, HIV⟩
                  case measure => simp [intOf]; omega
                · rw [hz] at ha
                  have HIV := Aside0.mk (HI1.out.same2 k v hz)
                  rw [← HR.out] at HIV
                  clear hz
                  go_wp2_with fail
                  go_roundw
                  case rel => exact ⟨k + 1, by go_num, by rw [HTX.out], HG, HIV⟩
                  case measure => simp [intOf]; omega
              · have HTX := Aside0.mk (show (T.step k 2 v).s = (T.s ++ ⟨#[32]⟩) ++ (nameOf 2 ++ ⟨#[61]⟩ ++ ⟨#[39]⟩ ++ v ++ ⟨#[39]⟩) by rw [step_s]; unfold St.text pairOf quoteOf; rw [if_neg (by omega), if_neg (by omega)])
                rw [← HR.out] at HTX
                go_wp2_with fail
                refine (spec_pseudo.calls n (nameOf 2) _ HPS.out).mono ?_
                rintro e w1 ⟨rfl, hb1⟩
                have HI1 := Aside0.mk ((HI.out.below (below_alloc (Below.refl _ _) _)).below hb1)
                clear hb1 HI
                have ha := HI1.out.e2
                have hb := HI1.out.c2
                have hf := HI1.out.fr
                have hf1 := HI1.out.fr1
                cases hz : T.z2
                · rw [hz] at ha
                  have HIV := Aside0.mk (HI1.out.put2 k v hz)
                  rw [← HR.out] at HIV
                  clear hz
                  go_wp2_with fail
                  go_roundw
                  case rel => exact ⟨k + 1, by go_num, by rw [HTX.out], HG, HIV⟩
                  case measure => simp [intOf]; omega
                · rw [hz] at ha
                  have HIV := Aside0.mk (HI1.out.same2 k v hz)
                  rw [← HR.out] at HIV
                  clear hz
                  go_wp2_with fail
                  go_roundw
                  case rel => exact ⟨k + 1, by go_num, by rw [HTX.out], HG, HIV⟩
                  case measure => simp [intOf]; omega
      · have hc0 := HI.out.c0
        have hc1 := HI.out.c1
        have hc2 := HI.out.c2
        have hf := HI.out.fr
        go_wp2_with fail
        go_region
        go_wp2_with fail
        have h3 := three HI.out.row
        have d0 := (blk_cell h3 0).trans rfl
        have d1 := (blk_cell h3 1).trans rfl
        have d2 := (blk_cell h3 2).trans rfl
        refine bodyPost_ret (v := .tuple #[.string ⟨#[]⟩, .agg #[.string T.f0, .string T.f1, .string T.f2], .bool false]) ?_ rfl ⟨_, _, _, _, _, rfl, three_below HI.out.1 (Nat.le_refl _), fun h => by cases h⟩
        simp [results, Try.results12, go_sem, d0, d1, d2]
    · have he : k = ns.length := by have := HK.out.1; omega
      subst he
      clear hk
      have hc0 := HI.out.c0
      have hc1 := HI.out.c1
      have hc2 := HI.out.c2
      have hf := HI.out.fr
      go_wp2_with fail
      go_region
      go_wp2_with fail
      have h3 := three HI.out.row
      have d0 := (blk_cell h3 0).trans rfl
      have d1 := (blk_cell h3 1).trans rfl
      have d2 := (blk_cell h3 2).trans rfl
      refine bodyPost_ret (v := .tuple #[.string (run ns vs ns.length).s, .agg #[.string (run ns vs ns.length).f0, .string (run ns vs ns.length).f1, .string (run ns vs ns.length).f2], .bool true]) ?_ rfl ⟨_, _, _, _, _, rfl, three_below HI.out.1 (Nat.le_refl _), fun _ => ⟨HK.out.2, rfl, rfl, rfl, rfl⟩⟩
      simp [results, Try.results12, go_sem, d0, d1, d2]
end Go.Proofs.Ytfcefkenpndblaa.ParA
