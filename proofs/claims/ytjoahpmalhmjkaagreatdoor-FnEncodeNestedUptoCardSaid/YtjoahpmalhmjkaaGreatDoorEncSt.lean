/- What is proved here: the encoder's state in memory (St), and what each store, append and new block does to it; no program is run here; conditions: those that each theorem names. -/
import Derived.Test.YtjoahpmalhmjkaaGreatDoorWMore
namespace Go.Proofs.YtjoahpmalhmjkaaGreatDoor.EncSt
open Go.RowKit Go.Proofs.YtjoahpmalhmjkaaGreatDoorW.PrintWords Go.Proofs.YtjoahpmalhmjkaaGreatDoorW.PrintLast Go.Proofs.YtjoahpmalhmjkaaGreatDoorW.PrintMore
set_option linter.unusedVariables false
set_option linter.unusedSimpArgs false

/-- The world W' is W but for the blocks S, and for what is new. -/
structure Only (S : Nat → Prop) (W W' : World) : Prop where
  os : W'.os = W.os
  tape : W'.tape = W.tape
  output : W'.output = W.output
  size : W.heap.size ≤ W'.heap.size
  block : ∀ i, i < W.heap.size → ¬ S i → W'.heap[i]? = W.heap[i]?

theorem Only.set (W : World) (x j : Nat) (v : Value) : Only (fun i => i = x) W (W.setCell ⟨x, j, none⟩ v) :=
  ⟨rfl, rfl, rfl, by simp [World.setCell], fun i _ h => Below.heap_setCell _ _ _ _ h⟩
theorem Only.row (W : World) (x : Nat) (cs : Array Value) : Only (fun i => i = x) W (W.setRow x cs) :=
  ⟨rfl, rfl, rfl, by simp [World.setRow], fun i _ h => setRow_other _ _ _ _ h⟩
theorem Only.grown {W W' : World} {row : Option Nat} (h : W.grownBy W' row) : Only (fun i => row = some i) W W' :=
  ⟨h.os, h.tape, h.output, h.size, fun i hi hn => h.block i hi (fun e => hn e.symm)⟩
theorem Only.trans {S T : Nat → Prop} {W W' W'' : World} (h : Only S W W') (k : Only T W' W'') : Only (fun i => S i ∨ T i) W W'' :=
  ⟨k.os.trans h.os, k.tape.trans h.tape, k.output.trans h.output, Nat.le_trans h.size k.size, fun i hi hn => (k.block i (Nat.lt_of_lt_of_le hi h.size) (fun e => hn (.inr e))).trans (h.block i hi (fun e => hn (.inl e)))⟩
theorem Only.below {S : Nat → Prop} {W W' W'' : World} (h : Only S W W') (k : Below W'.heap.size W' W'') : Only S W W'' :=
  ⟨k.os.trans h.os, k.tape.trans h.tape, k.output.trans h.output, Nat.le_trans h.size k.size, fun i hi hn => (k.block i (Nat.lt_of_lt_of_le hi h.size)).trans (h.block i hi hn)⟩
theorem Only.of_below {S : Nat → Prop} {W W' : World} (k : Below W.heap.size W W') : Only S W W' := ⟨k.os, k.tape, k.output, k.size, fun i hi _ => k.block i hi⟩
theorem Only.mono {S T : Nat → Prop} {W W' : World} (h : Only S W W') (hs : ∀ i, S i → T i) : Only T W W' := ⟨h.os, h.tape, h.output, h.size, fun i hi hn => h.block i hi (fun e => hn (hs i e))⟩

theorem setCell_same (W : World) (x j : Nat) (v : Value) (h : W.cell? ⟨x, j, none⟩ = some v) : W.setCell ⟨x, j, none⟩ v = W := by
  cases hx : W.heap[x]? with
  | none => simp [World.cell?, hx] at h
  | some o =>
    cases o with
    | cells cs t fr =>
      rw [setCell_eq_setRow W x j cs t fr v hx]
      have hj : cs[j]? = some v := by simpa [World.cell?, hx] using h
      have : cs.setIfInBounds j v = cs := by
        apply Array.ext_getElem?
        intro i
        rw [Array.getElem?_setIfInBounds]
        split
        · rename_i e
          subst e
          rw [hj]
          have := (Array.getElem?_eq_some_iff.1 hj).1
          rw [if_pos this]
        · rfl
      rw [this]
      exact setRow_self W x cs t fr hx
    | _ => simp [World.cell?, hx] at h

def tagCells (tags : List ByteArray) : List Value := tags.flatMap fun t => [.string ⟨#[]⟩, .string t]

/-- What every state keeps: the blocks K of w0; none of them is q, b, p, g. -/
structure Keeps (K : Nat → Prop) (w0 : World) (q b p g : Nat) (W : World) : Prop where
  os : W.os = w0.os
  tape : W.tape = w0.tape
  output : W.output = w0.output
  size : w0.heap.size ≤ W.heap.size
  lt : ∀ i, K i → i < w0.heap.size
  kept : ∀ i, K i → W.heap[i]? = w0.heap[i]?
  off : ∀ i, K i → i ≠ q ∧ i ≠ b ∧ i ≠ p ∧ i ≠ g

def pcells (q b n : Nat) : Array Value := #[.nilIface, .slice (some ⟨b, 0, none⟩) 4096 4096, .int .i64 (n : Int), .iface 40 (.pointer (some ⟨q, 0, none⟩))]
def gcells (p g : Nat) (vp vt : Value) (cl : Bool) : Array Value :=
  #[.pointer (some ⟨p, 0, none⟩), .pointer (some ⟨g, 0, none⟩), .int .i64 0, .string ⟨#[]⟩, .string ⟨#[]⟩, .int .i64 0, .bool false, .bool false, .map none, .map none, vp, vt, .bool cl, .nilIface]

/-- The encoder: its writer q (k bytes in the row va), the buffer b, the bufio.Writer p (n bytes in the buffer), the Encoder g: np empty prefixes in vp, the open elements' names in vt; closed or not. -/
structure St (K : Nat → Prop) (w0 : World) (q b p g k n : Nat) (va vp vt : Value) (tags : List ByteArray) (np : Nat) (cl : Bool) (W : World) : Prop where
  ks : Keeps K w0 q b p g W
  qb : W.heap[q]? = some (.cells #[va] 43 (0, 0))
  qo : ∃ xs, xs.length = k ∧ W.ownsRow 0 5 1 va k (nums .u8 xs)
  qk : ∀ i, va.ownBlock = some i → ¬ K i ∧ i ≠ b
  bb : ∃ ys, ys.length = 4096 ∧ W.heap[b]? = some (.cells (nums .u8 ys).toArray 5 (0, 0))
  pb : W.heap[p]? = some (.cells (pcells q b n) 138 (0, 0))
  nle : n ≤ 4096
  gb : W.heap[g]? = some (.cells (gcells p g vp vt cl) 75 (0, 0))
  po : W.ownsRow 0 9 1 vp np (List.replicate np (.string ⟨#[]⟩))
  pk : ∀ i, vp.ownBlock = some i → ¬ K i
  tg : W.ownsRow 0 77 2 vt tags.length (tagCells tags)
  tk : ∀ i, vt.ownBlock = some i → ¬ K i

theorem typ_ne {W : World} {i j : Nat} {c c' : Array Value} {t t' : TypeId} (h : W.heap[i]? = some (.cells c t (0, 0))) (h' : W.heap[j]? = some (.cells c' t' (0, 0))) (hne : t ≠ t') : i ≠ j := by
  intro e
  subst e
  rw [h] at h'
  injection h' with h'
  injection h' with _ h'
  exact hne h'

theorem Only.own {W W' : World} {S : Nat → Prop} (ho : Only S W W') {base : Nat} {e : TypeId} {size n : Nat} {v : Value} {xs : List Value} (h : W.ownsRow base e size v n xs) (hne : ∀ k, v.ownBlock = some k → ¬ S k) : W'.ownsRow base e size v n xs :=
  own_move h fun k hk => ho.block k (own_lt h k hk) (hne k hk)
theorem Only.blk {W W' : World} {S : Nat → Prop} {i : Nat} {o : Obj} (ho : Only S W W') (h : W.heap[i]? = some o) (hne : ¬ S i) : W'.heap[i]? = some o := (ho.block i (blk_lt h) hne).trans h
theorem row_ne {W : World} {base n size : Nat} {e t : TypeId} {v : Value} {xs : List Value} {c : Array Value} {x : Nat} (h : W.ownsRow base e size v n xs) (hx : W.heap[x]? = some (.cells c t (0, 0))) (hne : e ≠ t) : ∀ i, v.ownBlock = some i → i ≠ x := by
  intro i hk
  obtain ⟨c', hc⟩ := own_typed h i hk
  exact typ_ne hc hx hne
theorem rows_ne {W : World} {base n size base' n' size' : Nat} {e e' : TypeId} {v v' : Value} {xs xs' : List Value} (h : W.ownsRow base e size v n xs) (h' : W.ownsRow base' e' size' v' n' xs') (hne : e ≠ e') : ∀ i, v.ownBlock = some i → v'.ownBlock ≠ some i := by
  intro i hk hk'
  obtain ⟨c, hc⟩ := own_typed h i hk
  obtain ⟨c', hc'⟩ := own_typed h' i hk'
  exact typ_ne hc hc' hne rfl

section
variable {K : Nat → Prop} {w0 W W' : World} {q b p g k n : Nat} {va vp vt : Value} {tags : List ByteArray} {np : Nat} {cl : Bool}

theorem Keeps.only (h : Keeps K w0 q b p g W) {S : Nat → Prop} (ho : Only S W W') (hx : ∀ i, K i → ¬ S i) : Keeps K w0 q b p g W' :=
  ⟨ho.os.trans h.os, ho.tape.trans h.tape, ho.output.trans h.output, Nat.le_trans h.size ho.size, h.lt, fun i hi => (ho.block i (Nat.lt_of_lt_of_le (h.lt i hi) h.size) (hx i hi)).trans (h.kept i hi), h.off⟩
theorem Keeps.below (h : Keeps K w0 q b p g W) (hb : Below W.heap.size W W') : Keeps K w0 q b p g W' :=
  ⟨hb.os.trans h.os, hb.tape.trans h.tape, hb.output.trans h.output, Nat.le_trans h.size hb.size, h.lt, fun i hi => (hb.block i (Nat.lt_of_lt_of_le (h.lt i hi) h.size)).trans (h.kept i hi), h.off⟩

theorem St.below (h : St K w0 q b p g k n va vp vt tags np cl W) (hb : Below W.heap.size W W') : St K w0 q b p g k n va vp vt tags np cl W' := by
  obtain ⟨xs, hx, ho⟩ := h.qo
  obtain ⟨ys, hy, hbb⟩ := h.bb
  exact ⟨h.ks.below hb, blk_below h.qb hb, ⟨xs, hx, pw_own_below ho hb⟩, h.qk, ⟨ys, hy, blk_below hbb hb⟩, blk_below h.pb hb, h.nle, blk_below h.gb hb, pw_own_below h.po hb, h.pk, pw_own_below h.tg hb, h.tk⟩
theorem St.drew (h : St K w0 q b p g k n va vp vt tags np cl W) : St K w0 q b p g k n va vp vt tags np cl W.drew := h.below (below_drew (Below.refl _ _))
theorem St.drewN (h : St K w0 q b p g k n va vp vt tags np cl W) (m : Nat) : St K w0 q b p g k n va vp vt tags np cl (W.drewN m) := h.below (pw_below_drewN (Below.refl _ _) m)
theorem St.alloc (h : St K w0 q b p g k n va vp vt tags np cl W) (o : Obj) : St K w0 q b p g k n va vp vt tags np cl (W.alloc o) := h.below (below_alloc (Below.refl _ _) o)
theorem St.drawn (h : St K w0 q b p g k n va vp vt tags np cl W) (hd : Drawn0 W W') : St K w0 q b p g k n va vp vt tags np cl W' := h.below hd.below

/-- The bufio.Writer's count. -/
theorem St.putN (h : St K w0 q b p g k n va vp vt tags np cl W) (x : Int) (m : Nat) (hx : x = (m : Int)) (hm : m ≤ 4096) : St K w0 q b p g k m va vp vt tags np cl (W.setCell ⟨p, 2, none⟩ (.int .i64 x)) := by
  subst hx
  obtain ⟨xs, hxs, ho⟩ := h.qo
  obtain ⟨ys, hy, hbb⟩ := h.bb
  have o := Only.set W p 2 (.int .i64 (m : Int))
  refine ⟨h.ks.only o (fun i hk => (h.ks.off i hk).2.2.1), o.blk h.qb (typ_ne h.qb h.pb (by decide)), ⟨xs, hxs, o.own ho (row_ne ho h.pb (by decide))⟩, h.qk, ⟨ys, hy, o.blk hbb (typ_ne hbb h.pb (by decide))⟩, ?_, hm,
    o.blk h.gb (typ_ne h.gb h.pb (by decide)), o.own h.po (row_ne h.po h.pb (by decide)), h.pk, o.own h.tg (row_ne h.tg h.pb (by decide)), h.tk⟩
  have := blk_set h.pb 2 (.int .i64 (m : Int))
  simpa [pcells] using this

/-- The buffer's bytes. -/
theorem St.putB (h : St K w0 q b p g k n va vp vt tags np cl W) (o : Only (fun i => i = b) W W') {ys : List Int} (hy : ys.length = 4096) (hb : W'.heap[b]? = some (.cells (nums .u8 ys).toArray 5 (0, 0))) : St K w0 q b p g k n va vp vt tags np cl W' := by
  obtain ⟨xs, hxs, ho⟩ := h.qo
  obtain ⟨ys0, hy0, hbb⟩ := h.bb
  exact ⟨h.ks.only o (fun i hk => (h.ks.off i hk).2.1), o.blk h.qb (typ_ne h.qb hbb (by decide)), ⟨xs, hxs, o.own ho (fun i e => (h.qk i e).2)⟩, h.qk, ⟨ys, hy, hb⟩, o.blk h.pb (typ_ne h.pb hbb (by decide)), h.nle,
    o.blk h.gb (typ_ne h.gb hbb (by decide)), o.own h.po (row_ne h.po hbb (by decide)), h.pk, o.own h.tg (row_ne h.tg hbb (by decide)), h.tk⟩
theorem nums_set (ys : List Int) (j : Nat) (x : Int) : (nums .u8 ys).toArray.setIfInBounds j (.int .u8 x) = (nums .u8 (ys.set j x)).toArray := by
  simp [nums, List.map_set]
theorem St.poke (h : St K w0 q b p g k n va vp vt tags np cl W) (j : Nat) (x : Int) : St K w0 q b p g k n va vp vt tags np cl (W.setCell ⟨b, j, none⟩ (.int .u8 x)) := by
  obtain ⟨ys, hy, hbb⟩ := h.bb
  refine h.putB (Only.set W b j _) (ys := ys.set j x) (by rw [List.length_set]; exact hy) ?_
  rw [← nums_set]
  exact blk_set hbb j _

/-- The Encoder's cells: closed. -/
theorem St.putG (h : St K w0 q b p g k n va vp vt tags np cl W) (o : Only (fun i => i = g) W W') (cl' : Bool) (hg : W'.heap[g]? = some (.cells (gcells p g vp vt cl') 75 (0, 0))) : St K w0 q b p g k n va vp vt tags np cl' W' := by
  obtain ⟨xs, hxs, ho⟩ := h.qo
  obtain ⟨ys, hy, hbb⟩ := h.bb
  exact ⟨h.ks.only o (fun i hk => (h.ks.off i hk).2.2.2), o.blk h.qb (typ_ne h.qb h.gb (by decide)), ⟨xs, hxs, o.own ho (row_ne ho h.gb (by decide))⟩, h.qk, ⟨ys, hy, o.blk hbb (typ_ne hbb h.gb (by decide))⟩, o.blk h.pb (typ_ne h.pb h.gb (by decide)), h.nle,
    hg, o.own h.po (row_ne h.po h.gb (by decide)), h.pk, o.own h.tg (row_ne h.tg h.gb (by decide)), h.tk⟩
theorem St.close (h : St K w0 q b p g k n va vp vt tags np cl W) : St K w0 q b p g k n va vp vt tags np true (W.setCell ⟨g, 12, none⟩ (.bool true)) :=
  h.putG (Only.set W g 12 _) true (by have := blk_set h.gb 12 (.bool true); simpa [gcells] using this)

/-- The writer's row, appended to, stored back. -/
theorem St.putQ (h : St K w0 q b p g k n va vp vt tags np cl W) {W1 : World} (hg : W.grownBy W1 va.ownBlock) {va1 : Value} {zs : List Int} (ho1 : W1.ownsRow 0 5 1 va1 zs.length (nums .u8 zs)) (hat : va1.ownBlock = va.ownBlock ∨ ∃ x, va1.ownBlock = some x ∧ W.heap.size ≤ x) :
    St K w0 q b p g zs.length n va1 vp vt tags np cl (W1.setCell ⟨q, 0, none⟩ va1) := by
  obtain ⟨xs, hxs, ho⟩ := h.qo
  obtain ⟨ys, hy, hbb⟩ := h.bb
  have o1 := Only.grown hg
  have o := o1.trans (Only.set W1 q 0 va1)
  have hq1 := o1.blk h.qb (fun e => row_ne ho h.qb (by decide) _ e rfl)
  refine ⟨h.ks.only o (fun i hi => not_or.2 ⟨fun e => (h.qk i e).1 hi, (h.ks.off i hi).1⟩), by simpa using blk_set hq1 0 va1, ⟨zs, rfl, own_setCell ho1 (fun e => row_ne ho1 hq1 (by decide) _ e.symm rfl) _⟩, ?_,
    ⟨ys, hy, o.blk hbb (not_or.2 ⟨fun e => (h.qk _ e).2 rfl, typ_ne hbb h.qb (by decide)⟩)⟩, o.blk h.pb (not_or.2 ⟨fun e => row_ne ho h.pb (by decide) _ e rfl, typ_ne h.pb h.qb (by decide)⟩), h.nle,
    o.blk h.gb (not_or.2 ⟨fun e => row_ne ho h.gb (by decide) _ e rfl, typ_ne h.gb h.qb (by decide)⟩), o.own h.po (fun i hi => not_or.2 ⟨rows_ne h.po ho (by decide) i hi, row_ne h.po h.qb (by decide) i hi⟩), h.pk,
    o.own h.tg (fun i hi => not_or.2 ⟨rows_ne h.tg ho (by decide) i hi, row_ne h.tg h.qb (by decide) i hi⟩), h.tk⟩
  intro i hi
  rcases hat with e | ⟨x, e, hx⟩
  · exact h.qk i (e ▸ hi)
  · rw [e] at hi
    injection hi with hi
    subst hi
    have hs := h.ks.size
    exact ⟨fun hk => by have := h.ks.lt _ hk; omega, fun e => by have := blk_lt hbb; omega⟩

/-- The prefixes' row, appended to, stored back. -/
theorem St.putP (h : St K w0 q b p g k n va vp vt tags np cl W) {W1 : World} (hg : W.grownBy W1 vp.ownBlock) {vp1 : Value} {m : Nat} (ho1 : W1.ownsRow 0 9 1 vp1 m (List.replicate m (.string ⟨#[]⟩))) (hat : vp1.ownBlock = vp.ownBlock ∨ ∃ x, vp1.ownBlock = some x ∧ W.heap.size ≤ x) :
    St K w0 q b p g k n va vp1 vt tags m cl (W1.setCell ⟨g, 10, none⟩ vp1) := by
  obtain ⟨xs, hxs, ho⟩ := h.qo
  obtain ⟨ys, hy, hbb⟩ := h.bb
  have o1 := Only.grown hg
  have o := o1.trans (Only.set W1 g 10 vp1)
  have hg1 := o1.blk h.gb (fun e => row_ne h.po h.gb (by decide) _ e rfl)
  refine ⟨h.ks.only o (fun i hi => not_or.2 ⟨fun e => h.pk i e hi, (h.ks.off i hi).2.2.2⟩), o.blk h.qb (not_or.2 ⟨fun e => row_ne h.po h.qb (by decide) _ e rfl, typ_ne h.qb h.gb (by decide)⟩), ⟨xs, hxs, o.own ho (fun i hi => not_or.2 ⟨rows_ne ho h.po (by decide) i hi, row_ne ho h.gb (by decide) i hi⟩)⟩, h.qk,
    ⟨ys, hy, o.blk hbb (not_or.2 ⟨fun e => row_ne h.po hbb (by decide) _ e rfl, typ_ne hbb h.gb (by decide)⟩)⟩, o.blk h.pb (not_or.2 ⟨fun e => row_ne h.po h.pb (by decide) _ e rfl, typ_ne h.pb h.gb (by decide)⟩), h.nle,
    by simpa [gcells] using blk_set hg1 10 vp1, own_setCell ho1 (fun e => row_ne ho1 hg1 (by decide) _ e.symm rfl) _, ?_,
    o.own h.tg (fun i hi => not_or.2 ⟨rows_ne h.tg h.po (by decide) i hi, row_ne h.tg h.gb (by decide) i hi⟩), h.tk⟩
  intro i hi
  rcases hat with e | ⟨x, e, hx⟩
  · exact h.pk i (e ▸ hi)
  · rw [e] at hi
    injection hi with hi
    subst hi
    have hs := h.ks.size
    exact fun hk => by have := h.ks.lt _ hk; omega

/-- The open elements' row, appended to, stored back. -/
theorem St.putT (h : St K w0 q b p g k n va vp vt tags np cl W) {W1 : World} (hg : W.grownBy W1 vt.ownBlock) {vt1 : Value} {tags1 : List ByteArray} (ho1 : W1.ownsRow 0 77 2 vt1 tags1.length (tagCells tags1)) (hat : vt1.ownBlock = vt.ownBlock ∨ ∃ x, vt1.ownBlock = some x ∧ W.heap.size ≤ x) :
    St K w0 q b p g k n va vp vt1 tags1 np cl (W1.setCell ⟨g, 11, none⟩ vt1) := by
  obtain ⟨xs, hxs, ho⟩ := h.qo
  obtain ⟨ys, hy, hbb⟩ := h.bb
  have o1 := Only.grown hg
  have o := o1.trans (Only.set W1 g 11 vt1)
  have hg1 := o1.blk h.gb (fun e => row_ne h.tg h.gb (by decide) _ e rfl)
  refine ⟨h.ks.only o (fun i hi => not_or.2 ⟨fun e => h.tk i e hi, (h.ks.off i hi).2.2.2⟩), o.blk h.qb (not_or.2 ⟨fun e => row_ne h.tg h.qb (by decide) _ e rfl, typ_ne h.qb h.gb (by decide)⟩), ⟨xs, hxs, o.own ho (fun i hi => not_or.2 ⟨rows_ne ho h.tg (by decide) i hi, row_ne ho h.gb (by decide) i hi⟩)⟩, h.qk,
    ⟨ys, hy, o.blk hbb (not_or.2 ⟨fun e => row_ne h.tg hbb (by decide) _ e rfl, typ_ne hbb h.gb (by decide)⟩)⟩, o.blk h.pb (not_or.2 ⟨fun e => row_ne h.tg h.pb (by decide) _ e rfl, typ_ne h.pb h.gb (by decide)⟩), h.nle,
    by simpa [gcells] using blk_set hg1 11 vt1, o.own h.po (fun i hi => not_or.2 ⟨rows_ne h.po h.tg (by decide) i hi, row_ne h.po h.gb (by decide) i hi⟩), h.pk, own_setCell ho1 (fun e => row_ne ho1 hg1 (by decide) _ e.symm rfl) _, ?_⟩
  intro i hi
  rcases hat with e | ⟨x, e, hx⟩
  · exact h.tk i (e ▸ hi)
  · rw [e] at hi
    injection hi with hi
    subst hi
    have hs := h.ks.size
    exact fun hk => by have := h.ks.lt _ hk; omega

theorem own_shrink {W : World} {base e size n m c : Nat} {A : Option Addr} {xs : List Value} (h : W.ownsRow base e size (.slice A n c) n xs) (hm : m ≤ n) : W.ownsRow base e size (.slice A m c) m (xs.take (m * size)) := by
  obtain ⟨h1, h2⟩ := h
  have hle : m * size ≤ n * size := Nat.mul_le_mul_right _ hm
  refine ⟨by rw [List.length_take, h1]; omega, ?_⟩
  rcases h2 with ⟨e1, e2⟩ | ⟨g, cap, cur, hv, h3, h4, h5, h6, h7, h8⟩
  · injection e1 with a1 a2 a3
    subst a1 a3
    have : m = 0 := by omega
    subst this
    exact .inl ⟨rfl, rfl⟩
  · injection hv with a1 a2 a3
    subst a1 a3
    refine .inr ⟨g, c, cur, rfl, h3, h4, by omega, h6, h7, ?_⟩
    rw [← h8, List.take_take, Nat.min_eq_left hle]

/-- Another place of reference: what is to be kept, from W on, is any set of blocks that are none of the encoder's. -/
theorem St.rebase (h : St K w0 q b p g k n va vp vt tags np cl W) (K' : Nat → Prop) (hk : ∀ i, K' i → i < W.heap.size ∧ i ≠ q ∧ i ≠ b ∧ i ≠ p ∧ i ≠ g ∧ va.ownBlock ≠ some i ∧ vp.ownBlock ≠ some i ∧ vt.ownBlock ≠ some i) :
    St K' W q b p g k n va vp vt tags np cl W :=
  ⟨⟨rfl, rfl, rfl, Nat.le_refl _, fun i hi => (hk i hi).1, fun _ _ => rfl, fun i hi => ⟨(hk i hi).2.1, (hk i hi).2.2.1, (hk i hi).2.2.2.1, (hk i hi).2.2.2.2.1⟩⟩, h.qb, h.qo,
    fun i hi => ⟨fun hk' => (hk i hk').2.2.2.2.2.1 hi, (h.qk i hi).2⟩, h.bb, h.pb, h.nle, h.gb, h.po, fun i hi hk' => (hk i hk').2.2.2.2.2.2.1 hi, h.tg, fun i hi hk' => (hk i hk').2.2.2.2.2.2.2 hi⟩

section
theorem St.q0 (h : St K w0 q b p g k n va vp vt tags np cl W) : W.cell? ⟨q, 0, none⟩ = some va := (blk_cell h.qb 0).trans rfl
theorem St.qf (h : St K w0 q b p g k n va vp vt tags np cl W) (i : Nat) : W.frozen? ⟨q, i, none⟩ = false := blk_frozen h.qb i
theorem St.p0 (h : St K w0 q b p g k n va vp vt tags np cl W) : W.cell? ⟨p, 0, none⟩ = some .nilIface := (blk_cell h.pb 0).trans rfl
theorem St.p1 (h : St K w0 q b p g k n va vp vt tags np cl W) : W.cell? ⟨p, 1, none⟩ = some (.slice (some ⟨b, 0, none⟩) 4096 4096) := (blk_cell h.pb 1).trans rfl
theorem St.p2 (h : St K w0 q b p g k n va vp vt tags np cl W) : W.cell? ⟨p, 2, none⟩ = some (.int .i64 (n : Int)) := (blk_cell h.pb 2).trans rfl
theorem St.p3 (h : St K w0 q b p g k n va vp vt tags np cl W) : W.cell? ⟨p, 3, none⟩ = some (.iface 40 (.pointer (some ⟨q, 0, none⟩))) := (blk_cell h.pb 3).trans rfl
theorem St.pf (h : St K w0 q b p g k n va vp vt tags np cl W) (i : Nat) : W.frozen? ⟨p, i, none⟩ = false := blk_frozen h.pb i
theorem St.bf (h : St K w0 q b p g k n va vp vt tags np cl W) (i : Nat) : W.frozen? ⟨b, i, none⟩ = false := by
  obtain ⟨ys, _, hb⟩ := h.bb
  exact blk_frozen hb i
theorem St.g0 (h : St K w0 q b p g k n va vp vt tags np cl W) : W.cell? ⟨g, 0, none⟩ = some (.pointer (some ⟨p, 0, none⟩)) := (blk_cell h.gb 0).trans rfl
theorem St.g3 (h : St K w0 q b p g k n va vp vt tags np cl W) : W.cell? ⟨g, 3, none⟩ = some (.string ⟨#[]⟩) := (blk_cell h.gb 3).trans rfl
theorem St.g4 (h : St K w0 q b p g k n va vp vt tags np cl W) : W.cell? ⟨g, 4, none⟩ = some (.string ⟨#[]⟩) := (blk_cell h.gb 4).trans rfl
theorem St.g10 (h : St K w0 q b p g k n va vp vt tags np cl W) : W.cell? ⟨g, 10, none⟩ = some vp := (blk_cell h.gb 10).trans rfl
theorem St.g11 (h : St K w0 q b p g k n va vp vt tags np cl W) : W.cell? ⟨g, 11, none⟩ = some vt := (blk_cell h.gb 11).trans rfl
theorem St.g12 (h : St K w0 q b p g k n va vp vt tags np cl W) : W.cell? ⟨g, 12, none⟩ = some (.bool cl) := (blk_cell h.gb 12).trans rfl
theorem St.g13 (h : St K w0 q b p g k n va vp vt tags np cl W) : W.cell? ⟨g, 13, none⟩ = some .nilIface := (blk_cell h.gb 13).trans rfl
theorem St.gf (h : St K w0 q b p g k n va vp vt tags np cl W) (i : Nat) : W.frozen? ⟨g, i, none⟩ = false := blk_frozen h.gb i
theorem St.ne_pg (h : St K w0 q b p g k n va vp vt tags np cl W) : p ≠ g := typ_ne h.pb h.gb (by decide)
theorem St.ne_qp (h : St K w0 q b p g k n va vp vt tags np cl W) : q ≠ p := typ_ne h.qb h.pb (by decide)
theorem St.ne_qg (h : St K w0 q b p g k n va vp vt tags np cl W) : q ≠ g := typ_ne h.qb h.gb (by decide)
end

end
end Go.Proofs.YtjoahpmalhmjkaaGreatDoor.EncSt
