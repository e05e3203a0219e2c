/- What is proved here: the reference's NameKind (as printed) tells what the plain function kindFrom tells; condition: at most 2^40 bytes. -/
import Derived.Test.YtjoahpmalhmjkaaGreatDoorNameKind
import Derived.Test.YtjoahpmalhmjkaaGreatDoorEscDec
namespace Go.Proofs.YtjoahpmalhmjkaaGreatDoor.IsKind
open Go.RowKit Go.Proofs.YtjoahpmalhmjkaaGreatDoorW.PrintWords Go.Proofs.YtjoahpmalhmjkaaGreatDoorW.PrintLast Go.Proofs.YtjoahpmalhmjkaaGreatDoorW.PrintMore
open Go.Proofs.YtjoahpmalhmjkaaGreatDoor.EscPure Go.Proofs.YtjoahpmalhmjkaaGreatDoor.EscDec Go.Proofs.YtjoahpmalhmjkaaGreatDoor.PFnEncodeNested
set_option linter.unusedVariables false

/-- May begin a name; may stand in one. -/
def begR (r : Nat) : Bool := (decide (97 ≤ r) && decide (r ≤ 122)) || (decide (65 ≤ r) && decide (r ≤ 90)) || r == 95 || r == 58 || (decide (192 ≤ r) && decide (r ≤ 255) && r != 215 && r != 247)
def conR (r : Nat) : Bool := begR r || (decide (48 ≤ r) && decide (r ≤ 57)) || r == 45 || r == 46 || r == 183

theorem begins_low : ∀ r : Fin 256, spec_begins.f ((r.val : Nat) : Int) = some (begR r.val) := by decide +kernel
theorem continues_low : ∀ r : Fin 256, spec_continues.f ((r.val : Nat) : Int) = some (conR r.val) := by decide +kernel
theorem begR_high (r : Nat) (h : 256 ≤ r) : begR r = false := by unfold begR; simp; omega
theorem conR_high (r : Nat) (h : 256 ≤ r) : conR r = false := by unfold conR; rw [begR_high r h]; simp; omega

theorem begins_is (r : Nat) : spec_begins.f (r : Int) = some (begR r) := by
  by_cases h : r < 256
  · exact begins_low ⟨r, h⟩
  · rw [begR_high r (by omega)]
    unfold spec_begins.f
    rw [if_pos (by omega), if_neg (by omega), if_pos (by omega), if_neg (by omega), if_neg (by omega), if_neg (by omega), if_pos (by omega), if_neg (by omega)]

theorem continues_is (r : Nat) : spec_continues.f (r : Int) = some (conR r) := by
  by_cases h : r < 256
  · exact continues_low ⟨r, h⟩
  · rw [conR_high r (by omega)]
    unfold spec_continues.f
    rw [begins_is, begR_high r (by omega), Option.bind_some, if_neg (by decide), if_pos (by omega), if_neg (by omega), if_neg (by omega), if_neg (by omega), beq_eq_false_iff_ne.2 (by omega)]

/-- What a text is as a name, from a place on. -/
def kindFrom (s : ByteArray) : Nat → Nat → Nat → Nat
  | 0, _, kd => kd
  | f + 1, i, kd =>
    if i < s.size then
      (if (dec s i).2 = 0 then 2
       else if 128 ≤ (dec s i).1 ∧ conR (dec s i).1 = false then 2
       else kindFrom s f (i + (dec s i).2) (if conR (dec s i).1 = true ∧ (i ≠ 0 ∨ begR (dec s i).1 = true) then kd else 1))
    else kd

theorem j2_bad (s : ByteArray) (kd i r n : Int) : Ev (fun k => spec_NameKind.j2 k s kd i r n true) 2 :=
  Ev.step (f := fun _ => some 2) (fun k => by rw [spec_NameKind.j2, if_pos rfl]) (Ev.now _)

theorem j2_on (s : ByteArray) (kd : Nat) (i r n : Nat) (v : Int) (hb : i + n ≤ 1099511627776) (h : Ev (fun k => spec_NameKind.l0 k s ((if conR r = true ∧ (i ≠ 0 ∨ begR r = true) then kd else 1 : Nat) : Int) ((i + n : Nat) : Int)) v) :
    Ev (fun k => spec_NameKind.j2 k s (kd : Int) (i : Int) (r : Int) (n : Int) false) v := by
  have hw : wrap64 ((i : Int) + (n : Int)) = ((i + n : Nat) : Int) := by rw [wr (by omega) (by omega)]; omega
  refine Ev.step (f := fun k => (spec_continues.f (r : Int)).bind fun t105 => (if t105 = true then (if (i : Int) = 0 then ((spec_begins.f (r : Int)).bind fun t106 => (if t106 = true then (spec_NameKind.l0 k s (kd : Int) (wrap64 ((i : Int) + (n : Int)))) else (spec_NameKind.l0 k s 1 (wrap64 ((i : Int) + (n : Int)))))) else (spec_NameKind.l0 k s (kd : Int) (wrap64 ((i : Int) + (n : Int))))) else (spec_NameKind.l0 k s 1 (wrap64 ((i : Int) + (n : Int)))))) (fun k => by rw [spec_NameKind.j2, if_neg (by decide)]) ?_
  rw [hw, continues_is, begins_is]
  simp only [Option.bind_some]
  cases hc : conR r with
  | false =>
    rw [hc, if_neg (by simp)] at h
    exact Ev.congr (fun k => if_neg (by decide)) h
  | true =>
    refine Ev.congr (fun k => if_pos rfl) ?_
    by_cases h0 : i = 0
    · refine Ev.congr (fun k => if_pos (by omega)) ?_
      cases hg : begR r with
      | false =>
        rw [hg, if_neg (by simp [h0])] at h
        exact Ev.congr (fun k => if_neg (by decide)) h
      | true =>
        rw [hc, hg, if_pos ⟨rfl, .inr rfl⟩] at h
        exact Ev.congr (fun k => if_pos rfl) h
    · refine Ev.congr (fun k => if_neg (by omega)) ?_
      rw [hc, if_pos ⟨rfl, .inl h0⟩] at h
      exact h

theorem kind_from (s : ByteArray) (hs : s.size ≤ 1099511627776) : ∀ f i kd : Nat, s.size - i ≤ f → i ≤ s.size → Ev (fun k => spec_NameKind.l0 k s (kd : Int) (i : Int)) ((kindFrom s f i kd : Nat) : Int) := by
  intro f
  induction f with
  | zero =>
    intro i kd hf hi
    refine Ev.step (f := fun _ => some (kd : Int)) (fun k => ?_) (Ev.now _)
    simp only [spec_NameKind.l0]
    rw [if_neg (by omega)]
  | succ f ih =>
    intro i kd hf hi
    unfold kindFrom
    by_cases h : i < s.size
    · rw [if_pos h]
      have hd := decode_tells (s.extract i s.size) (by rw [Lib.tail_size]; omega)
      rw [dec_tail] at hd
      have hw := dec_width s i
      refine Ev.step (f := fun k => (spec_Decode.f k (s.extract i s.size)).bind fun bt102 => (if bt102.2 = 0 then (spec_NameKind.j2 k s (kd : Int) (i : Int) bt102.1 bt102.2 true) else (if bt102.1 ≥ 128 then ((spec_continues.f bt102.1).bind fun t104 => (spec_NameKind.j2 k s (kd : Int) (i : Int) bt102.1 bt102.2 (!t104))) else (spec_NameKind.j2 k s (kd : Int) (i : Int) bt102.1 bt102.2 false)))) (fun k => ?_) (Ev.bind hd ?_)
      · simp only [spec_NameKind.l0]
        rw [if_pos (by omega), if_pos (by omega), if_pos (by omega), Int.toNat_natCast]
      · generalize hr : (dec s i).1 = r at *
        generalize hn : (dec s i).2 = n at *
        by_cases h0 : n = 0
        · rw [if_pos h0]
          exact Ev.congr (fun k => if_pos (by simp only; omega)) (j2_bad _ _ _ _ _)
        · rw [if_neg h0]
          refine Ev.congr (fun k => if_neg (by simp only; omega)) ?_
          by_cases h8 : 128 ≤ r
          · refine Ev.congr (fun k => if_pos (by simp only; omega)) ?_
            simp only [continues_is, Option.bind_some]
            cases hc : conR r with
            | false =>
              rw [if_pos ⟨h8, rfl⟩]
              exact j2_bad _ _ _ _ _
            | true =>
              rw [if_neg (by simp)]
              refine j2_on s kd i r n _ (by omega) ?_
              rw [hc]
              exact ih (i + n) _ (by omega) (by omega)
          · refine Ev.congr (fun k => if_neg (by simp only; omega)) ?_
            rw [if_neg (by omega)]
            exact j2_on s kd i r n _ (by omega) (ih (i + n) _ (by omega) (by omega))
    · rw [if_neg h]
      refine Ev.step (f := fun _ => some (kd : Int)) (fun k => ?_) (Ev.now _)
      simp only [spec_NameKind.l0]
      rw [if_neg (by omega)]

def kindOf (s : ByteArray) : Nat := kindFrom s s.size 0 (if s.size = 0 then 1 else 0)

theorem kind_tells (s : ByteArray) (hs : s.size ≤ 1099511627776) : ∃ k, spec_NameKind.f k s = some ((kindOf s : Nat) : Int) := by
  have h := kind_from s hs s.size 0 (if s.size = 0 then 1 else 0) (by omega) (Nat.zero_le _)
  have h2 : Ev (fun k => spec_NameKind.j0 k s ((if s.size = 0 then 1 else 0 : Nat) : Int)) ((kindOf s : Nat) : Int) :=
    Ev.step (f := fun k => spec_NameKind.l0 k s ((if s.size = 0 then 1 else 0 : Nat) : Int) 0) (fun k => by simp only [spec_NameKind.j0]) h
  obtain ⟨k, hk⟩ := h2.rounds
  refine ⟨k, ?_⟩
  unfold spec_NameKind.f
  by_cases h0 : s.size = 0
  · rw [if_pos ((empty_iff s).2 h0)]
    rw [if_pos h0] at hk
    exact hk
  · rw [if_neg (fun h => h0 ((empty_iff s).1 h))]
    rw [if_neg h0] at hk
    exact hk

end Go.Proofs.YtjoahpmalhmjkaaGreatDoor.IsKind
