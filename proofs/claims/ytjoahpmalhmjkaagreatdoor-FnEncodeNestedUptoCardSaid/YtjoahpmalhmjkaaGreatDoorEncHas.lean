/- What is proved here: bytesContains tells no of a text that holds the part nowhere; conditions: those that each theorem names. -/
import Derived.Test.YtjoahpmalhmjkaaGreatDoorEncSA
namespace Go.Proofs.YtjoahpmalhmjkaaGreatDoor.EncSt
open Go.RowKit Go.Proofs.YtjoahpmalhmjkaaGreatDoorW.PrintWords Go.Proofs.YtjoahpmalhmjkaaGreatDoorW.PrintLast Go.Proofs.YtjoahpmalhmjkaaGreatDoorW.PrintMore Go.Lib
set_option linter.unusedVariables false
set_option linter.unusedSimpArgs false

theorem nums_bytes (L : List UInt8) : (strOfNums (L.map fun b => (b.toNat : Int))).data.toList = L := by
  rw [strOfNums_data, List.map_map]
  have : (fun n : Int => UInt8.ofNat n.toNat) ∘ (fun b : UInt8 => (b.toNat : Int)) = id := by
    funext b
    simp
  rw [this, List.map_id]

/-- The part stands nowhere in the text. -/
def Nowhere (s t : ByteArray) : Prop := ∀ i, i + t.size ≤ s.size → (s.data.toList.drop i).take t.size ≠ t.data.toList

theorem piece_cut (s : ByteArray) (b1 c i m : Nat) (w : World) (hr : ReadsInt w .u8 (some ⟨b1, 0, none⟩) s.size (bytesOf s)) (hc : s.size ≤ c) (hi : i + m ≤ s.size) :
    ∃ A, (∀ W : World, (Instr.slice 41 (.slice (some ⟨b1, 0, none⟩) s.size c) (some (.int .i64 (i : Int))) (some (.int .i64 ((i : Int) + (m : Int)))) none).run Tryz.prog W = .ok (.slice A m (c - i)) W) ∧
      ∀ k, (convert 41 9 (.slice A m (c - i))).run Tryz.prog (w.drewN k) = .ok (.string (strOfNums (((s.data.toList.drop i).take m).map fun b => (b.toNat : Int)))) (w.drewN k) := by
  obtain ⟨i0, hi0, _, hsz, _⟩ := info_parts info5
  refine ⟨if c = i then some ⟨b1, 0, none⟩ else (some (⟨b1, 0, none⟩ : Addr)).map (·.add i), fun W => ?_, fun k => ?_⟩
  · have := cut_mid (P := Tryz.prog) 41 5 .i64 .i64 Tryz.underlying41 hi0 1 hsz (some ⟨b1, 0, none⟩) s.size c (i : Int) ((i : Int) + (m : Int)) (by omega) (by omega) (by omega) hc W
    have e1 : ((i : Int) + (m : Int)).toNat - ((i : Int)).toNat = m := by omega
    rw [e1] at this
    simpa using this
  · have h1 : ReadsInt (w.drewN k) .u8 (if c = i then some ⟨b1, 0, none⟩ else (some (⟨b1, 0, none⟩ : Addr)).map (·.add i)) (i + m - i) (((bytesOf s).take (i + m)).drop i) :=
      (ReadsInt.take_ (w := w.drewN k) hr (i + m) hi).drop_ (c := c) i (by omega) (by omega)
    rw [Nat.add_sub_cancel_left] at h1
    have e2 : ((bytesOf s).take (i + m)).drop i = ((s.data.toList.drop i).take m).map fun b => (b.toNat : Int) := by
      unfold bytesOf
      rw [← List.map_take, ← List.map_drop, List.drop_take, Nat.add_sub_cancel_left]
    rw [e2] at h1
    exact string_of_reads Tryz.underlying41 Tryz.underlying5 Tryz.underlying9 h1

set_option maxHeartbeats 4000000 in
set_option maxRecDepth 100000 in
theorem index_none (s t : ByteArray) (b1 b2 c1 c2 : Nat) (w : World) (hs : s.size ≤ 1099511627776) (ht : t.size ≤ 1099511627776) (hr : ReadsInt w .u8 (some ⟨b1, 0, none⟩) s.size (bytesOf s)) (hc : s.size ≤ c1) (hr2 : ReadsInt w .u8 (some ⟨b2, 0, none⟩) t.size (bytesOf t)) (hn : Nowhere s t) :
    Calls Tryz.prog 63 #[.slice (some ⟨b1, 0, none⟩) s.size c1, .slice (some ⟨b2, 0, none⟩) t.size c2] w fun e w' => e = .returned (.int .i64 (-1)) ∧ Drawn0 w w' := by
  have HR := Aside0.mk hr
  have HR2 := Aside0.mk hr2
  have HN := Aside0.mk hn
  clear hr hr2 hn
  go_enter Tryz.func63, Tryz.ntmps63
  go_wp2_with fail
  go_loopw [5] (fun v5 W1 => ∃ i : Nat, v5 = .int .i64 (i : Int) ∧ i ≤ s.size + 1 ∧ Drawn0 w W1) (fun v5 _ => s.size + 1 - (RowKit.intOf v5).toNat)
  case atStart => exact ⟨0, rfl, by omega, Drawn0.refl _⟩
  case round =>
    obtain ⟨i, rfl, hi, ⟨k0, rfl⟩⟩ := hrel
    by_cases hlt : i + t.size ≤ s.size
    · have hq : decide ((i : Int) + (t.size : Int) ≤ (s.size : Int)) = true := decide_eq_true (by omega)
      obtain ⟨A, hcut, hcv⟩ := piece_cut s b1 c1 i t.size (w.drewN k0) HR.out hc hlt
      have hcv2 : ∀ k, (convert 41 9 (.slice (some ⟨b2, 0, none⟩) t.size c2)).run Tryz.prog ((w.drewN k0).drewN k) = .ok (.string (strOfNums (t.data.toList.map fun b => (b.toNat : Int)))) ((w.drewN k0).drewN k) := fun k =>
        string_of_reads Tryz.underlying41 Tryz.underlying5 Tryz.underlying9 (show ReadsInt ((w.drewN k0).drewN k) .u8 (some ⟨b2, 0, none⟩) t.size (t.data.toList.map fun b => (b.toNat : Int)) from HR2.out)
      have hne : ((strOfNums (((s.data.toList.drop i).take t.size).map fun b => (b.toNat : Int))).toList == (strOfNums (t.data.toList.map fun b => (b.toNat : Int))).toList) = false := by
        rw [beq_eq_false_iff_ne, Lib.toList_data, Lib.toList_data, nums_bytes, nums_bytes]
        exact HN.out i hlt
      generalize strOfNums (((s.data.toList.drop i).take t.size).map fun b => (b.toNat : Int)) = x1 at hcv hne
      generalize strOfNums (t.data.toList.map fun b => (b.toNat : Int)) = x2 at hcv2 hne
      have HD := Aside0.mk (show Drawn0 w (w.drewN k0) from ⟨⟨k0, rfl⟩⟩)
      generalize w.drewN k0 = w1 at hcv hcv2 HD ⊢
      go_wp2_with fail
      go_quiet (fail)
      go_wp2
      go_roundw
      case rel =>
        go_light
        exact ⟨i + 1, by go_num, by omega, HD.out.step nq⟩
      case measure =>
        go_light
        simp [RowKit.intOf]
        omega
    · have hq : decide ((i : Int) + (t.size : Int) ≤ (s.size : Int)) = false := decide_eq_false (by omega)
      go_wp2_with fail
      go_ret
      exact ⟨rfl, ⟨⟨k0, rfl⟩⟩⟩

theorem contains_none (s t : ByteArray) (b1 b2 c1 c2 : Nat) (w : World) (hs : s.size ≤ 1099511627776) (ht : t.size ≤ 1099511627776) (hr : ReadsInt w .u8 (some ⟨b1, 0, none⟩) s.size (bytesOf s)) (hc : s.size ≤ c1) (hr2 : ReadsInt w .u8 (some ⟨b2, 0, none⟩) t.size (bytesOf t)) (hn : Nowhere s t) :
    Calls Tryz.prog 37 #[.slice (some ⟨b1, 0, none⟩) s.size c1, .slice (some ⟨b2, 0, none⟩) t.size c2] w fun e w' => e = .returned (.bool false) ∧ Drawn0 w w' := by
  have HR := Aside0.mk hr
  have HR2 := Aside0.mk hr2
  have HN := Aside0.mk hn
  clear hr hr2 hn
  go_enter Tryz.func37, Tryz.ntmps37
  go_wp2_with fail
  with_reducible refine (index_none s t b1 b2 c1 c2 _ hs ht HR.out hc HR2.out HN.out).mono ?_
  rintro e w1 ⟨rfl, hd⟩
  have HD := Aside0.mk hd
  clear hd
  go_wp2_with fail
  go_ret
  exact ⟨rfl, HD.out⟩

end Go.Proofs.YtjoahpmalhmjkaaGreatDoor.EncSt
