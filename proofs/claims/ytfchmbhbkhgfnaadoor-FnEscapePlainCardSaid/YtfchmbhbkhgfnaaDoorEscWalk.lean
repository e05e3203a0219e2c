/- What is proved here: the package's escapeText writes, rune by rune, what the plain function esc tells; conditions: at most 10^6 bytes, the tables of unicode/utf8 as laid, an empty writer. -/
import Derived.Test.YtfchmbhbkhgfnaaDoorPFnEscapePartsx
import Derived.Test.YtfchmbhbkhgfnaaDoorEscWrite
import Derived.Test.YtfchmbhbkhgfnaaDoorEscShelf
import Derived.Test.YtfchmbhbkhgfnaaDoorEscPure
import Derived.Deep.RegionWith
namespace Go.Proofs.YtfchmbhbkhgfnaaDoor.Esc
open Go.RowKit Go.Proofs.YtfchmbhbkhgfnaaDoorW.PrintWords Go.Proofs.YtfchmbhbkhgfnaaDoorW.PrintLast Go.Proofs.YtfchmbhbkhgfnaaDoorW.PrintMore
open Go.Proofs.YtfchmbhbkhgfnaaDoor.EscPure Go.Proofs.YtfchmbhbkhgfnaaDoor.PFnEscapeParts
set_option linter.unusedVariables false
set_option linter.unusedSimpArgs false

/-- What the walk stands on: the tables of unicode/utf8 and the text's bytes, in blocks below base that are not the writer's. -/
structure Src (s : ByteArray) (b1 base g : Nat) (w0 : World) : Prop where
  tabs : Lib.Utf8Tabs 0 1 w0
  src : ReadsInt w0 .u8 (some ⟨b1, 0, none⟩) s.size (bytesOf s)
  g1 : 1 < g
  gb : b1 ≠ g
  b1b : b1 < base
  gl : g < base

theorem cell_same {W W' : World} {a : Addr} (h : W'.heap[a.block]? = W.heap[a.block]?) : W'.cell? a = W.cell? a := by
  unfold World.cell?
  rw [h]

theorem Wr.cell {w0 W : World} {base g : Nat} {xs : List Int} (h : Wr w0 base g xs W) {a : Addr} (h1 : a.block < base) (h2 : a.block ≠ g) : W.cell? a = w0.cell? a := by
  obtain ⟨v, _, _, _, _, _, _, _, h4⟩ := h
  exact cell_same (h4 _ h1 h2)

theorem Wr.below {w0 W W' : World} {base g : Nat} {xs : List Int} (h : Wr w0 base g xs W) (hb : Below W.heap.size W W') : Wr w0 base g xs W' := by
  obtain ⟨v, h1, h2, h3, h4, h5, h6, h7, h8⟩ := h
  exact ⟨v, blk_below h1 hb, pw_own_below h2 hb, Nat.le_trans h3 hb.size, h4, hb.os.trans h5, hb.tape.trans h6, hb.output.trans h7, fun i hi hne => (hb.block i (Nat.lt_of_lt_of_le hi h3)).trans (h8 i hi hne)⟩

section
variable {s : ByteArray} {b1 base g : Nat} {w0 W : World} {xs : List Int}
theorem Src.tabs_at (h : Src s b1 base g w0) (hw : Wr w0 base g xs W) : Lib.Utf8Tabs 0 1 W := by
  have hg := h.g1
  have hb := h.gl
  exact ⟨fun c hc => (hw.cell (a := ⟨0, c, none⟩) (by simp; omega) (by simp; omega)).trans (h.tabs.1 c hc), fun i hi => ⟨(hw.cell (a := ⟨1, 2 * i, none⟩) (by simp; omega) (by simp; omega)).trans (h.tabs.2 i hi).1, (hw.cell (a := ⟨1, 2 * i + 1, none⟩) (by simp; omega) (by simp; omega)).trans (h.tabs.2 i hi).2⟩⟩
theorem Src.src_at (h : Src s b1 base g w0) (hw : Wr w0 base g xs W) : ReadsInt W .u8 (some ⟨b1, 0, none⟩) s.size (bytesOf s) := by
  obtain ⟨h1, h2, h3⟩ := h.src
  refine ⟨h1, h2, fun hp => ?_⟩
  obtain ⟨ad, e, hc⟩ := h3 hp
  refine ⟨ad, e, fun j hj => ?_⟩
  injection e with e
  subst e
  exact (hw.cell (a := (⟨b1, 0, none⟩ : Addr).add j) (by rw [add_plain]; exact h.b1b) (by rw [add_plain]; exact h.gb)).trans (hc j hj)
end

theorem bytesOf_get (s : ByteArray) (k : Nat) : (bytesOf s).getD k 0 = ((s.get! k).toNat : Int) := by
  rw [← Lib.getD_get!']
  unfold bytesOf
  rw [List.getD_eq_getElem?_getD, List.getD_eq_getElem?_getD, List.getElem?_map]
  cases s.data.toList[k]? <;> rfl

theorem decode_call (s : ByteArray) (b1 i cap : Nat) (W : World) (hT : Lib.Utf8Tabs 0 1 W) (hr : ReadsInt W .u8 (some ⟨b1, 0, none⟩) s.size (bytesOf s)) (hi : i < s.size) :
    Calls Tryd.prog 24 #[.slice (some ⟨b1, i, none⟩) (s.size - i) cap] W fun e W' => e = .returned (.tuple #[.int .i32 (rune s i : Nat), .int .i64 (width s i : Nat)]) ∧ Below W.heap.size W W' := by
  have hsz : (s.extract i s.size).size = s.size - i := Lib.tail_size s i
  have hd : Lib.decodeGo (s.extract i s.size) = Utf8.decode s i := by
    unfold Lib.decodeGo
    rw [if_neg (by omega), Lib.tail_decode]
    rfl
  have := EscShelf.utf8_DecodeRune (s.extract i s.size) b1 i cap W hT (fun j hj => by
    rw [hsz] at hj
    obtain ⟨ad, e, hc⟩ := hr.2.2 (by omega)
    injection e with e
    subst e
    have h := hc (i + j) (by omega)
    rw [add_plain] at h
    rw [h, Lib.tail_get!, bytesOf_get])
  rw [hsz, hd] at this
  exact this

theorem info5 : (Tryd.prog.info? 5).map (fun i => (i.zero, i.size, i.bytes)) = some (some (.int .u8 0), 1, 1) := by kernel_rfl

theorem inRange_is (r : Nat) (W : World) (hr : r ≤ 1114111) : Calls Tryd.prog 25 #[.int .i32 (r : Int)] W fun e w' => e = .returned (.bool (isChar r)) ∧ Drawn0 W w' := by
  refine xml_isInCharacterRange.calls (r : Int) (isChar r) W ?_
  unfold xml_isInCharacterRange.f isChar
  have hd : decide ((r : Int) ≤ 1114111) = true := decide_eq_true (by omega)
  have e1 : ∀ a b : Nat, (a == b) = decide (a = b) := fun a b => by rw [Bool.eq_iff_iff]; simp
  simp only [hd, e1]
  repeat' split
  all_goals
    congr 1
    simp
    omega

theorem Wr.drew {w0 W : World} {base g : Nat} {xs : List Int} (h : Wr w0 base g xs W) : Wr w0 base g xs W.drew := h.below (below_drew (Below.refl _ _))
theorem nil_ahead (g : Nat) (w : World) : (nilAhead 198 31 (.pointer (some ⟨g, 0, none⟩)) "Write").run Tryd.prog w = .ok (some false) w := by kernel_rfl
theorem method_write (g : Nat) (w : World) : (method 198 31 (.pointer (some ⟨g, 0, none⟩)) "Write").run Tryd.prog w = .ok (63, .pointer (some ⟨g, 0, none⟩)) w := by kernel_rfl

theorem cut_is (b1 n c a b : Nat) (h1 : a ≤ b) (h2 : b ≤ n) (hc : n ≤ c) :
    ∃ A, (∀ W : World, (Instr.slice 32 (.slice (some ⟨b1, 0, none⟩) n c) (some (.int .i64 (a : Int))) (some (.int .i64 (b : Int))) none).run Tryd.prog W = .ok (.slice A (b - a) (c - a)) W) ∧
      ∀ (W : World) (xs : List Int), ReadsInt W .u8 (some ⟨b1, 0, none⟩) n xs → ReadsInt W .u8 A (b - a) ((xs.take b).drop a) := by
  obtain ⟨i0, hi, _, hsz, _⟩ := info_parts info5
  refine ⟨if c = a then some ⟨b1, 0, none⟩ else (some (⟨b1, 0, none⟩ : Addr)).map (·.add a), fun W => ?_, fun W xs h => ?_⟩
  · have := cut_mid (P := Tryd.prog) 32 5 .i64 .i64 Tryd.underlying32 hi 1 hsz (some ⟨b1, 0, none⟩) n c (a : Int) (b : Int) (by omega) (by omega) (by omega) hc W
    simpa using this
  · rcases Nat.eq_zero_or_pos (b - a) with h0 | h0
    · rw [h0]
      refine ⟨by rw [List.length_drop, List.length_take, h.1]; omega, by omega, fun hp => by omega⟩
    · obtain ⟨ad, e, hcell⟩ := h.2.2 (by omega)
      injection e with e
      subst e
      rw [if_neg (by omega)]
      refine ⟨by rw [List.length_drop, List.length_take, h.1]; omega, by have := h.2.1; omega, fun hp => ⟨_, rfl, fun j hj => ?_⟩⟩
      show W.cell? (((⟨b1, 0, none⟩ : Addr).add a).add j) = _
      rw [add_plain]
      have h5 := hcell (a + j) (by omega)
      rw [add_plain] at h5
      rw [show (⟨b1, a, none⟩ : Addr).add j = ⟨b1, a + j, none⟩ from by unfold Addr.add; split <;> simp_all, h5, List.getD_eq_getElem?_getD, List.getD_eq_getElem?_getD, List.getElem?_drop, List.getElem?_take, if_pos (by omega)]

theorem cut_end (b1 n c a : Nat) (h1 : a ≤ n) (hc : n ≤ c) :
    ∃ A, (∀ W : World, (Instr.slice 32 (.slice (some ⟨b1, 0, none⟩) n c) (some (.int .i64 (a : Int))) none none).run Tryd.prog W = .ok (.slice A (n - a) (c - a)) W) ∧
      ∀ (W : World) (xs : List Int), ReadsInt W .u8 (some ⟨b1, 0, none⟩) n xs → ReadsInt W .u8 A (n - a) (xs.drop a) := by
  obtain ⟨i0, hi, _, hsz, _⟩ := info_parts info5
  obtain ⟨A, hA, hB⟩ := print_cut (P := Tryd.prog) 32 5 .i64 Tryd.underlying32 hi hsz (some ⟨b1, 0, none⟩) n c a h1
  exact ⟨A, hA, fun W xs h => hB W .u8 xs hc h⟩

set_option maxHeartbeats 40000000 in
set_option maxRecDepth 100000 in
theorem escape_any (s : ByteArray) (b1 base g c : Nat) (w0 : World) (hs : s.size ≤ 1000000) (hc : s.size ≤ c) (h : Src s b1 base g w0) (hw : Wr w0 base g [] w0) :
    Calls Tryd.prog 13 #[.iface 31 (.pointer (some ⟨g, 0, none⟩)), .slice (some ⟨b1, 0, none⟩) s.size c, .bool true] w0 fun e W' => e = .returned .nilIface ∧ Wr w0 base g (nm (esc s)) W' := by
  have HS := Aside0.mk h
  have HW0 := Aside0.mk hw
  clear h hw
  go_enter Tryd.func13, Tryd.ntmps13
  go_wp2_with fail
  go_loopw [7, 8, 9] (fun v7 v8 v9 W => ∃ (i last : Nat) (es : ByteArray) (L : List UInt8), v9 = .int .i64 i ∧ v8 = .int .i64 last ∧ v7 = .string es ∧ Aside0 (last ≤ i ∧ i ≤ s.size ∧ Mid s L last i) ∧ Aside0 (Wr w0 base g (nm L) W)) (fun _ _ v9 _ => s.size - (intOf v9).toNat)
  case atStart => exact ⟨0, 0, _, [], rfl, rfl, rfl, ⟨Nat.le_refl _, Nat.zero_le _, Mid.start s⟩, HW0⟩
  case round =>
    obtain ⟨i, last, es, L, rfl, rfl, rfl, HI, HW⟩ := hrel
    have hli := HI.out.1
    have HM := Aside0.mk HI.out.2.2
    have hlast : last ≤ s.size := Nat.le_trans hli HI.out.2.1
    have hlen0 : (nm L).length + (i - last) ≤ 10000000 := by
      have h1 := HM.out.length
      rw [sub_length s last i hli HI.out.2.1] at h1
      rw [nm_length]
      omega
    have hp1 := nil_ahead g
    have hp2 := method_write g
    by_cases hi : i < s.size
    · clear HI
      go_wp2_with fail
      refine (decode_call s b1 i _ _ (HS.out.tabs_at HW.out) (HS.out.src_at HW.out) hi).mono ?_
      rintro e w1 ⟨rfl, hb⟩
      have HW1 := Aside0.mk (HW.out.below hb)
      clear hb HW
      have HW := HW1
      clear HW1
      have hwd := width_pos s i hi
      have hrl := rune_le s i
      generalize hr : rune s i = r at *
      generalize hn : width s i = n at *
      have HRN := Aside0.mk (And.intro hr hn)
      clear hr hn
      have hsum : ((i : Int) + (n : Int) - (n : Int)) = (i : Int) := by omega
      have hwr : IntKind.i64.wrap (i : Int) = (i : Int) := IntWalk.i64_in _ (by omega)
      obtain ⟨A1, hcut, hA1⟩ := cut_is b1 s.size c last i hli (by omega) hc
      have hlen : (nm L).length + (i - last) ≤ 140737488355328 := by omega
      by_cases h34 : r = 34
      · have q34 : ((r : Int) == 34) = true := beq_iff_eq.2 (by omega)
        have HE := Aside0.mk (show escOf r n = some [38, 35, 51, 52, 59] by unfold escOf; rw [if_pos h34])
        clear h34
        have HM2 := Aside0.mk (HM.out.put hi (e := [38, 35, 51, 52, 59]) (by rw [HRN.out.1, HRN.out.2]; exact HE.out))
        rw [HRN.out.2] at HM2
        have kb := fun W => print_bytes (P := Tryd.prog) 9 32 5 Tryd.underlying9 Tryd.underlying32 Tryd.underlying5 (⟨#[38, 35, 51, 52, 59]⟩ : ByteArray) W
        go_wp2_with fail
        go_region_with (go_at_call 63; with_reducible refine (write_any w0 base g (nm L) _ A1 (i - last) (c - last) _ (Wr.drew HW.out) (hA1 _ _ (HS.out.src_at (Wr.drew HW.out))) hlen).mono ?_; rintro e w2 ⟨rfl, hw2⟩; have HW2 := Aside0.mk hw2; clear hw2)
        go_wp2_with fail
        with_reducible refine (write_any w0 base g _ (bytesOf (⟨#[38, 35, 51, 52, 59]⟩ : ByteArray)) _ 5 _ _ (HW2.out.below (bytes_below (Below.refl _ _) (Nat.le_refl _) 5 _)) (bytes_reads _ 5 (⟨#[38, 35, 51, 52, 59]⟩ : ByteArray) (by decide)) ?_).mono ?_
        · rw [List.length_append, List.length_drop, List.length_take, bytesOf_length]; omega
        rintro e w3 ⟨rfl, hw3⟩
        have HW3 := Aside0.mk (show Wr w0 base g (nm (L ++ sub s last i ++ [38, 35, 51, 52, 59])) w3 by rw [nm_append, nm_append, ← nm_sub]; exact hw3)
        clear hw3 HW2 HW
        go_wp2_with fail
        go_roundw
        case rel => exact ⟨i + n, i + n, _, _, by go_num, by go_num, rfl, ⟨Nat.le_refl _, by omega, HM2.out⟩, HW3⟩
        case measure => simp [intOf]; omega
      have q34 : ((r : Int) == 34) = false := beq_eq_false_iff_ne.2 (by omega)
      by_cases h39 : r = 39
      · have q39 : ((r : Int) == 39) = true := beq_iff_eq.2 (by omega)
        have HE := Aside0.mk (show escOf r n = some [38, 35, 51, 57, 59] by unfold escOf; rw [if_neg h34, if_pos h39])
        clear h39
        have HM2 := Aside0.mk (HM.out.put hi (e := [38, 35, 51, 57, 59]) (by rw [HRN.out.1, HRN.out.2]; exact HE.out))
        rw [HRN.out.2] at HM2
        have kb := fun W => print_bytes (P := Tryd.prog) 9 32 5 Tryd.underlying9 Tryd.underlying32 Tryd.underlying5 (⟨#[38, 35, 51, 57, 59]⟩ : ByteArray) W
        go_wp2_with fail
        go_region_with (go_at_call 63; with_reducible refine (write_any w0 base g (nm L) _ A1 (i - last) (c - last) _ (Wr.drew HW.out) (hA1 _ _ (HS.out.src_at (Wr.drew HW.out))) hlen).mono ?_; rintro e w2 ⟨rfl, hw2⟩; have HW2 := Aside0.mk hw2; clear hw2)
        go_wp2_with fail
        with_reducible refine (write_any w0 base g _ (bytesOf (⟨#[38, 35, 51, 57, 59]⟩ : ByteArray)) _ 5 _ _ (HW2.out.below (bytes_below (Below.refl _ _) (Nat.le_refl _) 5 _)) (bytes_reads _ 5 (⟨#[38, 35, 51, 57, 59]⟩ : ByteArray) (by decide)) ?_).mono ?_
        · rw [List.length_append, List.length_drop, List.length_take, bytesOf_length]; omega
        rintro e w3 ⟨rfl, hw3⟩
        have HW3 := Aside0.mk (show Wr w0 base g (nm (L ++ sub s last i ++ [38, 35, 51, 57, 59])) w3 by rw [nm_append, nm_append, ← nm_sub]; exact hw3)
        clear hw3 HW2 HW
        go_wp2_with fail
        go_roundw
        case rel => exact ⟨i + n, i + n, _, _, by go_num, by go_num, rfl, ⟨Nat.le_refl _, by omega, HM2.out⟩, HW3⟩
        case measure => simp [intOf]; omega
      have q39 : ((r : Int) == 39) = false := beq_eq_false_iff_ne.2 (by omega)
      by_cases h38 : r = 38
      · have q38 : ((r : Int) == 38) = true := beq_iff_eq.2 (by omega)
        have HE := Aside0.mk (show escOf r n = some [38, 97, 109, 112, 59] by unfold escOf; rw [if_neg h34, if_neg h39, if_pos h38])
        clear h38
        have HM2 := Aside0.mk (HM.out.put hi (e := [38, 97, 109, 112, 59]) (by rw [HRN.out.1, HRN.out.2]; exact HE.out))
        rw [HRN.out.2] at HM2
        have kb := fun W => print_bytes (P := Tryd.prog) 9 32 5 Tryd.underlying9 Tryd.underlying32 Tryd.underlying5 (⟨#[38, 97, 109, 112, 59]⟩ : ByteArray) W
        go_wp2_with fail
        go_region_with (go_at_call 63; with_reducible refine (write_any w0 base g (nm L) _ A1 (i - last) (c - last) _ (Wr.drew HW.out) (hA1 _ _ (HS.out.src_at (Wr.drew HW.out))) hlen).mono ?_; rintro e w2 ⟨rfl, hw2⟩; have HW2 := Aside0.mk hw2; clear hw2)
        go_wp2_with fail
        with_reducible refine (write_any w0 base g _ (bytesOf (⟨#[38, 97, 109, 112, 59]⟩ : ByteArray)) _ 5 _ _ (HW2.out.below (bytes_below (Below.refl _ _) (Nat.le_refl _) 5 _)) (bytes_reads _ 5 (⟨#[38, 97, 109, 112, 59]⟩ : ByteArray) (by decide)) ?_).mono ?_
        · rw [List.length_append, List.length_drop, List.length_take, bytesOf_length]; omega
        rintro e w3 ⟨rfl, hw3⟩
        have HW3 := Aside0.mk (show Wr w0 base g (nm (L ++ sub s last i ++ [38, 97, 109, 112, 59])) w3 by rw [nm_append, nm_append, ← nm_sub]; exact hw3)
        clear hw3 HW2 HW
        go_wp2_with fail
        go_roundw
        case rel => exact ⟨i + n, i + n, _, _, by go_num, by go_num, rfl, ⟨Nat.le_refl _, by omega, HM2.out⟩, HW3⟩
        case measure => simp [intOf]; omega
      have q38 : ((r : Int) == 38) = false := beq_eq_false_iff_ne.2 (by omega)
      by_cases h60 : r = 60
      · have q60 : ((r : Int) == 60) = true := beq_iff_eq.2 (by omega)
        have HE := Aside0.mk (show escOf r n = some [38, 108, 116, 59] by unfold escOf; rw [if_neg h34, if_neg h39, if_neg h38, if_pos h60])
        clear h60
        have HM2 := Aside0.mk (HM.out.put hi (e := [38, 108, 116, 59]) (by rw [HRN.out.1, HRN.out.2]; exact HE.out))
        rw [HRN.out.2] at HM2
        have kb := fun W => print_bytes (P := Tryd.prog) 9 32 5 Tryd.underlying9 Tryd.underlying32 Tryd.underlying5 (⟨#[38, 108, 116, 59]⟩ : ByteArray) W
        go_wp2_with fail
        go_region_with (go_at_call 63; with_reducible refine (write_any w0 base g (nm L) _ A1 (i - last) (c - last) _ (Wr.drew HW.out) (hA1 _ _ (HS.out.src_at (Wr.drew HW.out))) hlen).mono ?_; rintro e w2 ⟨rfl, hw2⟩; have HW2 := Aside0.mk hw2; clear hw2)
        go_wp2_with fail
        with_reducible refine (write_any w0 base g _ (bytesOf (⟨#[38, 108, 116, 59]⟩ : ByteArray)) _ 4 _ _ (HW2.out.below (bytes_below (Below.refl _ _) (Nat.le_refl _) 5 _)) (bytes_reads _ 5 (⟨#[38, 108, 116, 59]⟩ : ByteArray) (by decide)) ?_).mono ?_
        · rw [List.length_append, List.length_drop, List.length_take, bytesOf_length]; omega
        rintro e w3 ⟨rfl, hw3⟩
        have HW3 := Aside0.mk (show Wr w0 base g (nm (L ++ sub s last i ++ [38, 108, 116, 59])) w3 by rw [nm_append, nm_append, ← nm_sub]; exact hw3)
        clear hw3 HW2 HW
        go_wp2_with fail
        go_roundw
        case rel => exact ⟨i + n, i + n, _, _, by go_num, by go_num, rfl, ⟨Nat.le_refl _, by omega, HM2.out⟩, HW3⟩
        case measure => simp [intOf]; omega
      have q60 : ((r : Int) == 60) = false := beq_eq_false_iff_ne.2 (by omega)
      by_cases h62 : r = 62
      · have q62 : ((r : Int) == 62) = true := beq_iff_eq.2 (by omega)
        have HE := Aside0.mk (show escOf r n = some [38, 103, 116, 59] by unfold escOf; rw [if_neg h34, if_neg h39, if_neg h38, if_neg h60, if_pos h62])
        clear h62
        have HM2 := Aside0.mk (HM.out.put hi (e := [38, 103, 116, 59]) (by rw [HRN.out.1, HRN.out.2]; exact HE.out))
        rw [HRN.out.2] at HM2
        have kb := fun W => print_bytes (P := Tryd.prog) 9 32 5 Tryd.underlying9 Tryd.underlying32 Tryd.underlying5 (⟨#[38, 103, 116, 59]⟩ : ByteArray) W
        go_wp2_with fail
        go_region_with (go_at_call 63; with_reducible refine (write_any w0 base g (nm L) _ A1 (i - last) (c - last) _ (Wr.drew HW.out) (hA1 _ _ (HS.out.src_at (Wr.drew HW.out))) hlen).mono ?_; rintro e w2 ⟨rfl, hw2⟩; have HW2 := Aside0.mk hw2; clear hw2)
        go_wp2_with fail
        with_reducible refine (write_any w0 base g _ (bytesOf (⟨#[38, 103, 116, 59]⟩ : ByteArray)) _ 4 _ _ (HW2.out.below (bytes_below (Below.refl _ _) (Nat.le_refl _) 5 _)) (bytes_reads _ 5 (⟨#[38, 103, 116, 59]⟩ : ByteArray) (by decide)) ?_).mono ?_
        · rw [List.length_append, List.length_drop, List.length_take, bytesOf_length]; omega
        rintro e w3 ⟨rfl, hw3⟩
        have HW3 := Aside0.mk (show Wr w0 base g (nm (L ++ sub s last i ++ [38, 103, 116, 59])) w3 by rw [nm_append, nm_append, ← nm_sub]; exact hw3)
        clear hw3 HW2 HW
        go_wp2_with fail
        go_roundw
        case rel => exact ⟨i + n, i + n, _, _, by go_num, by go_num, rfl, ⟨Nat.le_refl _, by omega, HM2.out⟩, HW3⟩
        case measure => simp [intOf]; omega
      have q62 : ((r : Int) == 62) = false := beq_eq_false_iff_ne.2 (by omega)
      by_cases h9 : r = 9
      · have q9 : ((r : Int) == 9) = true := beq_iff_eq.2 (by omega)
        have HE := Aside0.mk (show escOf r n = some [38, 35, 120, 57, 59] by unfold escOf; rw [if_neg h34, if_neg h39, if_neg h38, if_neg h60, if_neg h62, if_pos h9])
        clear h9
        have HM2 := Aside0.mk (HM.out.put hi (e := [38, 35, 120, 57, 59]) (by rw [HRN.out.1, HRN.out.2]; exact HE.out))
        rw [HRN.out.2] at HM2
        have kb := fun W => print_bytes (P := Tryd.prog) 9 32 5 Tryd.underlying9 Tryd.underlying32 Tryd.underlying5 (⟨#[38, 35, 120, 57, 59]⟩ : ByteArray) W
        go_wp2_with fail
        go_region_with (go_at_call 63; with_reducible refine (write_any w0 base g (nm L) _ A1 (i - last) (c - last) _ (Wr.drew HW.out) (hA1 _ _ (HS.out.src_at (Wr.drew HW.out))) hlen).mono ?_; rintro e w2 ⟨rfl, hw2⟩; have HW2 := Aside0.mk hw2; clear hw2)
        go_wp2_with fail
        with_reducible refine (write_any w0 base g _ (bytesOf (⟨#[38, 35, 120, 57, 59]⟩ : ByteArray)) _ 5 _ _ (HW2.out.below (bytes_below (Below.refl _ _) (Nat.le_refl _) 5 _)) (bytes_reads _ 5 (⟨#[38, 35, 120, 57, 59]⟩ : ByteArray) (by decide)) ?_).mono ?_
        · rw [List.length_append, List.length_drop, List.length_take, bytesOf_length]; omega
        rintro e w3 ⟨rfl, hw3⟩
        have HW3 := Aside0.mk (show Wr w0 base g (nm (L ++ sub s last i ++ [38, 35, 120, 57, 59])) w3 by rw [nm_append, nm_append, ← nm_sub]; exact hw3)
        clear hw3 HW2 HW
        go_wp2_with fail
        go_roundw
        case rel => exact ⟨i + n, i + n, _, _, by go_num, by go_num, rfl, ⟨Nat.le_refl _, by omega, HM2.out⟩, HW3⟩
        case measure => simp [intOf]; omega
      have q9 : ((r : Int) == 9) = false := beq_eq_false_iff_ne.2 (by omega)
      by_cases h10 : r = 10
      · have q10 : ((r : Int) == 10) = true := beq_iff_eq.2 (by omega)
        have HE := Aside0.mk (show escOf r n = some [38, 35, 120, 65, 59] by unfold escOf; rw [if_neg h34, if_neg h39, if_neg h38, if_neg h60, if_neg h62, if_neg h9, if_pos h10])
        clear h10
        have HM2 := Aside0.mk (HM.out.put hi (e := [38, 35, 120, 65, 59]) (by rw [HRN.out.1, HRN.out.2]; exact HE.out))
        rw [HRN.out.2] at HM2
        have kb := fun W => print_bytes (P := Tryd.prog) 9 32 5 Tryd.underlying9 Tryd.underlying32 Tryd.underlying5 (⟨#[38, 35, 120, 65, 59]⟩ : ByteArray) W
        go_wp2_with fail
        go_region_with (go_at_call 63; with_reducible refine (write_any w0 base g (nm L) _ A1 (i - last) (c - last) _ (Wr.drew HW.out) (hA1 _ _ (HS.out.src_at (Wr.drew HW.out))) hlen).mono ?_; rintro e w2 ⟨rfl, hw2⟩; have HW2 := Aside0.mk hw2; clear hw2)
        go_wp2_with fail
        with_reducible refine (write_any w0 base g _ (bytesOf (⟨#[38, 35, 120, 65, 59]⟩ : ByteArray)) _ 5 _ _ (HW2.out.below (bytes_below (Below.refl _ _) (Nat.le_refl _) 5 _)) (bytes_reads _ 5 (⟨#[38, 35, 120, 65, 59]⟩ : ByteArray) (by decide)) ?_).mono ?_
        · rw [List.length_append, List.length_drop, List.length_take, bytesOf_length]; omega
        rintro e w3 ⟨rfl, hw3⟩
        have HW3 := Aside0.mk (show Wr w0 base g (nm (L ++ sub s last i ++ [38, 35, 120, 65, 59])) w3 by rw [nm_append, nm_append, ← nm_sub]; exact hw3)
        clear hw3 HW2 HW
        go_wp2_with fail
        go_roundw
        case rel => exact ⟨i + n, i + n, _, _, by go_num, by go_num, rfl, ⟨Nat.le_refl _, by omega, HM2.out⟩, HW3⟩
        case measure => simp [intOf]; omega
      have q10 : ((r : Int) == 10) = false := beq_eq_false_iff_ne.2 (by omega)
      by_cases h13 : r = 13
      · have q13 : ((r : Int) == 13) = true := beq_iff_eq.2 (by omega)
        have HE := Aside0.mk (show escOf r n = some [38, 35, 120, 68, 59] by unfold escOf; rw [if_neg h34, if_neg h39, if_neg h38, if_neg h60, if_neg h62, if_neg h9, if_neg h10, if_pos h13])
        clear h13
        have HM2 := Aside0.mk (HM.out.put hi (e := [38, 35, 120, 68, 59]) (by rw [HRN.out.1, HRN.out.2]; exact HE.out))
        rw [HRN.out.2] at HM2
        have kb := fun W => print_bytes (P := Tryd.prog) 9 32 5 Tryd.underlying9 Tryd.underlying32 Tryd.underlying5 (⟨#[38, 35, 120, 68, 59]⟩ : ByteArray) W
        go_wp2_with fail
        go_region_with (go_at_call 63; with_reducible refine (write_any w0 base g (nm L) _ A1 (i - last) (c - last) _ (Wr.drew HW.out) (hA1 _ _ (HS.out.src_at (Wr.drew HW.out))) hlen).mono ?_; rintro e w2 ⟨rfl, hw2⟩; have HW2 := Aside0.mk hw2; clear hw2)
        go_wp2_with fail
        with_reducible refine (write_any w0 base g _ (bytesOf (⟨#[38, 35, 120, 68, 59]⟩ : ByteArray)) _ 5 _ _ (HW2.out.below (bytes_below (Below.refl _ _) (Nat.le_refl _) 5 _)) (bytes_reads _ 5 (⟨#[38, 35, 120, 68, 59]⟩ : ByteArray) (by decide)) ?_).mono ?_
        · rw [List.length_append, List.length_drop, List.length_take, bytesOf_length]; omega
        rintro e w3 ⟨rfl, hw3⟩
        have HW3 := Aside0.mk (show Wr w0 base g (nm (L ++ sub s last i ++ [38, 35, 120, 68, 59])) w3 by rw [nm_append, nm_append, ← nm_sub]; exact hw3)
        clear hw3 HW2 HW
        go_wp2_with fail
        go_roundw
        case rel => exact ⟨i + n, i + n, _, _, by go_num, by go_num, rfl, ⟨Nat.le_refl _, by omega, HM2.out⟩, HW3⟩
        case measure => simp [intOf]; omega
      have q13 : ((r : Int) == 13) = false := beq_eq_false_iff_ne.2 (by omega)
      cases hic : isChar r with
      | false =>
        have HE := Aside0.mk (show escOf r n = some [239, 191, 189] by unfold escOf; rw [if_neg h34, if_neg h39, if_neg h38, if_neg h60, if_neg h62, if_neg h9, if_neg h10, if_neg h13, if_pos (.inl hic)])
        go_wp2_with fail
        with_reducible refine (inRange_is r _ hrl).mono ?_
        rw [hic]
        clear hic
        rintro e w4 ⟨rfl, hd⟩
        have HW1 := Aside0.mk (HW.out.below hd.below)
        clear hd HW
        have HW := HW1
        clear HW1
        have HM2 := Aside0.mk (HM.out.put hi (e := [239, 191, 189]) (by rw [HRN.out.1, HRN.out.2]; exact HE.out))
        rw [HRN.out.2] at HM2
        have kb := fun W => print_bytes (P := Tryd.prog) 9 32 5 Tryd.underlying9 Tryd.underlying32 Tryd.underlying5 (⟨#[239, 191, 189]⟩ : ByteArray) W
        go_wp2_with fail
        go_region_with (go_at_call 63; with_reducible refine (write_any w0 base g (nm L) _ A1 (i - last) (c - last) _ (Wr.drew HW.out) (hA1 _ _ (HS.out.src_at (Wr.drew HW.out))) hlen).mono ?_; rintro e w2 ⟨rfl, hw2⟩; have HW2 := Aside0.mk hw2; clear hw2)
        go_wp2_with fail
        with_reducible refine (write_any w0 base g _ (bytesOf (⟨#[239, 191, 189]⟩ : ByteArray)) _ 3 _ _ (HW2.out.below (bytes_below (Below.refl _ _) (Nat.le_refl _) 5 _)) (bytes_reads _ 5 (⟨#[239, 191, 189]⟩ : ByteArray) (by decide)) ?_).mono ?_
        · rw [List.length_append, List.length_drop, List.length_take, bytesOf_length]; omega
        rintro e w3 ⟨rfl, hw3⟩
        have HW3 := Aside0.mk (show Wr w0 base g (nm (L ++ sub s last i ++ [239, 191, 189])) w3 by rw [nm_append, nm_append, ← nm_sub]; exact hw3)
        clear hw3 HW2 HW
        go_wp2_with fail
        go_roundw
        case rel => exact ⟨i + n, i + n, _, _, by go_num, by go_num, rfl, ⟨Nat.le_refl _, by omega, HM2.out⟩, HW3⟩
        case measure => simp [intOf]; omega
      | true =>
        by_cases hff : r = 65533 ∧ n = 1
        · have q1 : ((r : Int) == 65533) = true := beq_iff_eq.2 (by omega)
          have q2 : ((n : Int) == 1) = true := beq_iff_eq.2 (by omega)
          have HE := Aside0.mk (show escOf r n = some [239, 191, 189] by unfold escOf; rw [if_neg h34, if_neg h39, if_neg h38, if_neg h60, if_neg h62, if_neg h9, if_neg h10, if_neg h13, if_pos (.inr hff)])
          clear hff
          go_wp2_with fail
          with_reducible refine (inRange_is r _ hrl).mono ?_
          rw [hic]
          clear hic
          rintro e w4 ⟨rfl, hd⟩
          have HW1 := Aside0.mk (HW.out.below hd.below)
          clear hd HW
          have HW := HW1
          clear HW1
          have HM2 := Aside0.mk (HM.out.put hi (e := [239, 191, 189]) (by rw [HRN.out.1, HRN.out.2]; exact HE.out))
          rw [HRN.out.2] at HM2
          have kb := fun W => print_bytes (P := Tryd.prog) 9 32 5 Tryd.underlying9 Tryd.underlying32 Tryd.underlying5 (⟨#[239, 191, 189]⟩ : ByteArray) W
          go_wp2_with fail
          go_region_with (go_at_call 63; with_reducible refine (write_any w0 base g (nm L) _ A1 (i - last) (c - last) _ (Wr.drew HW.out) (hA1 _ _ (HS.out.src_at (Wr.drew HW.out))) hlen).mono ?_; rintro e w2 ⟨rfl, hw2⟩; have HW2 := Aside0.mk hw2; clear hw2)
          go_wp2_with fail
          with_reducible refine (write_any w0 base g _ (bytesOf (⟨#[239, 191, 189]⟩ : ByteArray)) _ 3 _ _ (HW2.out.below (bytes_below (Below.refl _ _) (Nat.le_refl _) 5 _)) (bytes_reads _ 5 (⟨#[239, 191, 189]⟩ : ByteArray) (by decide)) ?_).mono ?_
          · rw [List.length_append, List.length_drop, List.length_take, bytesOf_length]; omega
          rintro e w3 ⟨rfl, hw3⟩
          have HW3 := Aside0.mk (show Wr w0 base g (nm (L ++ sub s last i ++ [239, 191, 189])) w3 by rw [nm_append, nm_append, ← nm_sub]; exact hw3)
          clear hw3 HW2 HW
          go_wp2_with fail
          go_roundw
          case rel => exact ⟨i + n, i + n, _, _, by go_num, by go_num, rfl, ⟨Nat.le_refl _, by omega, HM2.out⟩, HW3⟩
          case measure => simp [intOf]; omega
        · have HE := Aside0.mk (show escOf r n = none by unfold escOf; rw [if_neg h34, if_neg h39, if_neg h38, if_neg h60, if_neg h62, if_neg h9, if_neg h10, if_neg h13, if_neg (by rw [hic]; simp only [Bool.true_eq_false, false_or]; exact hff)])
          have HM2 := Aside0.mk (HM.out.pass hli hi (by rw [HRN.out.1, HRN.out.2]; exact HE.out))
          rw [HRN.out.2] at HM2
          rcases (show (((r : Int) == 65533) = false) ∨ ((((r : Int) == 65533) = true) ∧ (((n : Int) == 1) = false)) by
              by_cases h1 : r = 65533
              · exact .inr ⟨beq_iff_eq.2 (by omega), beq_eq_false_iff_ne.2 (by omega)⟩
              · exact .inl (beq_eq_false_iff_ne.2 (by omega))) with q1 | ⟨q1, q2⟩
          all_goals
            clear hff
            go_wp2_with fail
            with_reducible refine (inRange_is r _ hrl).mono ?_
            rw [hic]
            clear hic
            rintro e w4 ⟨rfl, hd⟩
            have HW1 := Aside0.mk (HW.out.below hd.below)
            clear hd HW
            go_wp2_with fail
            go_roundw
            case rel => exact ⟨i + n, last, _, _, by go_num, rfl, rfl, ⟨by omega, by omega, HM2.out⟩, HW1⟩
            case measure => simp [intOf]; omega
    · have hie : i = s.size := by have := HI.out.2.1; omega
      subst hie
      clear HI hi
      obtain ⟨A1, hcut, hA1⟩ := cut_end b1 s.size c last hlast hc
      have hlen : (nm L).length + (s.size - last) ≤ 140737488355328 := by omega
      go_wp2_with fail
      go_region_with (go_at_call 63; with_reducible refine (write_any w0 base g (nm L) _ A1 (s.size - last) (c - last) _ (Wr.drew HW.out) (hA1 _ _ (HS.out.src_at (Wr.drew HW.out))) hlen).mono ?_; rintro e w2 ⟨rfl, hw2⟩; have HW2 := Aside0.mk hw2; clear hw2)
      go_wp2_with fail
      go_ret
      refine ⟨rfl, ?_⟩
      rw [← HM.out.done (Nat.le_refl _), nm_append, ← nm_sub, List.take_of_length_le (by rw [List.length_map, ← Lib.size_eq]; exact Nat.le_refl _)]
      exact HW2.out

end Go.Proofs.YtfchmbhbkhgfnaaDoor.Esc
