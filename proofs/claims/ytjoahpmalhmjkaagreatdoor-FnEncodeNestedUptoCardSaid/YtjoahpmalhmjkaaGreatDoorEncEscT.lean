/- What is proved here: escapeText over the printer writes no more than six bytes a byte, hands back no error, and keeps the encoder's state; conditions: those that each theorem names. -/
import Derived.Test.YtjoahpmalhmjkaaGreatDoorEncEscS
namespace Go.Proofs.YtjoahpmalhmjkaaGreatDoor.EncSt
open Go.RowKit Go.Proofs.YtjoahpmalhmjkaaGreatDoorW.PrintWords Go.Proofs.YtjoahpmalhmjkaaGreatDoorW.PrintLast Go.Proofs.YtjoahpmalhmjkaaGreatDoorW.PrintMore Go.Lib
open Go.Proofs.YtjoahpmalhmjkaaGreatDoor.EscPure Go.Proofs.YtjoahpmalhmjkaaGreatDoor.PFnEncodeNested
set_option linter.unusedVariables false
set_option linter.unusedSimpArgs false

section
variable {K : Nat → Prop} {w0 W W' : World} {q b p g T : Nat} {tags : List ByteArray} {np : Nat} {cl : Bool}

/-- New blocks are kept from here on. -/
theorem SA.fresh (h : SA K w0 q b p g T tags np cl W) {W1 : World} (hb : Below W.heap.size W W1) : SA (fun i => K i ∨ (W.heap.size ≤ i ∧ i < W1.heap.size)) W1 q b p g T tags np cl W1 := by
  obtain ⟨t, h1, k, n, va, vp, vt, hk, h⟩ := h
  obtain ⟨xs, hxs, ho⟩ := h.qo
  obtain ⟨ys, hy, hbb⟩ := h.bb
  have hs := h.ks.size
  have hs2 := hb.size
  refine ⟨t, h1, k, n, va, vp, vt, hk, (h.below hb).rebase _ (fun i hi => ?_)⟩
  rcases hi with hi | ⟨hi1, hi2⟩
  · have h1 := h.ks.lt i hi
    have h2 := h.ks.off i hi
    refine ⟨by omega, h2.1, h2.2.1, h2.2.2.1, h2.2.2.2, fun e => (h.qk i e).1 hi, fun e => h.pk i e hi, fun e => h.tk i e hi⟩
  · have h1 := blk_lt h.qb
    have h2 := blk_lt hbb
    have h3 := blk_lt h.pb
    have h4 := blk_lt h.gb
    refine ⟨hi2, by omega, by omega, by omega, by omega, fun e => ?_, fun e => ?_, fun e => ?_⟩
    · have := own_lt ho _ e
      omega
    · have := own_lt h.po _ e
      omega
    · have := own_lt h.tg _ e
      omega

theorem sa_new_bytes (h : SA K w0 q b p g T tags np false W) {W1 : World} (hb : Below W.heap.size W W1) {x m c : Nat} {ys : List Int} (hr : ReadsInt W1 .u8 (some ⟨x, 0, none⟩) m ys) (hx1 : W.heap.size ≤ x) (hx2 : x < W1.heap.size) (hc : m ≤ c) (hl : T + m ≤ 70368744177664) :
    Calls Tryz.prog 40 #[.pointer (some ⟨g, 0, none⟩), .slice (some ⟨x, 0, none⟩) m c] W1 fun e W' => ∃ x : Int, e = .returned (.tuple #[.int .i64 x, .nilIface]) ∧ SA K w0 q b p g (T + m) tags np false W' := by
  refine (sa_bytes (h.fresh hb) ⟨hc, ys, hr, fun ad e _ => ?_⟩ hl).mono ?_
  · injection e with e
    subst e
    exact .inr ⟨hx1, hx2⟩
  · rintro e W' ⟨y, rfl, h'⟩
    exact ⟨y, rfl, h'.back (h.below hb).ks⟩

/-- The bytes of the text s at block b1, kept. -/
structure SrcS (K : Nat → Prop) (w0 : World) (s : ByteArray) (b1 c : Nat) : Prop where
  k : K b1
  le : s.size ≤ c
  src : ReadsInt w0 .u8 (some ⟨b1, 0, none⟩) s.size (bytesOf s)

theorem SrcS.at_ {s : ByteArray} {b1 c : Nat} (hs : SrcS K w0 s b1 c) (h : Keeps K w0 q b p g W) : ReadsInt W .u8 (some ⟨b1, 0, none⟩) s.size (bytesOf s) := by
  refine ⟨hs.src.1, hs.src.2.1, fun h0 => ?_⟩
  obtain ⟨ad, e, hc⟩ := hs.src.2.2 h0
  refine ⟨ad, e, fun j hj => ?_⟩
  injection e with e
  subst e
  rw [h.cell (a := (⟨b1, 0, none⟩ : Addr).add j) (by rw [add_plain]; exact hs.k)]
  exact hc j hj

theorem SrcS.cut {s : ByteArray} {b1 c : Nat} (hs : SrcS K w0 s b1 c) (x y : Nat) (h1 : x ≤ y) (h2 : y ≤ s.size) :
    ∃ A, (∀ W : World, (Instr.slice 41 (.slice (some ⟨b1, 0, none⟩) s.size c) (some (.int .i64 (x : Int))) (some (.int .i64 (y : Int))) none).run Tryz.prog W = .ok (.slice A (y - x) (c - x)) W) ∧ Src K w0 A (y - x) (c - x) := by
  obtain ⟨i0, hi, _, hsz, _⟩ := info_parts info5
  have hle := hs.le
  refine ⟨if c = x then some ⟨b1, 0, none⟩ else (some (⟨b1, 0, none⟩ : Addr)).map (·.add x), fun W => ?_, by omega, ((bytesOf s).take y).drop x, ?_, fun ad e h0 => ?_⟩
  · have := cut_mid (P := Tryz.prog) 41 5 .i64 .i64 Tryz.underlying41 hi 1 hsz (some ⟨b1, 0, none⟩) s.size c (x : Int) (y : Int) (by omega) (by omega) (by omega) hle W
    simpa using this
  · exact (hs.src.take_ y h2).drop_ (c := c) x h1 (by omega)
  · rw [if_neg (by omega)] at e
    injection e with e
    subst e
    show K ((⟨b1, 0, none⟩ : Addr).add x).block
    rw [add_plain]
    exact hs.k

theorem SrcS.cut_end {s : ByteArray} {b1 c : Nat} (hs : SrcS K w0 s b1 c) (x : Nat) (h1 : x ≤ s.size) :
    ∃ A, (∀ W : World, (Instr.slice 41 (.slice (some ⟨b1, 0, none⟩) s.size c) (some (.int .i64 (x : Int))) none none).run Tryz.prog W = .ok (.slice A (s.size - x) (c - x)) W) ∧ Src K w0 A (s.size - x) (c - x) :=
  Src.cut (⟨hs.le, _, hs.src, fun ad e _ => by injection e with e; subst e; exact hs.k⟩) x h1

theorem bytesOf_get (s : ByteArray) (k : Nat) : (bytesOf s).getD k 0 = ((s.get! k).toNat : Int) := by
  rw [← Lib.getD_get!']
  unfold bytesOf
  rw [List.getD_eq_getElem?_getD, List.getD_eq_getElem?_getD, List.getElem?_map]
  cases s.data.toList[k]? <;> rfl

theorem decode_call (s : ByteArray) (b1 i cap : Nat) (W : World) (hT : Lib.Utf8Tabs 3 4 W) (hr : ReadsInt W .u8 (some ⟨b1, 0, none⟩) s.size (bytesOf s)) (hi : i < s.size) :
    Calls Tryz.prog 61 #[.slice (some ⟨b1, i, none⟩) (s.size - i) cap] W fun e W' => e = .returned (.tuple #[.int .i32 (rune s i : Nat), .int .i64 (width s i : Nat)]) ∧ Below W.heap.size W W' := by
  have hsz : (s.extract i s.size).size = s.size - i := Lib.tail_size s i
  have hd : Lib.decodeGo (s.extract i s.size) = Utf8.decode s i := by
    unfold Lib.decodeGo
    rw [if_neg (by omega), Lib.tail_decode]
    rfl
  have := EncShelf.utf8_DecodeRune (s.extract i s.size) b1 i cap W hT (fun j hj => by
    rw [hsz] at hj
    obtain ⟨ad, e, hc⟩ := hr.2.2 (by omega)
    injection e with e
    subst e
    have h := hc (i + j) (by omega)
    rw [add_plain] at h
    rw [h, Lib.tail_get!, bytesOf_get])
  rw [hsz, hd] at this
  exact this

theorem sa_conv (h : SA K w0 q b p g T tags np false W) (e : ByteArray) {m c : Nat} (hm : e.size = m) (hc : m ≤ c) (hl : T + m ≤ 70368744177664) :
    Calls Tryz.prog 40 #[.pointer (some ⟨g, 0, none⟩), .slice (some ⟨W.heap.size, 0, none⟩) m c] (Lib.bytesWorld W 5 e) fun x W' => ∃ y : Int, x = .returned (.tuple #[.int .i64 y, .nilIface]) ∧ SA K w0 q b p g (T + m) tags np false W' := by
  subst hm
  exact sa_new_bytes h (bytes_below (Below.refl _ _) (Nat.le_refl _) 5 e) (bytes_reads W 5 e (by omega)) (Nat.le_refl _) (by rw [Lib.bytesWorld_size]; omega) hc hl

theorem nil_ahead_p (g : Nat) (w : World) : (nilAhead 348 96 (.pointer (some ⟨g, 0, none⟩)) "Write").run Tryz.prog w = .ok (some false) w := by kernel_rfl
theorem method_write_p (g : Nat) (w : World) : (method 348 96 (.pointer (some ⟨g, 0, none⟩)) "Write").run Tryz.prog w = .ok (40, .pointer (some ⟨g, 0, none⟩)) w := by kernel_rfl

set_option maxHeartbeats 40000000 in
set_option maxRecDepth 100000 in
theorem esct_any (h : SA K w0 q b p g T tags np false W) (G : Glob K w0) (s : ByteArray) (b1 c : Nat) (hs : SrcS K w0 s b1 c) (hl : T + 6 * s.size ≤ 70368744177664) :
    Calls Tryz.prog 36 #[.iface 96 (.pointer (some ⟨g, 0, none⟩)), .slice (some ⟨b1, 0, none⟩) s.size c, .bool false] W fun e W' => e = .returned .nilIface ∧ SA K w0 q b p g (T + 6 * s.size) tags np false W' := by
  have H := Aside0.mk h
  have HG := Aside0.mk G
  have HS := Aside0.mk hs
  clear h G hs
  have hp1 := nil_ahead_p g
  have hp2 := method_write_p g
  go_enter Tryz.func36, Tryz.ntmps36
  go_wp2_with fail
  go_loopw [7, 8, 9] (fun v4 v5 v6 W1 => ∃ (i last : Nat) (es : ByteArray), v6 = .int .i64 i ∧ v5 = .int .i64 last ∧ v4 = .string es ∧ Aside0 (last ≤ i ∧ i ≤ s.size) ∧ Aside0 (SA K w0 q b p g (T + 5 * i + last) tags np false W1)) (fun _ _ v6 _ => s.size - (intOf v6).toNat)
  case atStart => exact ⟨0, 0, _, rfl, rfl, rfl, ⟨Nat.le_refl _, Nat.zero_le _⟩, H⟩
  case round =>
    obtain ⟨i, last, es, rfl, rfl, rfl, HI, HW⟩ := hrel
    have hli := HI.out.1
    have his := HI.out.2
    have hle := HS.out.le
    by_cases hi : i < s.size
    · obtain ⟨A1, hcut, hA1⟩ := HS.out.cut last i hli his
      have HA1 := Aside0.mk hA1
      clear hA1
      go_wp2_with fail
      refine (decode_call s b1 i _ _ (HG.out.tabs_at HW.out.ks) (HS.out.at_ HW.out.ks) hi).mono ?_
      rintro e w1 ⟨rfl, hb⟩
      have HW1 := Aside0.mk (HW.out.below hb)
      clear hb HW
      have HW := HW1
      clear HW1
      have hwd := width_pos s i hi
      have hrl := EscPure.rune_le s i
      generalize rune s i = r at hrl ⊢
      generalize width s i = n at hwd ⊢
      have hsum : ((i : Int) + (n : Int) - (n : Int)) = (i : Int) := by omega
      have hwr : IntKind.i64.wrap (i : Int) = (i : Int) := IntWalk.i64_in _ (by omega)
      have kb := fun (e : ByteArray) (W : World) => print_bytes (P := Tryz.prog) 9 41 5 Tryz.underlying9 Tryz.underlying41 Tryz.underlying5 e W
      go_wp2_with (go_at_call 62; with_reducible refine (inRange_is r _ hrl).mono ?_; rintro e w4 ⟨rfl, hd⟩; have HW2 := Aside0.mk (HW.out.drawn hd); clear hd)
      all_goals first
        | (have HD := Aside0.mk HW2.out.drew
           go_region_with (go_at_call 40; with_reducible refine (sa_bytes HD.out HA1.out (by omega)).mono ?_; rintro e w5 ⟨_, rfl, hw5⟩; have HW5 := Aside0.mk hw5; clear hw5))
        | (have HD := Aside0.mk HW.out.drew
           go_region_with (go_at_call 40; with_reducible refine (sa_bytes HD.out HA1.out (by omega)).mono ?_; rintro e w5 ⟨_, rfl, hw5⟩; have HW5 := Aside0.mk hw5; clear hw5))
        | skip
      all_goals first
        | (go_wp2_with fail
           with_reducible refine (sa_conv HW5.out _ ?_ ?_ ?_).mono ?_
           · rfl
           · exact grownCap_ge _ _ _ _
           · omega
           rintro e w6 ⟨_, rfl, hw6⟩
           have HW6 := Aside0.mk (hw6.mono (show _ ≤ T + 5 * (i + n) + (i + n) by omega))
           clear hw6
           go_wp2_with fail
           go_roundw
           case rel =>
             go_light
             exact ⟨i + n, i + n, _, by go_num, by go_num, rfl, ⟨Nat.le_refl _, by omega⟩, HW6⟩
           case measure =>
             go_light
             simp [intOf]
             omega)
        | (have HW7 := Aside0.mk (HW2.out.mono (show _ ≤ T + 5 * (i + n) + last by omega))
           go_roundw
           case rel =>
             go_light
             exact ⟨i + n, last, _, by go_num, rfl, rfl, ⟨by omega, by omega⟩, HW7⟩
           case measure =>
             go_light
             simp [intOf]
             omega)
        | (have HW7 := Aside0.mk (HW.out.mono (show _ ≤ T + 5 * (i + n) + last by omega))
           go_roundw
           case rel =>
             go_light
             exact ⟨i + n, last, _, by go_num, rfl, rfl, ⟨by omega, by omega⟩, HW7⟩
           case measure =>
             go_light
             simp [intOf]
             omega)
    · obtain ⟨A1, hcut, hA1⟩ := HS.out.cut_end last (by omega)
      have HA1 := Aside0.mk hA1
      have HD := Aside0.mk HW.out.drew
      clear hA1
      go_wp2_with fail
      go_region_with (go_at_call 40; with_reducible refine (sa_bytes HD.out HA1.out (by omega)).mono ?_; rintro e w5 ⟨_, rfl, hw5⟩; have HW5 := Aside0.mk hw5; clear hw5)
      all_goals go_wp2_with fail
      all_goals go_ret
      all_goals exact ⟨rfl, HW5.out.mono (by omega)⟩

end
end Go.Proofs.YtjoahpmalhmjkaaGreatDoor.EncSt
