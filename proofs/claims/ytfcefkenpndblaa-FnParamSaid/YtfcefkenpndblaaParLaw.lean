/- What is proved here: the call of the statement on pseudo-attributes returns true, at every two slices that can be read; no other condition. -/
import Derived.Test.YtfcefkenpndblaaParPure
import Derived.Test.YtfcefkenpndblaaParB
import Derived.RegionTactic
namespace Go.Proofs.Ytfcefkenpndblaa.ParLaw
open Go.RowKit Go.Proofs.YtfcefkenpndblaaW.PrintWords Go.Proofs.YtfcefkenpndblaaW.PrintLast Go.Proofs.YtfcefkenpndblaaW.PrintMore Go.Proofs.Ytfcefkenpndblaa.PFnParam Go.Proofs.Ytfcefkenpndblaa.ParA Go.Proofs.Ytfcefkenpndblaa.ParB Go.Proofs.Ytfcefkenpndblaa.ParPure
set_option linter.unusedVariables false
set_option linter.unusedSimpArgs false

/-- The thin package's Param, at a text of which enough is known. -/
theorem param_any (p : Nat) (hp : p < 3) (z : Bool) (f s : ByteArray) (hs : s.size ≤ 1000000000000) (h : Known p z f s.data.toList) (W : World) :
    Calls Try.prog 13 #[.string (nameOf p), .string s] W fun e w' => e = .returned (.string f) ∧ Drawn0 W w' := by
  have hn := nameOf_size p
  refine impl_any _ _ _ _ ?_
  rcases search p hp z f s hs h with ⟨⟨k, hk⟩, rfl⟩ | ⟨k, m, j, q, h1, h2, h3, h4, h5, h6, h7⟩
  · by_cases h0 : 0 < s.size
    · exact proc_none k _ s W (by omega) h0 hs hk
    · exact proc_zero _ s W (by omega) (by omega)
  · rw [← h7]
    rcases h3 with rfl | rfl
    · exact proc_found34 k _ s m j W (by omega) hs h1 h2 h4 h5 h6
    · exact proc_found39 k _ s m j W (by omega) hs h1 h2 h4 h5 h6

theorem pseudo_any (p : Nat) (hp : p < 3) (W : World) : Calls Try.prog 14 #[.int .i64 (p : Int)] W fun e w' => e = .returned (.string (nameOf p)) ∧ Below W.heap.size W w' := by
  refine spec_Pseudo.calls (p : Int) (nameOf p) W ?_
  unfold spec_Pseudo.f
  rw [(pseudo_is (p : Int) p hp ?_).2]
  · rfl
  · obtain rfl | rfl | rfl : p = 0 ∨ p = 1 ∨ p = 2 := by omega
    all_goals
      rw [show ∀ x : Int, -10 ≤ x → x ≤ 10 → wrap64 x = x from fun x h0 h1 => wr (by omega) (by omega)] <;> decide

theorem pseudo0 (W : World) : Calls Try.prog 14 #[.int .i64 0] W fun e w' => e = .returned (.string (nameOf 0)) ∧ Below W.heap.size W w' := pseudo_any 0 (by omega) W
theorem pseudo1 (W : World) : Calls Try.prog 14 #[.int .i64 1] W fun e w' => e = .returned (.string (nameOf 1)) ∧ Below W.heap.size W w' := pseudo_any 1 (by omega) W
theorem pseudo2 (W : World) : Calls Try.prog 14 #[.int .i64 2] W fun e w' => e = .returned (.string (nameOf 2)) ∧ Below W.heap.size W w' := pseudo_any 2 (by omega) W

theorem idx0 (a b c : ByteArray) (W : World) : (Instr.index 27 (.agg #[.string a, .string b, .string c]) (.int .i64 0)).run Try.prog W = .ok (.string a) W := by kernel_rfl
theorem idx1 (a b c : ByteArray) (W : World) : (Instr.index 27 (.agg #[.string a, .string b, .string c]) (.int .i64 1)).run Try.prog W = .ok (.string b) W := by kernel_rfl
theorem idx2 (a b c : ByteArray) (W : World) : (Instr.index 27 (.agg #[.string a, .string b, .string c]) (.int .i64 2)).run Try.prog W = .ok (.string c) W := by kernel_rfl

/-- Every value fits, or the look says no. -/
theorem fits_tells (vs : List ByteArray) (hl : vs.length ≤ 2147483647) : (∃ k, laws_zzFits3.f k vs = some false) ∨ (∃ k, laws_zzFits3.f k vs = some true) ∧ ∀ v ∈ vs, v.size ≤ 2147483647 := by
  have key : ∀ (f i : Nat), vs.length - i ≤ f → i ≤ vs.length → (∃ k, laws_zzFits3.l0 k vs (vs.length : Int) (i : Int) = some false) ∨ (∃ k, laws_zzFits3.l0 k vs (vs.length : Int) (i : Int) = some true) ∧ ∀ j, i ≤ j → ∀ h : j < vs.length, (vs[j]'h).size ≤ 2147483647 := by
    have hend : ∃ k, laws_zzFits3.l0 k vs (vs.length : Int) (vs.length : Int) = some true := by
      refine ⟨1, ?_⟩
      simp only [laws_zzFits3.l0]
      rw [if_neg (by omega)]
    intro f
    induction f with
    | zero =>
      intro i h1 h2
      obtain rfl : i = vs.length := by omega
      exact .inr ⟨hend, fun j h3 h4 => by omega⟩
    | succ f ih =>
      intro i h1 h2
      by_cases e : i = vs.length
      · subst e
        exact .inr ⟨hend, fun j h3 h4 => by omega⟩
      have hi : i < vs.length := by omega
      have hrd : rdOf ByteArray.empty vs (i : Int) = vs[i]'hi := by
        unfold rdOf
        rw [Int.toNat_natCast, List.getD_eq_getElem?_getD, List.getElem?_eq_getElem hi]
        rfl
      by_cases hz : (vs[i]'hi).size ≤ 2147483647
      · have hstep : ∀ k, laws_zzFits3.l0 (k + 1) vs (vs.length : Int) (i : Int) = laws_zzFits3.l0 k vs (vs.length : Int) ((i + 1 : Nat) : Int) := by
          intro k
          simp only [laws_zzFits3.l0]
          rw [if_pos (by omega), if_pos (by omega), if_pos (by omega), hrd, if_neg (by omega), wr (by omega) (by omega)]
          rfl
        rcases ih (i + 1) (by omega) (by omega) with ⟨k, h⟩ | ⟨⟨k, h⟩, h'⟩
        · exact .inl ⟨k + 1, (hstep k).trans h⟩
        · refine .inr ⟨⟨k + 1, (hstep k).trans h⟩, fun j h3 h4 => ?_⟩
          by_cases e2 : j = i
          · subst e2
            exact hz
          · exact h' j (by omega) h4
      · refine .inl ⟨1, ?_⟩
        simp only [laws_zzFits3.l0]
        rw [if_pos (by omega), if_pos (by omega), if_pos (by omega), hrd, if_pos (by omega)]
  have e : ∀ k, laws_zzFits3.f k vs = laws_zzFits3.l0 k vs (vs.length : Int) ((0 : Nat) : Int) := fun k => if_neg (by omega)
  simp only [e]
  rcases key vs.length 0 (by omega) (by omega) with h | ⟨h, h'⟩
  · exact .inl h
  · refine .inr ⟨h, fun v hv => ?_⟩
    obtain ⟨j, hj, rfl⟩ := List.getElem_of_mem hv
    exact h' j (Nat.zero_le _) hj

theorem fits_no (vs : List ByteArray) (hl : 2147483647 < vs.length) : laws_zzFits3.f 0 vs = some false := by
  unfold laws_zzFits3.f
  rw [if_pos (by omega)]

/-- The example in the statement itself. -/
theorem known_one : Known 0 true ⟨#[49]⟩ (⟨#[118, 101, 114, 115, 105, 111, 110, 61, 34, 49, 34]⟩ : ByteArray).data.toList :=
  ⟨fun h => (by cases h), fun _ => ⟨[], [], 34, rfl, (((NoKey.nil _).append (init_eq 0)).append (X := [lastOf 0]) (by decide)), .inl rfl, by decide, by decide, by decide⟩⟩

set_option maxHeartbeats 3200000 in
theorem law (A0 A1 : Option Addr) (c0 c1 : Nat) (ns : List Int) (vs : List ByteArray) (w : World)
    (hn : Kd.C (Kd.int .i64) w A0 ns.length ns) (hv : Kd.C Kd.string w A1 vs.length vs) (hc0 : ns.length ≤ c0) (hc1 : vs.length ≤ c1) :
    Calls Try.prog 5 #[.slice A0 ns.length c0, .slice A1 vs.length c1] w fun e w' => e = .returned (.bool true) ∧ Below w.heap.size w w' := by
  have HN := Aside0.mk hn
  have HV := Aside0.mk hv
  have HC1 := Aside0.mk hc1
  have hl0 := hn.2.1
  have hl1 := hv.2.1
  clear hn hv hc0 hc1
  by_cases h1 : 2147483647 < ns.length
  · go_enter Try.func5, Try.ntmps5
    go_wp2_with fail
    go_ret
    exact ⟨rfl, Below.refl _ _⟩
  · rcases (show (∃ k, laws_zzFits3.f k vs = some false) ∨ ((∃ k, laws_zzFits3.f k vs = some true) ∧ ∀ v ∈ vs, v.size ≤ 2147483647) by
      by_cases h2 : 2147483647 < vs.length
      · exact .inl ⟨0, fits_no vs h2⟩
      · exact fits_tells vs (by omega)) with ⟨k, hk⟩ | ⟨⟨k, hk⟩, hsz⟩
    · have HK := Aside0.mk hk
      clear hk
      have hd1 : decide (2147483647 < ns.length) = false := decide_eq_false h1
      go_enter Try.func5, Try.ntmps5
      go_wp2_with fail
      refine (laws_zzFits3.calls k A1 c1 vs false _ HV.out HC1.out HK.out).mono ?_
      rintro e w1 ⟨rfl, hd⟩
      go_wp2_with fail
      go_ret
      exact ⟨rfl, hd.below⟩
    · have HK := Aside0.mk hk
      have HSZ := Aside0.mk hsz
      clear hk hsz
      have hd1 : decide (2147483647 < ns.length) = false := decide_eq_false h1
      by_cases h3 : 100 < ns.length
      · go_enter Try.func5, Try.ntmps5
        go_wp2_with fail
        refine (laws_zzFits3.calls k A1 c1 vs true _ HV.out HC1.out HK.out).mono ?_
        rintro e w1 ⟨rfl, hd⟩
        have HD := Aside0.mk hd.below
        clear hd
        go_wp2_with fail
        go_ret
        exact ⟨rfl, HD.out⟩
      · have hd3 : decide (100 < ns.length) = false := decide_eq_false h3
        by_cases h4 : 100 < vs.length
        · go_enter Try.func5, Try.ntmps5
          go_wp2_with fail
          refine (laws_zzFits3.calls k A1 c1 vs true _ HV.out HC1.out HK.out).mono ?_
          rintro e w1 ⟨rfl, hd⟩
          have HD := Aside0.mk hd.below
          clear hd
          go_wp2_with fail
          go_ret
          exact ⟨rfl, HD.out⟩
        · have hd4 : decide (100 < vs.length) = false := decide_eq_false h4
          go_enter Try.func5, Try.ntmps5
          go_wp2_with fail
          refine (laws_zzFits3.calls k A1 c1 vs true _ HV.out HC1.out HK.out).mono ?_
          rintro e w1 ⟨rfl, hd⟩
          have HD := Aside0.mk hd.below
          clear hd
          go_wp2_with fail
          refine (decl_any A0 A1 c0 c1 ns vs w1 (Kd.C_below HN.out HD.out) (Kd.C_below HV.out HD.out) HSZ.out (by omega)).mono ?_
          rintro e w2 ⟨S, a, b, c, ok, rfl, hb, hok⟩
          have HB := Aside0.mk (below_step HD.out hb)
          clear hb HD
          cases ok with
          | false =>
            clear hok
            go_wp2_with fail
            go_ret
            exact ⟨rfl, below_alloc HB.out _⟩
          | true =>
            obtain ⟨hg, hS, ha, hb, hc⟩ := hok rfl
            have hss := run_size ns vs HSZ.out ns.length
            obtain ⟨K0, K1, K2⟩ := known ns vs ns.length hg
            rw [← hS, ← ha] at K0
            rw [← hS, ← hb] at K1
            rw [← hS, ← hc] at K2
            rw [← hS] at hss
            have hss1 : S.size ≤ 1000000000000 := by omega
            have P0 := Aside0.mk (param_any 0 (by omega) _ _ S hss1 K0)
            have P1 := Aside0.mk (param_any 1 (by omega) _ _ S hss1 K1)
            have P2 := Aside0.mk (param_any 2 (by omega) _ _ S hss1 K2)
            clear hok hg hS ha hb hc hss K0 K1 K2 hss1 HN HV HSZ HK
            have q0 := idx0 a b c
            have q1 := idx1 a b c
            have q2 := idx2 a b c
            go_wp2_with fail
            go_loopw [36] (fun v36 W => ∃ i : Nat, v36 = .int .i64 i ∧ Aside0 (i ≤ 3) ∧ Aside0 (Below w.heap.size w W)) (fun v36 _ => 3 - (intOf v36).toNat)
            case atStart => exact ⟨0, rfl, ⟨by omega⟩, ⟨below_alloc HB.out _⟩⟩
            case round =>
              obtain ⟨i, rfl, HI, HW⟩ := hrel
              clear HB
              obtain rfl | rfl | rfl | rfl : i = 0 ∨ i = 1 ∨ i = 2 ∨ i = 3 := by have := HI.out; omega
              · go_wp2_with fail
                with_reducible refine (pseudo0 _).mono ?_
                rintro e w3 ⟨rfl, hb3⟩
                have HW1 := Aside0.mk (below_step HW.out hb3)
                clear hb3 HW
                go_wp2_with fail
                refine (P0.out _).mono ?_
                rintro e w4 ⟨rfl, hd⟩
                have HW2 := Aside0.mk (below_step HW1.out hd.below)
                clear hd HW1
                go_wp2_with fail
                go_roundw
                case rel => exact ⟨1, by go_num, ⟨by omega⟩, HW2⟩
                case measure => simp [intOf]
              · go_wp2_with fail
                with_reducible refine (pseudo1 _).mono ?_
                rintro e w3 ⟨rfl, hb3⟩
                have HW1 := Aside0.mk (below_step HW.out hb3)
                clear hb3 HW
                go_wp2_with fail
                refine (P1.out _).mono ?_
                rintro e w4 ⟨rfl, hd⟩
                have HW2 := Aside0.mk (below_step HW1.out hd.below)
                clear hd HW1
                go_wp2_with fail
                go_roundw
                case rel => exact ⟨2, by go_num, ⟨by omega⟩, HW2⟩
                case measure => simp [intOf]
              · go_wp2_with fail
                with_reducible refine (pseudo2 _).mono ?_
                rintro e w3 ⟨rfl, hb3⟩
                have HW1 := Aside0.mk (below_step HW.out hb3)
                clear hb3 HW
                go_wp2_with fail
                refine (P2.out _).mono ?_
                rintro e w4 ⟨rfl, hd⟩
                have HW2 := Aside0.mk (below_step HW1.out hd.below)
                clear hd HW1
                go_wp2_with fail
                go_roundw
                case rel => exact ⟨3, by go_num, ⟨by omega⟩, HW2⟩
                case measure => simp [intOf]
              · go_wp2_with fail
                refine (param_any 0 (by omega) _ _ _ (by decide) known_one _).mono ?_
                rintro e w4 ⟨rfl, hd⟩
                have HW2 := Aside0.mk (below_step HW.out hd.below)
                clear hd
                go_wp2_with fail
                go_ret
                exact ⟨rfl, HW2.out⟩

end Go.Proofs.Ytfcefkenpndblaa.ParLaw
