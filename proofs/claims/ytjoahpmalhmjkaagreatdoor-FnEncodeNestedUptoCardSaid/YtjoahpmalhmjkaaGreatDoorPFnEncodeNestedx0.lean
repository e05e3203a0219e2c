-- PRINTED BY print.sh 35421559b90ae4d0a3588c463048766b98c2df88dd9212a6774a882060cdf62d: not written by this session
import Derived.Test.YtjoahpmalhmjkaaGreatDoorProg
import Derived.Below
import Derived.Deep.Draws
import Derived.Deep.AppendLies
import Derived.Maps.AppendAt
import Derived.OwnWalk
import Derived.Laws.BytesArg
import Derived.Laws.MakeOwn
import Derived.Laws.OwnMore
import Derived.Deep.OwnRows
import Derived.Tactics
import Derived.Lib.ConvBytes
import Derived.Laws.Slices
import Derived.WalkKit
import Derived.KernelRfl
import Derived.RowKit3
import Derived.Deep.LoopGhost
import Derived.Deep.QuietTactic
import Derived.BigQuiet
import Derived.WideLaws
import Derived.Deep.DeepCutAuto
import Derived.Deep.CutBlock
import Derived.Deep.RegionHeld3
import Derived.Laws.Rows
import Derived.Lib.AppendStr
import Derived.ArgAppend
import Derived.Laws.IdiomCopy
import Derived.OrdersHeld
import Derived.Laws.BitsLemmas
import Derived.RowKit
import Derived.Test.YtjoahpmalhmjkaaGreatDoorWWords
import Derived.Test.YtjoahpmalhmjkaaGreatDoorWLast
import Derived.Test.YtjoahpmalhmjkaaGreatDoorWTab
import Derived.Test.YtjoahpmalhmjkaaGreatDoorWFour
import Derived.Test.YtjoahpmalhmjkaaGreatDoorWQPut
import Derived.Test.YtjoahpmalhmjkaaGreatDoorWApart
import Derived.Test.YtjoahpmalhmjkaaGreatDoorWArr
import Derived.Test.YtjoahpmalhmjkaaGreatDoorWZeros
import Derived.Test.YtjoahpmalhmjkaaGreatDoorWFoot
import Derived.Test.YtjoahpmalhmjkaaGreatDoorWKept
import Derived.Test.YtjoahpmalhmjkaaGreatDoorWShare
import Derived.Test.YtjoahpmalhmjkaaGreatDoorWN
import Derived.Test.YtjoahpmalhmjkaaGreatDoorWFootNe
import Derived.Test.YtjoahpmalhmjkaaGreatDoorWAt
import Derived.Test.YtjoahpmalhmjkaaGreatDoorWEqStruct
import Derived.Test.YtjoahpmalhmjkaaGreatDoorWRepsOne
import Derived.Test.YtjoahpmalhmjkaaGreatDoorWInv
import Derived.Test.YtjoahpmalhmjkaaGreatDoorWInvWords
import Derived.Test.YtjoahpmalhmjkaaGreatDoorWGuard
import Derived.Test.YtjoahpmalhmjkaaGreatDoorWNEv
import Derived.Test.YtjoahpmalhmjkaaGreatDoorWMore
namespace Go.Proofs.YtjoahpmalhmjkaaGreatDoor.PFnEncodeNested
open Go.RowKit Go.Proofs.YtjoahpmalhmjkaaGreatDoorW.PrintWords Go.Proofs.YtjoahpmalhmjkaaGreatDoorW.PrintLast Go.Proofs.YtjoahpmalhmjkaaGreatDoorW.PrintMore
attribute [local go_sem] max2_int min2_int max_two min_two max_three min_three max_four min_four   -- for this text's walks alone
set_option linter.unusedVariables false
set_option linter.unusedSimpArgs false



def errW : Option Int → Value
  | none => .nilIface
  | some c => .iface 0 (.int .i64 c)
theorem errW_none : errW none = .nilIface := rfl
theorem errW_some (c : Int) : errW (some c) = .iface 0 (.int .i64 c) := rfl

theorem info5 : (Tryz.prog.info? 5).map (fun i => (i.zero, i.size, i.bytes)) = some (some (.int .u8 0), 1, 1) := by kernel_rfl
theorem info28 : (Tryz.prog.info? 28).map (fun i => (i.zero, i.size, i.bytes)) = some (some (.agg #[(.int .i64 0), (.string ⟨#[]⟩), (.string ⟨#[]⟩), (.slice none 0 0), (.string ⟨#[]⟩), (.int .i64 0)]), 6, 88) := by kernel_rfl
theorem info49 : (Tryz.prog.info? 49).map (fun i => (i.zero, i.size, i.bytes)) = some (some (.agg #[(.int .i64 0), (.string ⟨#[]⟩), (.string ⟨#[]⟩), (.slice none 0 0), (.string ⟨#[]⟩), (.int .i64 0), (.int .i64 0), (.int .i64 0)]), 8, 104) := by kernel_rfl
theorem info59 : (Tryz.prog.info? 59).map (fun i => (i.zero, i.size, i.bytes)) = some (some (.agg #[(.string ⟨#[]⟩), (.string ⟨#[]⟩), (.string ⟨#[]⟩)]), 3, 48) := by kernel_rfl
theorem info60 : (Tryz.prog.info? 60).map (fun i => (i.zero, i.size, i.bytes)) = some (some (.agg #[(.string ⟨#[]⟩), (.string ⟨#[]⟩), (.string ⟨#[]⟩)]), 3, 48) := by kernel_rfl
theorem info174 : (Tryz.prog.info? 174).map (fun i => (i.zero, i.size, i.bytes)) = some (some (.agg #[(.int .u16 0), (.int .u16 0), (.int .u16 0)]), 3, 6) := by kernel_rfl
-- the values' own types
/-! #### struct type 59 -/
structure S59 where
  f0 : ByteArray
  f1 : ByteArray
  f2 : ByteArray
def z59 : S59 := ⟨(⟨#[]⟩ : ByteArray), (⟨#[]⟩ : ByteArray), (⟨#[]⟩ : ByteArray)⟩
def k59 : Kd S59 := Kd.iso (Kd.pair Kd.string (Kd.pair Kd.string Kd.string)) (fun x : S59 => (x.f0, x.f1, x.f2))
theorem k59_open {w : World} {x : S59} {cs : List Value} (h : k59.K w x cs) : cs = [.string x.f0, .string x.f1, .string x.f2] := by
  obtain ⟨_, _, rfl, rfl, ⟨_, _, rfl, rfl, rfl⟩⟩ := h
  exact rfl
theorem k59_openM {w : World} {base : Nat} {ok : Nat → Prop} {x : S59} {cs : List Value} (h : k59.M w base ok x cs) : cs = [.string x.f0, .string x.f1, .string x.f2] := by
  obtain ⟨_, _, rfl, rfl, ⟨_, _, rfl, rfl, rfl⟩⟩ := h
  exact rfl
theorem k59_mk (w : World) (x : S59)  : k59.K w x [.string x.f0, .string x.f1, .string x.f2] := ⟨[.string x.f0], [.string x.f1, .string x.f2], rfl, rfl, ⟨[.string x.f1], [.string x.f2], rfl, rfl, rfl⟩⟩
theorem k59_mkM (w : World) (base : Nat) (ok : Nat → Prop) (x : S59)  : k59.M w base ok x [.string x.f0, .string x.f1, .string x.f2] := ⟨[.string x.f0], [.string x.f1, .string x.f2], rfl, rfl, ⟨[.string x.f1], [.string x.f2], rfl, rfl, rfl⟩⟩
theorem k59_mkF (W : World) (ok : Nat → Prop) (x : S59) : Kd.FK k59 W ok x [.string x.f0, .string x.f1, .string x.f2] := fun W2 _ => k59_mk W2 x
def rd_T59 (xs : List S59) (i : Int) : S59 := xs.getD i.toNat z59
theorem at_T59 {w : World} {A : Option Addr} {n : Nat} {xs : List S59} (h : Kd.C k59 w A n xs) (i : Int) (h0 : 0 ≤ i) (h1 : i < n) : ∃ ad , A = some ad ∧ w.cell? (ad.add (i.toNat * 3)) = some (.string (rd_T59 xs i).f0) ∧ w.cell? ⟨(ad.add (i.toNat * 3)).block, (ad.add (i.toNat * 3)).off + 1, none⟩ = some (.string (rd_T59 xs i).f1) ∧ w.cell? ⟨(ad.add (i.toNat * 3)).block, (ad.add (i.toNat * 3)).off + 2, none⟩ = some (.string (rd_T59 xs i).f2) := by
  obtain ⟨ad, c, e, _, hK, hc0⟩ := Kd.C_get h z59 i h0 h1
  have hc : ∀ j u, c[j]? = some u → w.cell? (ad.add (i.toNat * 3 + j)) = some u := hc0
  obtain rfl := k59_open hK
  exact ⟨ad, e, hc 0 _ rfl, by rw [← add_field _ _ 1 (by omega)]; exact hc 1 _ rfl, by rw [← add_field _ _ 2 (by omega)]; exact hc 2 _ rfl⟩

def rd_L3 (xs : List (List S59)) (i : Int) : (List S59) := xs.getD i.toNat ([] : List S59)
theorem at_L3 {w : World} {A : Option Addr} {n : Nat} {xs : List (List S59)} (h : Kd.C (Kd.slice 59 k59) w A n xs) (i : Int) (h0 : 0 ≤ i) (h1 : i < n) : ∃ ad A0 c0, A = some ad ∧ w.cell? (ad.add i.toNat) = some (.slice A0 (rd_L3 xs i).length c0) ∧ (rd_L3 xs i).length ≤ c0 ∧ k59.C w A0 (rd_L3 xs i).length (rd_L3 xs i) := by
  obtain ⟨ad, c, e, _, hK, hc0⟩ := Kd.C_get h ([] : List S59) i h0 h1
  have hc : ∀ j u, c[j]? = some u → w.cell? (ad.add (i.toNat * 1 + j)) = some u := hc0
  obtain ⟨A0, c0, rfl, l0, g0⟩ := hK
  exact ⟨ad, A0, c0, e, by have hq := hc 0 _ rfl; rwa [Nat.mul_one, Nat.add_zero] at hq, l0, g0⟩

/-! #### struct type 28 -/
structure S28 where
  f0 : Int
  f1 : ByteArray
  f2 : ByteArray
  f3 : (List S59)
  f4 : ByteArray
  f5 : Int
def z28 : S28 := ⟨(0 : Int), (⟨#[]⟩ : ByteArray), (⟨#[]⟩ : ByteArray), ([] : List S59), (⟨#[]⟩ : ByteArray), (0 : Int)⟩
def k28 : Kd S28 := Kd.iso (Kd.pair (Kd.int .i64) (Kd.pair Kd.string (Kd.pair Kd.string (Kd.pair (Kd.slice 59 k59) (Kd.pair Kd.string (Kd.int .i64)))))) (fun x : S28 => (x.f0, x.f1, x.f2, x.f3, x.f4, x.f5))
theorem k28_open {w : World} {x : S28} {cs : List Value} (h : k28.K w x cs) : ∃ A3 c3, cs = [.int .i64 x.f0, .string x.f1, .string x.f2, .slice A3 x.f3.length c3, .string x.f4, .int .i64 x.f5] ∧ x.f3.length ≤ c3 ∧ k59.C w A3 x.f3.length x.f3 := by
  obtain ⟨_, _, rfl, rfl, ⟨_, _, rfl, rfl, ⟨_, _, rfl, rfl, ⟨_, _, rfl, ⟨A3, c3, rfl, l3, g3⟩, ⟨_, _, rfl, rfl, rfl⟩⟩⟩⟩⟩ := h
  exact ⟨A3, c3, rfl, l3, g3⟩
theorem k28_openM {w : World} {base : Nat} {ok : Nat → Prop} {x : S28} {cs : List Value} (h : k28.M w base ok x cs) : ∃ v3, cs = [.int .i64 x.f0, .string x.f1, .string x.f2, v3, .string x.f4, .int .i64 x.f5] ∧ k59.R 59 w base ok v3 x.f3 := by
  obtain ⟨_, _, rfl, rfl, ⟨_, _, rfl, rfl, ⟨_, _, rfl, rfl, ⟨_, _, rfl, ⟨v3, rfl, g3⟩, ⟨_, _, rfl, rfl, rfl⟩⟩⟩⟩⟩ := h
  exact ⟨v3, rfl, g3⟩
theorem k28_mk (w : World) (x : S28) {A3 : Option Addr} {c3 : Nat} (l3 : x.f3.length ≤ c3) (g3 : k59.C w A3 x.f3.length x.f3) : k28.K w x [.int .i64 x.f0, .string x.f1, .string x.f2, .slice A3 x.f3.length c3, .string x.f4, .int .i64 x.f5] := ⟨[.int .i64 x.f0], [.string x.f1, .string x.f2, .slice A3 x.f3.length c3, .string x.f4, .int .i64 x.f5], rfl, rfl, ⟨[.string x.f1], [.string x.f2, .slice A3 x.f3.length c3, .string x.f4, .int .i64 x.f5], rfl, rfl, ⟨[.string x.f2], [.slice A3 x.f3.length c3, .string x.f4, .int .i64 x.f5], rfl, rfl, ⟨[.slice A3 x.f3.length c3], [.string x.f4, .int .i64 x.f5], rfl, ⟨A3, c3, rfl, l3, g3⟩, ⟨[.string x.f4], [.int .i64 x.f5], rfl, rfl, rfl⟩⟩⟩⟩⟩
theorem k28_mkM (w : World) (base : Nat) (ok : Nat → Prop) (x : S28) {v3 : Value} (g3 : k59.R 59 w base ok v3 x.f3) : k28.M w base ok x [.int .i64 x.f0, .string x.f1, .string x.f2, v3, .string x.f4, .int .i64 x.f5] := ⟨[.int .i64 x.f0], [.string x.f1, .string x.f2, v3, .string x.f4, .int .i64 x.f5], rfl, rfl, ⟨[.string x.f1], [.string x.f2, v3, .string x.f4, .int .i64 x.f5], rfl, rfl, ⟨[.string x.f2], [v3, .string x.f4, .int .i64 x.f5], rfl, rfl, ⟨[v3], [.string x.f4, .int .i64 x.f5], rfl, ⟨v3, rfl, g3⟩, ⟨[.string x.f4], [.int .i64 x.f5], rfl, rfl, rfl⟩⟩⟩⟩⟩
theorem k28_openF {W : World} {ok : Nat → Prop} {x : S28} {cs : List Value} (h : Kd.FK k28 W ok x cs) : ∃ A3 c3, cs = [.int .i64 x.f0, .string x.f1, .string x.f2, .slice A3 x.f3.length c3, .string x.f4, .int .i64 x.f5] ∧ x.f3.length ≤ c3 ∧ Kd.F k59 W ok A3 x.f3.length x.f3 := by
  obtain ⟨A3, c3, rfl, l3, _⟩ := k28_open (Kd.FK_now h)
  exact ⟨A3, c3, rfl, l3, (fun W' hW => by obtain ⟨A3_, c3_, he, l3_, g3_⟩ := k28_open (h W' hW); injection (Option.some.inj (show some (Value.slice A3 x.f3.length c3) = some (Value.slice A3_ x.f3.length c3_) from congrArg (fun l => l[3]?) he)) with ha_ _ _; rw [ha_]; exact g3_)⟩
theorem k28_mkF (W : World) (ok : Nat → Prop) (x : S28) {A3 : Option Addr} {c3 : Nat} (l3 : x.f3.length ≤ c3) (g3 : Kd.F k59 W ok A3 x.f3.length x.f3) : Kd.FK k28 W ok x [.int .i64 x.f0, .string x.f1, .string x.f2, .slice A3 x.f3.length c3, .string x.f4, .int .i64 x.f5] := fun W2 hW => k28_mk W2 x l3 (g3 W2 hW)
def rd_T28 (xs : List S28) (i : Int) : S28 := xs.getD i.toNat z28
theorem at_T28 {w : World} {A : Option Addr} {n : Nat} {xs : List S28} (h : Kd.C k28 w A n xs) (i : Int) (h0 : 0 ≤ i) (h1 : i < n) : ∃ ad A3 c3, A = some ad ∧ w.cell? (ad.add (i.toNat * 6)) = some (.int .i64 (rd_T28 xs i).f0) ∧ w.cell? ⟨(ad.add (i.toNat * 6)).block, (ad.add (i.toNat * 6)).off + 1, none⟩ = some (.string (rd_T28 xs i).f1) ∧ w.cell? ⟨(ad.add (i.toNat * 6)).block, (ad.add (i.toNat * 6)).off + 2, none⟩ = some (.string (rd_T28 xs i).f2) ∧ w.cell? ⟨(ad.add (i.toNat * 6)).block, (ad.add (i.toNat * 6)).off + 3, none⟩ = some (.slice A3 (rd_T28 xs i).f3.length c3) ∧ w.cell? ⟨(ad.add (i.toNat * 6)).block, (ad.add (i.toNat * 6)).off + 4, none⟩ = some (.string (rd_T28 xs i).f4) ∧ w.cell? ⟨(ad.add (i.toNat * 6)).block, (ad.add (i.toNat * 6)).off + 5, none⟩ = some (.int .i64 (rd_T28 xs i).f5) ∧ (rd_T28 xs i).f3.length ≤ c3 ∧ k59.C w A3 (rd_T28 xs i).f3.length (rd_T28 xs i).f3 := by
  obtain ⟨ad, c, e, _, hK, hc0⟩ := Kd.C_get h z28 i h0 h1
  have hc : ∀ j u, c[j]? = some u → w.cell? (ad.add (i.toNat * 6 + j)) = some u := hc0
  obtain ⟨A3, c3, rfl, l3, g3⟩ := k28_open hK
  exact ⟨ad, A3, c3, e, hc 0 _ rfl, by rw [← add_field _ _ 1 (by omega)]; exact hc 1 _ rfl, by rw [← add_field _ _ 2 (by omega)]; exact hc 2 _ rfl, by rw [← add_field _ _ 3 (by omega)]; exact hc 3 _ rfl, by rw [← add_field _ _ 4 (by omega)]; exact hc 4 _ rfl, by rw [← add_field _ _ 5 (by omega)]; exact hc 5 _ rfl, l3, g3⟩

/-! #### struct type 174 -/
structure S174 where
  f0 : Int
  f1 : Int
  f2 : Int
def z174 : S174 := ⟨(0 : Int), (0 : Int), (0 : Int)⟩
def k174 : Kd S174 := Kd.iso (Kd.pair (Kd.int .u16) (Kd.pair (Kd.int .u16) (Kd.int .u16))) (fun x : S174 => (x.f0, x.f1, x.f2))
theorem k174_open {w : World} {x : S174} {cs : List Value} (h : k174.K w x cs) : cs = [.int .u16 x.f0, .int .u16 x.f1, .int .u16 x.f2] := by
  obtain ⟨_, _, rfl, rfl, ⟨_, _, rfl, rfl, rfl⟩⟩ := h
  exact rfl
theorem k174_openM {w : World} {base : Nat} {ok : Nat → Prop} {x : S174} {cs : List Value} (h : k174.M w base ok x cs) : cs = [.int .u16 x.f0, .int .u16 x.f1, .int .u16 x.f2] := by
  obtain ⟨_, _, rfl, rfl, ⟨_, _, rfl, rfl, rfl⟩⟩ := h
  exact rfl
theorem k174_mk (w : World) (x : S174)  : k174.K w x [.int .u16 x.f0, .int .u16 x.f1, .int .u16 x.f2] := ⟨[.int .u16 x.f0], [.int .u16 x.f1, .int .u16 x.f2], rfl, rfl, ⟨[.int .u16 x.f1], [.int .u16 x.f2], rfl, rfl, rfl⟩⟩
theorem k174_mkM (w : World) (base : Nat) (ok : Nat → Prop) (x : S174)  : k174.M w base ok x [.int .u16 x.f0, .int .u16 x.f1, .int .u16 x.f2] := ⟨[.int .u16 x.f0], [.int .u16 x.f1, .int .u16 x.f2], rfl, rfl, ⟨[.int .u16 x.f1], [.int .u16 x.f2], rfl, rfl, rfl⟩⟩
theorem k174_mkF (W : World) (ok : Nat → Prop) (x : S174) : Kd.FK k174 W ok x [.int .u16 x.f0, .int .u16 x.f1, .int .u16 x.f2] := fun W2 _ => k174_mk W2 x
def rd_T174 (xs : List S174) (i : Int) : S174 := xs.getD i.toNat z174
theorem at_T174 {w : World} {A : Option Addr} {n : Nat} {xs : List S174} (h : Kd.C k174 w A n xs) (i : Int) (h0 : 0 ≤ i) (h1 : i < n) : ∃ ad , A = some ad ∧ w.cell? (ad.add (i.toNat * 3)) = some (.int .u16 (rd_T174 xs i).f0) ∧ w.cell? ⟨(ad.add (i.toNat * 3)).block, (ad.add (i.toNat * 3)).off + 1, none⟩ = some (.int .u16 (rd_T174 xs i).f1) ∧ w.cell? ⟨(ad.add (i.toNat * 3)).block, (ad.add (i.toNat * 3)).off + 2, none⟩ = some (.int .u16 (rd_T174 xs i).f2) := by
  obtain ⟨ad, c, e, _, hK, hc0⟩ := Kd.C_get h z174 i h0 h1
  have hc : ∀ j u, c[j]? = some u → w.cell? (ad.add (i.toNat * 3 + j)) = some u := hc0
  obtain rfl := k174_open hK
  exact ⟨ad, e, hc 0 _ rfl, by rw [← add_field _ _ 1 (by omega)]; exact hc 1 _ rfl, by rw [← add_field _ _ 2 (by omega)]; exact hc 2 _ rfl⟩

/-! #### struct type 177 -/
structure S177 where
  f0 : Int
  f1 : Int
  f2 : Int
def z177 : S177 := ⟨(0 : Int), (0 : Int), (0 : Int)⟩
def k177 : Kd S177 := Kd.iso (Kd.pair (Kd.int .u32) (Kd.pair (Kd.int .u32) (Kd.int .u32))) (fun x : S177 => (x.f0, x.f1, x.f2))
theorem k177_open {w : World} {x : S177} {cs : List Value} (h : k177.K w x cs) : cs = [.int .u32 x.f0, .int .u32 x.f1, .int .u32 x.f2] := by
  obtain ⟨_, _, rfl, rfl, ⟨_, _, rfl, rfl, rfl⟩⟩ := h
  exact rfl
theorem k177_openM {w : World} {base : Nat} {ok : Nat → Prop} {x : S177} {cs : List Value} (h : k177.M w base ok x cs) : cs = [.int .u32 x.f0, .int .u32 x.f1, .int .u32 x.f2] := by
  obtain ⟨_, _, rfl, rfl, ⟨_, _, rfl, rfl, rfl⟩⟩ := h
  exact rfl
theorem k177_mk (w : World) (x : S177)  : k177.K w x [.int .u32 x.f0, .int .u32 x.f1, .int .u32 x.f2] := ⟨[.int .u32 x.f0], [.int .u32 x.f1, .int .u32 x.f2], rfl, rfl, ⟨[.int .u32 x.f1], [.int .u32 x.f2], rfl, rfl, rfl⟩⟩
theorem k177_mkM (w : World) (base : Nat) (ok : Nat → Prop) (x : S177)  : k177.M w base ok x [.int .u32 x.f0, .int .u32 x.f1, .int .u32 x.f2] := ⟨[.int .u32 x.f0], [.int .u32 x.f1, .int .u32 x.f2], rfl, rfl, ⟨[.int .u32 x.f1], [.int .u32 x.f2], rfl, rfl, rfl⟩⟩
theorem k177_mkF (W : World) (ok : Nat → Prop) (x : S177) : Kd.FK k177 W ok x [.int .u32 x.f0, .int .u32 x.f1, .int .u32 x.f2] := fun W2 _ => k177_mk W2 x
def rd_T177 (xs : List S177) (i : Int) : S177 := xs.getD i.toNat z177
theorem at_T177 {w : World} {A : Option Addr} {n : Nat} {xs : List S177} (h : Kd.C k177 w A n xs) (i : Int) (h0 : 0 ≤ i) (h1 : i < n) : ∃ ad , A = some ad ∧ w.cell? (ad.add (i.toNat * 3)) = some (.int .u32 (rd_T177 xs i).f0) ∧ w.cell? ⟨(ad.add (i.toNat * 3)).block, (ad.add (i.toNat * 3)).off + 1, none⟩ = some (.int .u32 (rd_T177 xs i).f1) ∧ w.cell? ⟨(ad.add (i.toNat * 3)).block, (ad.add (i.toNat * 3)).off + 2, none⟩ = some (.int .u32 (rd_T177 xs i).f2) := by
  obtain ⟨ad, c, e, _, hK, hc0⟩ := Kd.C_get h z177 i h0 h1
  have hc : ∀ j u, c[j]? = some u → w.cell? (ad.add (i.toNat * 3 + j)) = some u := hc0
  obtain rfl := k177_open hK
  exact ⟨ad, e, hc 0 _ rfl, by rw [← add_field _ _ 1 (by omega)]; exact hc 1 _ rfl, by rw [← add_field _ _ 2 (by omega)]; exact hc 2 _ rfl⟩

/-! #### struct type 60 -/
structure S60 where
  f0 : ByteArray
  f1 : ByteArray
  f2 : ByteArray
def z60 : S60 := ⟨(⟨#[]⟩ : ByteArray), (⟨#[]⟩ : ByteArray), (⟨#[]⟩ : ByteArray)⟩
def k60 : Kd S60 := Kd.iso (Kd.pair Kd.string (Kd.pair Kd.string Kd.string)) (fun x : S60 => (x.f0, x.f1, x.f2))
theorem k60_open {w : World} {x : S60} {cs : List Value} (h : k60.K w x cs) : cs = [.string x.f0, .string x.f1, .string x.f2] := by
  obtain ⟨_, _, rfl, rfl, ⟨_, _, rfl, rfl, rfl⟩⟩ := h
  exact rfl
theorem k60_openM {w : World} {base : Nat} {ok : Nat → Prop} {x : S60} {cs : List Value} (h : k60.M w base ok x cs) : cs = [.string x.f0, .string x.f1, .string x.f2] := by
  obtain ⟨_, _, rfl, rfl, ⟨_, _, rfl, rfl, rfl⟩⟩ := h
  exact rfl
theorem k60_mk (w : World) (x : S60)  : k60.K w x [.string x.f0, .string x.f1, .string x.f2] := ⟨[.string x.f0], [.string x.f1, .string x.f2], rfl, rfl, ⟨[.string x.f1], [.string x.f2], rfl, rfl, rfl⟩⟩
theorem k60_mkM (w : World) (base : Nat) (ok : Nat → Prop) (x : S60)  : k60.M w base ok x [.string x.f0, .string x.f1, .string x.f2] := ⟨[.string x.f0], [.string x.f1, .string x.f2], rfl, rfl, ⟨[.string x.f1], [.string x.f2], rfl, rfl, rfl⟩⟩
theorem k60_mkF (W : World) (ok : Nat → Prop) (x : S60) : Kd.FK k60 W ok x [.string x.f0, .string x.f1, .string x.f2] := fun W2 _ => k60_mk W2 x
def rd_T60 (xs : List S60) (i : Int) : S60 := xs.getD i.toNat z60
theorem at_T60 {w : World} {A : Option Addr} {n : Nat} {xs : List S60} (h : Kd.C k60 w A n xs) (i : Int) (h0 : 0 ≤ i) (h1 : i < n) : ∃ ad , A = some ad ∧ w.cell? (ad.add (i.toNat * 3)) = some (.string (rd_T60 xs i).f0) ∧ w.cell? ⟨(ad.add (i.toNat * 3)).block, (ad.add (i.toNat * 3)).off + 1, none⟩ = some (.string (rd_T60 xs i).f1) ∧ w.cell? ⟨(ad.add (i.toNat * 3)).block, (ad.add (i.toNat * 3)).off + 2, none⟩ = some (.string (rd_T60 xs i).f2) := by
  obtain ⟨ad, c, e, _, hK, hc0⟩ := Kd.C_get h z60 i h0 h1
  have hc : ∀ j u, c[j]? = some u → w.cell? (ad.add (i.toNat * 3 + j)) = some u := hc0
  obtain rfl := k60_open hK
  exact ⟨ad, e, hc 0 _ rfl, by rw [← add_field _ _ 1 (by omega)]; exact hc 1 _ rfl, by rw [← add_field _ _ 2 (by omega)]; exact hc 2 _ rfl⟩

def rd_L11 (xs : List (List S60)) (i : Int) : (List S60) := xs.getD i.toNat ([] : List S60)
theorem at_L11 {w : World} {A : Option Addr} {n : Nat} {xs : List (List S60)} (h : Kd.C (Kd.slice 60 k60) w A n xs) (i : Int) (h0 : 0 ≤ i) (h1 : i < n) : ∃ ad A0 c0, A = some ad ∧ w.cell? (ad.add i.toNat) = some (.slice A0 (rd_L11 xs i).length c0) ∧ (rd_L11 xs i).length ≤ c0 ∧ k60.C w A0 (rd_L11 xs i).length (rd_L11 xs i) := by
  obtain ⟨ad, c, e, _, hK, hc0⟩ := Kd.C_get h ([] : List S60) i h0 h1
  have hc : ∀ j u, c[j]? = some u → w.cell? (ad.add (i.toNat * 1 + j)) = some u := hc0
  obtain ⟨A0, c0, rfl, l0, g0⟩ := hK
  exact ⟨ad, A0, c0, e, by have hq := hc 0 _ rfl; rwa [Nat.mul_one, Nat.add_zero] at hq, l0, g0⟩

/-! #### struct type 49 -/
structure S49 where
  f0 : Int
  f1 : ByteArray
  f2 : ByteArray
  f3 : (List S60)
  f4 : ByteArray
  f5 : Int
  f6 : Int
  f7 : Int
def z49 : S49 := ⟨(0 : Int), (⟨#[]⟩ : ByteArray), (⟨#[]⟩ : ByteArray), ([] : List S60), (⟨#[]⟩ : ByteArray), (0 : Int), (0 : Int), (0 : Int)⟩
def k49 : Kd S49 := Kd.iso (Kd.pair (Kd.int .i64) (Kd.pair Kd.string (Kd.pair Kd.string (Kd.pair (Kd.slice 60 k60) (Kd.pair Kd.string (Kd.pair (Kd.int .i64) (Kd.pair (Kd.int .i64) (Kd.int .i64)))))))) (fun x : S49 => (x.f0, x.f1, x.f2, x.f3, x.f4, x.f5, x.f6, x.f7))
theorem k49_open {w : World} {x : S49} {cs : List Value} (h : k49.K w x cs) : ∃ A3 c3, cs = [.int .i64 x.f0, .string x.f1, .string x.f2, .slice A3 x.f3.length c3, .string x.f4, .int .i64 x.f5, .int .i64 x.f6, .int .i64 x.f7] ∧ x.f3.length ≤ c3 ∧ k60.C w A3 x.f3.length x.f3 := by
  obtain ⟨_, _, rfl, rfl, ⟨_, _, rfl, rfl, ⟨_, _, rfl, rfl, ⟨_, _, rfl, ⟨A3, c3, rfl, l3, g3⟩, ⟨_, _, rfl, rfl, ⟨_, _, rfl, rfl, ⟨_, _, rfl, rfl, rfl⟩⟩⟩⟩⟩⟩⟩ := h
  exact ⟨A3, c3, rfl, l3, g3⟩
theorem k49_openM {w : World} {base : Nat} {ok : Nat → Prop} {x : S49} {cs : List Value} (h : k49.M w base ok x cs) : ∃ v3, cs = [.int .i64 x.f0, .string x.f1, .string x.f2, v3, .string x.f4, .int .i64 x.f5, .int .i64 x.f6, .int .i64 x.f7] ∧ k60.R 60 w base ok v3 x.f3 := by
  obtain ⟨_, _, rfl, rfl, ⟨_, _, rfl, rfl, ⟨_, _, rfl, rfl, ⟨_, _, rfl, ⟨v3, rfl, g3⟩, ⟨_, _, rfl, rfl, ⟨_, _, rfl, rfl, ⟨_, _, rfl, rfl, rfl⟩⟩⟩⟩⟩⟩⟩ := h
  exact ⟨v3, rfl, g3⟩
theorem k49_mk (w : World) (x : S49) {A3 : Option Addr} {c3 : Nat} (l3 : x.f3.length ≤ c3) (g3 : k60.C w A3 x.f3.length x.f3) : k49.K w x [.int .i64 x.f0, .string x.f1, .string x.f2, .slice A3 x.f3.length c3, .string x.f4, .int .i64 x.f5, .int .i64 x.f6, .int .i64 x.f7] := ⟨[.int .i64 x.f0], [.string x.f1, .string x.f2, .slice A3 x.f3.length c3, .string x.f4, .int .i64 x.f5, .int .i64 x.f6, .int .i64 x.f7], rfl, rfl, ⟨[.string x.f1], [.string x.f2, .slice A3 x.f3.length c3, .string x.f4, .int .i64 x.f5, .int .i64 x.f6, .int .i64 x.f7], rfl, rfl, ⟨[.string x.f2], [.slice A3 x.f3.length c3, .string x.f4, .int .i64 x.f5, .int .i64 x.f6, .int .i64 x.f7], rfl, rfl, ⟨[.slice A3 x.f3.length c3], [.string x.f4, .int .i64 x.f5, .int .i64 x.f6, .int .i64 x.f7], rfl, ⟨A3, c3, rfl, l3, g3⟩, ⟨[.string x.f4], [.int .i64 x.f5, .int .i64 x.f6, .int .i64 x.f7], rfl, rfl, ⟨[.int .i64 x.f5], [.int .i64 x.f6, .int .i64 x.f7], rfl, rfl, ⟨[.int .i64 x.f6], [.int .i64 x.f7], rfl, rfl, rfl⟩⟩⟩⟩⟩⟩⟩
theorem k49_mkM (w : World) (base : Nat) (ok : Nat → Prop) (x : S49) {v3 : Value} (g3 : k60.R 60 w base ok v3 x.f3) : k49.M w base ok x [.int .i64 x.f0, .string x.f1, .string x.f2, v3, .string x.f4, .int .i64 x.f5, .int .i64 x.f6, .int .i64 x.f7] := ⟨[.int .i64 x.f0], [.string x.f1, .string x.f2, v3, .string x.f4, .int .i64 x.f5, .int .i64 x.f6, .int .i64 x.f7], rfl, rfl, ⟨[.string x.f1], [.string x.f2, v3, .string x.f4, .int .i64 x.f5, .int .i64 x.f6, .int .i64 x.f7], rfl, rfl, ⟨[.string x.f2], [v3, .string x.f4, .int .i64 x.f5, .int .i64 x.f6, .int .i64 x.f7], rfl, rfl, ⟨[v3], [.string x.f4, .int .i64 x.f5, .int .i64 x.f6, .int .i64 x.f7], rfl, ⟨v3, rfl, g3⟩, ⟨[.string x.f4], [.int .i64 x.f5, .int .i64 x.f6, .int .i64 x.f7], rfl, rfl, ⟨[.int .i64 x.f5], [.int .i64 x.f6, .int .i64 x.f7], rfl, rfl, ⟨[.int .i64 x.f6], [.int .i64 x.f7], rfl, rfl, rfl⟩⟩⟩⟩⟩⟩⟩
theorem k49_openF {W : World} {ok : Nat → Prop} {x : S49} {cs : List Value} (h : Kd.FK k49 W ok x cs) : ∃ A3 c3, cs = [.int .i64 x.f0, .string x.f1, .string x.f2, .slice A3 x.f3.length c3, .string x.f4, .int .i64 x.f5, .int .i64 x.f6, .int .i64 x.f7] ∧ x.f3.length ≤ c3 ∧ Kd.F k60 W ok A3 x.f3.length x.f3 := by
  obtain ⟨A3, c3, rfl, l3, _⟩ := k49_open (Kd.FK_now h)
  exact ⟨A3, c3, rfl, l3, (fun W' hW => by obtain ⟨A3_, c3_, he, l3_, g3_⟩ := k49_open (h W' hW); injection (Option.some.inj (show some (Value.slice A3 x.f3.length c3) = some (Value.slice A3_ x.f3.length c3_) from congrArg (fun l => l[3]?) he)) with ha_ _ _; rw [ha_]; exact g3_)⟩
theorem k49_mkF (W : World) (ok : Nat → Prop) (x : S49) {A3 : Option Addr} {c3 : Nat} (l3 : x.f3.length ≤ c3) (g3 : Kd.F k60 W ok A3 x.f3.length x.f3) : Kd.FK k49 W ok x [.int .i64 x.f0, .string x.f1, .string x.f2, .slice A3 x.f3.length c3, .string x.f4, .int .i64 x.f5, .int .i64 x.f6, .int .i64 x.f7] := fun W2 hW => k49_mk W2 x l3 (g3 W2 hW)
def rd_T49 (xs : List S49) (i : Int) : S49 := xs.getD i.toNat z49
theorem at_T49 {w : World} {A : Option Addr} {n : Nat} {xs : List S49} (h : Kd.C k49 w A n xs) (i : Int) (h0 : 0 ≤ i) (h1 : i < n) : ∃ ad A3 c3, A = some ad ∧ w.cell? (ad.add (i.toNat * 8)) = some (.int .i64 (rd_T49 xs i).f0) ∧ w.cell? ⟨(ad.add (i.toNat * 8)).block, (ad.add (i.toNat * 8)).off + 1, none⟩ = some (.string (rd_T49 xs i).f1) ∧ w.cell? ⟨(ad.add (i.toNat * 8)).block, (ad.add (i.toNat * 8)).off + 2, none⟩ = some (.string (rd_T49 xs i).f2) ∧ w.cell? ⟨(ad.add (i.toNat * 8)).block, (ad.add (i.toNat * 8)).off + 3, none⟩ = some (.slice A3 (rd_T49 xs i).f3.length c3) ∧ w.cell? ⟨(ad.add (i.toNat * 8)).block, (ad.add (i.toNat * 8)).off + 4, none⟩ = some (.string (rd_T49 xs i).f4) ∧ w.cell? ⟨(ad.add (i.toNat * 8)).block, (ad.add (i.toNat * 8)).off + 5, none⟩ = some (.int .i64 (rd_T49 xs i).f5) ∧ w.cell? ⟨(ad.add (i.toNat * 8)).block, (ad.add (i.toNat * 8)).off + 6, none⟩ = some (.int .i64 (rd_T49 xs i).f6) ∧ w.cell? ⟨(ad.add (i.toNat * 8)).block, (ad.add (i.toNat * 8)).off + 7, none⟩ = some (.int .i64 (rd_T49 xs i).f7) ∧ (rd_T49 xs i).f3.length ≤ c3 ∧ k60.C w A3 (rd_T49 xs i).f3.length (rd_T49 xs i).f3 := by
  obtain ⟨ad, c, e, _, hK, hc0⟩ := Kd.C_get h z49 i h0 h1
  have hc : ∀ j u, c[j]? = some u → w.cell? (ad.add (i.toNat * 8 + j)) = some u := hc0
  obtain ⟨A3, c3, rfl, l3, g3⟩ := k49_open hK
  exact ⟨ad, A3, c3, e, hc 0 _ rfl, by rw [← add_field _ _ 1 (by omega)]; exact hc 1 _ rfl, by rw [← add_field _ _ 2 (by omega)]; exact hc 2 _ rfl, by rw [← add_field _ _ 3 (by omega)]; exact hc 3 _ rfl, by rw [← add_field _ _ 4 (by omega)]; exact hc 4 _ rfl, by rw [← add_field _ _ 5 (by omega)]; exact hc 5 _ rfl, by rw [← add_field _ _ 6 (by omega)]; exact hc 6 _ rfl, by rw [← add_field _ _ 7 (by omega)]; exact hc 7 _ rfl, l3, g3⟩

end Go.Proofs.YtjoahpmalhmjkaaGreatDoor.PFnEncodeNested
