-- PRINTED BY print.sh 35421559b90ae4d0a3588c463048766b98c2df88dd9212a6774a882060cdf62d: not written by this session
import Derived.Test.YtfchmbhbkhgfnaaDoorProg
import Derived.Below
import Derived.Deep.Draws
import Derived.Deep.AppendLies
import Derived.Maps.AppendAt
import Derived.OwnWalk
import Derived.Laws.BytesArg
import Derived.Laws.MakeOwn
import Derived.Laws.OwnMore
import Derived.Deep.OwnRows
import Derived.Tactics
import Derived.Lib.ConvBytes
import Derived.Laws.Slices
import Derived.WalkKit
import Derived.KernelRfl
import Derived.RowKit3
import Derived.Deep.LoopGhost
import Derived.Deep.QuietTactic
import Derived.BigQuiet
import Derived.WideLaws
import Derived.Deep.DeepCutAuto
import Derived.Deep.CutBlock
import Derived.Deep.RegionHeld3
import Derived.Laws.Rows
import Derived.Lib.AppendStr
import Derived.ArgAppend
import Derived.Laws.IdiomCopy
import Derived.OrdersHeld
import Derived.Laws.BitsLemmas
import Derived.RowKit
import Derived.Test.YtfchmbhbkhgfnaaDoorWWords
import Derived.Test.YtfchmbhbkhgfnaaDoorWLast
import Derived.Test.YtfchmbhbkhgfnaaDoorWTab
import Derived.Test.YtfchmbhbkhgfnaaDoorWFour
import Derived.Test.YtfchmbhbkhgfnaaDoorWQPut
import Derived.Test.YtfchmbhbkhgfnaaDoorWApart
import Derived.Test.YtfchmbhbkhgfnaaDoorWArr
import Derived.Test.YtfchmbhbkhgfnaaDoorWZeros
import Derived.Test.YtfchmbhbkhgfnaaDoorWFoot
import Derived.Test.YtfchmbhbkhgfnaaDoorWKept
import Derived.Test.YtfchmbhbkhgfnaaDoorWShare
import Derived.Test.YtfchmbhbkhgfnaaDoorWN
import Derived.Test.YtfchmbhbkhgfnaaDoorWFootNe
import Derived.Test.YtfchmbhbkhgfnaaDoorWAt
import Derived.Test.YtfchmbhbkhgfnaaDoorWEqStruct
import Derived.Test.YtfchmbhbkhgfnaaDoorWRepsOne
import Derived.Test.YtfchmbhbkhgfnaaDoorWInv
import Derived.Test.YtfchmbhbkhgfnaaDoorWInvWords
import Derived.Test.YtfchmbhbkhgfnaaDoorWGuard
import Derived.Test.YtfchmbhbkhgfnaaDoorWNEv
import Derived.Test.YtfchmbhbkhgfnaaDoorWMore
namespace Go.Proofs.YtfchmbhbkhgfnaaDoor.PFnEscapePlain
open Go.RowKit Go.Proofs.YtfchmbhbkhgfnaaDoorW.PrintWords Go.Proofs.YtfchmbhbkhgfnaaDoorW.PrintLast Go.Proofs.YtfchmbhbkhgfnaaDoorW.PrintMore
attribute [local go_sem] max2_int min2_int max_two min_two max_three min_three max_four min_four   -- for this text's walks alone
set_option linter.unusedVariables false
set_option linter.unusedSimpArgs false



def errW : Option Int → Value
  | none => .nilIface
  | some c => .iface 0 (.int .i64 c)
theorem errW_none : errW none = .nilIface := rfl
theorem errW_some (c : Int) : errW (some c) = .iface 0 (.int .i64 c) := rfl

theorem info5 : (Tryd.prog.info? 5).map (fun i => (i.zero, i.size, i.bytes)) = some (some (.int .u8 0), 1, 1) := by kernel_rfl
theorem info9 : (Tryd.prog.info? 9).map (fun i => (i.zero, i.size, i.bytes)) = some (some (.string ⟨#[]⟩), 1, 16) := by kernel_rfl
-- the values' own types
/-! #### struct type 74 -/
structure S74 where
  f0 : ByteArray
  f1 : ByteArray
def z74 : S74 := ⟨(⟨#[]⟩ : ByteArray), (⟨#[]⟩ : ByteArray)⟩
def k74 : Kd S74 := Kd.iso (Kd.pair Kd.string Kd.string) (fun x : S74 => (x.f0, x.f1))
theorem k74_open {w : World} {x : S74} {cs : List Value} (h : k74.K w x cs) : cs = [.string x.f0, .string x.f1] := by
  obtain ⟨_, _, rfl, rfl, rfl⟩ := h
  exact rfl
theorem k74_openM {w : World} {base : Nat} {ok : Nat → Prop} {x : S74} {cs : List Value} (h : k74.M w base ok x cs) : cs = [.string x.f0, .string x.f1] := by
  obtain ⟨_, _, rfl, rfl, rfl⟩ := h
  exact rfl
theorem k74_mk (w : World) (x : S74)  : k74.K w x [.string x.f0, .string x.f1] := ⟨[.string x.f0], [.string x.f1], rfl, rfl, rfl⟩
theorem k74_mkM (w : World) (base : Nat) (ok : Nat → Prop) (x : S74)  : k74.M w base ok x [.string x.f0, .string x.f1] := ⟨[.string x.f0], [.string x.f1], rfl, rfl, rfl⟩
theorem k74_mkF (W : World) (ok : Nat → Prop) (x : S74) : Kd.FK k74 W ok x [.string x.f0, .string x.f1] := fun W2 _ => k74_mk W2 x
def rd_T74 (xs : List S74) (i : Int) : S74 := xs.getD i.toNat z74
theorem at_T74 {w : World} {A : Option Addr} {n : Nat} {xs : List S74} (h : Kd.C k74 w A n xs) (i : Int) (h0 : 0 ≤ i) (h1 : i < n) : ∃ ad , A = some ad ∧ w.cell? (ad.add (i.toNat * 2)) = some (.string (rd_T74 xs i).f0) ∧ w.cell? ⟨(ad.add (i.toNat * 2)).block, (ad.add (i.toNat * 2)).off + 1, none⟩ = some (.string (rd_T74 xs i).f1) := by
  obtain ⟨ad, c, e, _, hK, hc0⟩ := Kd.C_get h z74 i h0 h1
  have hc : ∀ j u, c[j]? = some u → w.cell? (ad.add (i.toNat * 2 + j)) = some u := hc0
  obtain rfl := k74_open hK
  exact ⟨ad, e, hc 0 _ rfl, by rw [← add_field _ _ 1 (by omega)]; exact hc 1 _ rfl⟩

/-! #### struct type 67 -/
structure S67 where
  f0 : ByteArray
  f1 : ByteArray
  f2 : ByteArray
def z67 : S67 := ⟨(⟨#[]⟩ : ByteArray), (⟨#[]⟩ : ByteArray), (⟨#[]⟩ : ByteArray)⟩
def k67 : Kd S67 := Kd.iso (Kd.pair Kd.string (Kd.pair Kd.string Kd.string)) (fun x : S67 => (x.f0, x.f1, x.f2))
theorem k67_open {w : World} {x : S67} {cs : List Value} (h : k67.K w x cs) : cs = [.string x.f0, .string x.f1, .string x.f2] := by
  obtain ⟨_, _, rfl, rfl, ⟨_, _, rfl, rfl, rfl⟩⟩ := h
  exact rfl
theorem k67_openM {w : World} {base : Nat} {ok : Nat → Prop} {x : S67} {cs : List Value} (h : k67.M w base ok x cs) : cs = [.string x.f0, .string x.f1, .string x.f2] := by
  obtain ⟨_, _, rfl, rfl, ⟨_, _, rfl, rfl, rfl⟩⟩ := h
  exact rfl
theorem k67_mk (w : World) (x : S67)  : k67.K w x [.string x.f0, .string x.f1, .string x.f2] := ⟨[.string x.f0], [.string x.f1, .string x.f2], rfl, rfl, ⟨[.string x.f1], [.string x.f2], rfl, rfl, rfl⟩⟩
theorem k67_mkM (w : World) (base : Nat) (ok : Nat → Prop) (x : S67)  : k67.M w base ok x [.string x.f0, .string x.f1, .string x.f2] := ⟨[.string x.f0], [.string x.f1, .string x.f2], rfl, rfl, ⟨[.string x.f1], [.string x.f2], rfl, rfl, rfl⟩⟩
theorem k67_mkF (W : World) (ok : Nat → Prop) (x : S67) : Kd.FK k67 W ok x [.string x.f0, .string x.f1, .string x.f2] := fun W2 _ => k67_mk W2 x
def rd_T67 (xs : List S67) (i : Int) : S67 := xs.getD i.toNat z67
theorem at_T67 {w : World} {A : Option Addr} {n : Nat} {xs : List S67} (h : Kd.C k67 w A n xs) (i : Int) (h0 : 0 ≤ i) (h1 : i < n) : ∃ ad , A = some ad ∧ w.cell? (ad.add (i.toNat * 3)) = some (.string (rd_T67 xs i).f0) ∧ w.cell? ⟨(ad.add (i.toNat * 3)).block, (ad.add (i.toNat * 3)).off + 1, none⟩ = some (.string (rd_T67 xs i).f1) ∧ w.cell? ⟨(ad.add (i.toNat * 3)).block, (ad.add (i.toNat * 3)).off + 2, none⟩ = some (.string (rd_T67 xs i).f2) := by
  obtain ⟨ad, c, e, _, hK, hc0⟩ := Kd.C_get h z67 i h0 h1
  have hc : ∀ j u, c[j]? = some u → w.cell? (ad.add (i.toNat * 3 + j)) = some u := hc0
  obtain rfl := k67_open hK
  exact ⟨ad, e, hc 0 _ rfl, by rw [← add_field _ _ 1 (by omega)]; exact hc 1 _ rfl, by rw [← add_field _ _ 2 (by omega)]; exact hc 2 _ rfl⟩

def rd_L4 (xs : List (List S67)) (i : Int) : (List S67) := xs.getD i.toNat ([] : List S67)
theorem at_L4 {w : World} {A : Option Addr} {n : Nat} {xs : List (List S67)} (h : Kd.C (Kd.slice 67 k67) w A n xs) (i : Int) (h0 : 0 ≤ i) (h1 : i < n) : ∃ ad A0 c0, A = some ad ∧ w.cell? (ad.add i.toNat) = some (.slice A0 (rd_L4 xs i).length c0) ∧ (rd_L4 xs i).length ≤ c0 ∧ k67.C w A0 (rd_L4 xs i).length (rd_L4 xs i) := by
  obtain ⟨ad, c, e, _, hK, hc0⟩ := Kd.C_get h ([] : List S67) i h0 h1
  have hc : ∀ j u, c[j]? = some u → w.cell? (ad.add (i.toNat * 1 + j)) = some u := hc0
  obtain ⟨A0, c0, rfl, l0, g0⟩ := hK
  exact ⟨ad, A0, c0, e, by have hq := hc 0 _ rfl; rwa [Nat.mul_one, Nat.add_zero] at hq, l0, g0⟩

/-! #### struct type 60 -/
structure S60 where
  f0 : Int
  f1 : ByteArray
  f2 : ByteArray
  f3 : (List S67)
  f4 : ByteArray
  f5 : Int
def z60 : S60 := ⟨(0 : Int), (⟨#[]⟩ : ByteArray), (⟨#[]⟩ : ByteArray), ([] : List S67), (⟨#[]⟩ : ByteArray), (0 : Int)⟩
def k60 : Kd S60 := Kd.iso (Kd.pair (Kd.int .i64) (Kd.pair Kd.string (Kd.pair Kd.string (Kd.pair (Kd.slice 67 k67) (Kd.pair Kd.string (Kd.int .i64)))))) (fun x : S60 => (x.f0, x.f1, x.f2, x.f3, x.f4, x.f5))
theorem k60_open {w : World} {x : S60} {cs : List Value} (h : k60.K w x cs) : ∃ A3 c3, cs = [.int .i64 x.f0, .string x.f1, .string x.f2, .slice A3 x.f3.length c3, .string x.f4, .int .i64 x.f5] ∧ x.f3.length ≤ c3 ∧ k67.C w A3 x.f3.length x.f3 := by
  obtain ⟨_, _, rfl, rfl, ⟨_, _, rfl, rfl, ⟨_, _, rfl, rfl, ⟨_, _, rfl, ⟨A3, c3, rfl, l3, g3⟩, ⟨_, _, rfl, rfl, rfl⟩⟩⟩⟩⟩ := h
  exact ⟨A3, c3, rfl, l3, g3⟩
theorem k60_openM {w : World} {base : Nat} {ok : Nat → Prop} {x : S60} {cs : List Value} (h : k60.M w base ok x cs) : ∃ v3, cs = [.int .i64 x.f0, .string x.f1, .string x.f2, v3, .string x.f4, .int .i64 x.f5] ∧ k67.R 67 w base ok v3 x.f3 := by
  obtain ⟨_, _, rfl, rfl, ⟨_, _, rfl, rfl, ⟨_, _, rfl, rfl, ⟨_, _, rfl, ⟨v3, rfl, g3⟩, ⟨_, _, rfl, rfl, rfl⟩⟩⟩⟩⟩ := h
  exact ⟨v3, rfl, g3⟩
theorem k60_mk (w : World) (x : S60) {A3 : Option Addr} {c3 : Nat} (l3 : x.f3.length ≤ c3) (g3 : k67.C w A3 x.f3.length x.f3) : k60.K w x [.int .i64 x.f0, .string x.f1, .string x.f2, .slice A3 x.f3.length c3, .string x.f4, .int .i64 x.f5] := ⟨[.int .i64 x.f0], [.string x.f1, .string x.f2, .slice A3 x.f3.length c3, .string x.f4, .int .i64 x.f5], rfl, rfl, ⟨[.string x.f1], [.string x.f2, .slice A3 x.f3.length c3, .string x.f4, .int .i64 x.f5], rfl, rfl, ⟨[.string x.f2], [.slice A3 x.f3.length c3, .string x.f4, .int .i64 x.f5], rfl, rfl, ⟨[.slice A3 x.f3.length c3], [.string x.f4, .int .i64 x.f5], rfl, ⟨A3, c3, rfl, l3, g3⟩, ⟨[.string x.f4], [.int .i64 x.f5], rfl, rfl, rfl⟩⟩⟩⟩⟩
theorem k60_mkM (w : World) (base : Nat) (ok : Nat → Prop) (x : S60) {v3 : Value} (g3 : k67.R 67 w base ok v3 x.f3) : k60.M w base ok x [.int .i64 x.f0, .string x.f1, .string x.f2, v3, .string x.f4, .int .i64 x.f5] := ⟨[.int .i64 x.f0], [.string x.f1, .string x.f2, v3, .string x.f4, .int .i64 x.f5], rfl, rfl, ⟨[.string x.f1], [.string x.f2, v3, .string x.f4, .int .i64 x.f5], rfl, rfl, ⟨[.string x.f2], [v3, .string x.f4, .int .i64 x.f5], rfl, rfl, ⟨[v3], [.string x.f4, .int .i64 x.f5], rfl, ⟨v3, rfl, g3⟩, ⟨[.string x.f4], [.int .i64 x.f5], rfl, rfl, rfl⟩⟩⟩⟩⟩
theorem k60_openF {W : World} {ok : Nat → Prop} {x : S60} {cs : List Value} (h : Kd.FK k60 W ok x cs) : ∃ A3 c3, cs = [.int .i64 x.f0, .string x.f1, .string x.f2, .slice A3 x.f3.length c3, .string x.f4, .int .i64 x.f5] ∧ x.f3.length ≤ c3 ∧ Kd.F k67 W ok A3 x.f3.length x.f3 := by
  obtain ⟨A3, c3, rfl, l3, _⟩ := k60_open (Kd.FK_now h)
  exact ⟨A3, c3, rfl, l3, (fun W' hW => by obtain ⟨A3_, c3_, he, l3_, g3_⟩ := k60_open (h W' hW); injection (Option.some.inj (show some (Value.slice A3 x.f3.length c3) = some (Value.slice A3_ x.f3.length c3_) from congrArg (fun l => l[3]?) he)) with ha_ _ _; rw [ha_]; exact g3_)⟩
theorem k60_mkF (W : World) (ok : Nat → Prop) (x : S60) {A3 : Option Addr} {c3 : Nat} (l3 : x.f3.length ≤ c3) (g3 : Kd.F k67 W ok A3 x.f3.length x.f3) : Kd.FK k60 W ok x [.int .i64 x.f0, .string x.f1, .string x.f2, .slice A3 x.f3.length c3, .string x.f4, .int .i64 x.f5] := fun W2 hW => k60_mk W2 x l3 (g3 W2 hW)
def rd_T60 (xs : List S60) (i : Int) : S60 := xs.getD i.toNat z60
theorem at_T60 {w : World} {A : Option Addr} {n : Nat} {xs : List S60} (h : Kd.C k60 w A n xs) (i : Int) (h0 : 0 ≤ i) (h1 : i < n) : ∃ ad A3 c3, A = some ad ∧ w.cell? (ad.add (i.toNat * 6)) = some (.int .i64 (rd_T60 xs i).f0) ∧ w.cell? ⟨(ad.add (i.toNat * 6)).block, (ad.add (i.toNat * 6)).off + 1, none⟩ = some (.string (rd_T60 xs i).f1) ∧ w.cell? ⟨(ad.add (i.toNat * 6)).block, (ad.add (i.toNat * 6)).off + 2, none⟩ = some (.string (rd_T60 xs i).f2) ∧ w.cell? ⟨(ad.add (i.toNat * 6)).block, (ad.add (i.toNat * 6)).off + 3, none⟩ = some (.slice A3 (rd_T60 xs i).f3.length c3) ∧ w.cell? ⟨(ad.add (i.toNat * 6)).block, (ad.add (i.toNat * 6)).off + 4, none⟩ = some (.string (rd_T60 xs i).f4) ∧ w.cell? ⟨(ad.add (i.toNat * 6)).block, (ad.add (i.toNat * 6)).off + 5, none⟩ = some (.int .i64 (rd_T60 xs i).f5) ∧ (rd_T60 xs i).f3.length ≤ c3 ∧ k67.C w A3 (rd_T60 xs i).f3.length (rd_T60 xs i).f3 := by
  obtain ⟨ad, c, e, _, hK, hc0⟩ := Kd.C_get h z60 i h0 h1
  have hc : ∀ j u, c[j]? = some u → w.cell? (ad.add (i.toNat * 6 + j)) = some u := hc0
  obtain ⟨A3, c3, rfl, l3, g3⟩ := k60_open hK
  exact ⟨ad, A3, c3, e, hc 0 _ rfl, by rw [← add_field _ _ 1 (by omega)]; exact hc 1 _ rfl, by rw [← add_field _ _ 2 (by omega)]; exact hc 2 _ rfl, by rw [← add_field _ _ 3 (by omega)]; exact hc 3 _ rfl, by rw [← add_field _ _ 4 (by omega)]; exact hc 4 _ rfl, by rw [← add_field _ _ 5 (by omega)]; exact hc 5 _ rfl, l3, g3⟩

def rd_L6 (xs : List (List S74)) (i : Int) : (List S74) := xs.getD i.toNat ([] : List S74)
theorem at_L6 {w : World} {A : Option Addr} {n : Nat} {xs : List (List S74)} (h : Kd.C (Kd.slice 74 k74) w A n xs) (i : Int) (h0 : 0 ≤ i) (h1 : i < n) : ∃ ad A0 c0, A = some ad ∧ w.cell? (ad.add i.toNat) = some (.slice A0 (rd_L6 xs i).length c0) ∧ (rd_L6 xs i).length ≤ c0 ∧ k74.C w A0 (rd_L6 xs i).length (rd_L6 xs i) := by
  obtain ⟨ad, c, e, _, hK, hc0⟩ := Kd.C_get h ([] : List S74) i h0 h1
  have hc : ∀ j u, c[j]? = some u → w.cell? (ad.add (i.toNat * 1 + j)) = some u := hc0
  obtain ⟨A0, c0, rfl, l0, g0⟩ := hK
  exact ⟨ad, A0, c0, e, by have hq := hc 0 _ rfl; rwa [Nat.mul_one, Nat.add_zero] at hq, l0, g0⟩

end Go.Proofs.YtfchmbhbkhgfnaaDoor.PFnEscapePlain
