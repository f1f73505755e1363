-- Printed by a program (the kit's print.py, called by wip/pr.sh of this session): not typed by hand.
import Derived.Test.YtmkbebincjppnaaGreatDoorProg
import Derived.Below
import Derived.Deep.Draws
import Derived.Deep.AppendLies
import Derived.Maps.AppendAt
import Derived.OwnWalk
import Derived.Laws.BytesArg
import Derived.Laws.MakeOwn
import Derived.Laws.OwnMore
import Derived.Deep.OwnRows
import Derived.Tactics
import Derived.Lib.ConvBytes
import Derived.Laws.Slices
import Derived.WalkKit
import Derived.KernelRfl
import Derived.RowKit3
import Derived.Deep.LoopGhost
import Derived.Deep.QuietTactic
import Derived.BigQuiet
import Derived.WideLaws
import Derived.Deep.DeepCutAuto
import Derived.Deep.CutBlock
import Derived.Deep.RegionHeld3
import Derived.Laws.Rows
import Derived.Lib.AppendStr
import Derived.ArgAppend
import Derived.Laws.IdiomCopy
import Derived.OrdersHeld
import Derived.Laws.BitsLemmas
import Derived.RowKit
import Derived.Test.YtmkbebincjppnaaGreatDoorWWords
import Derived.Test.YtmkbebincjppnaaGreatDoorWLast
import Derived.Test.YtmkbebincjppnaaGreatDoorWTab
import Derived.Test.YtmkbebincjppnaaGreatDoorWQPut
import Derived.Test.YtmkbebincjppnaaGreatDoorWApart
import Derived.Test.YtmkbebincjppnaaGreatDoorWArr
import Derived.Test.YtmkbebincjppnaaGreatDoorWZeros
import Derived.Test.YtmkbebincjppnaaGreatDoorWFoot
import Derived.Test.YtmkbebincjppnaaGreatDoorWKept
import Derived.Test.YtmkbebincjppnaaGreatDoorWShare
import Derived.Test.YtmkbebincjppnaaGreatDoorWN
import Derived.Test.YtmkbebincjppnaaGreatDoorWNEv
import Derived.Test.YtmkbebincjppnaaGreatDoorWMore
namespace Go.Proofs.YtmkbebincjppnaaGreatDoor.PLib
open Go.RowKit Go.Proofs.YtmkbebincjppnaaGreatDoorW.PrintWords Go.Proofs.YtmkbebincjppnaaGreatDoorW.PrintLast Go.Proofs.YtmkbebincjppnaaGreatDoorW.PrintMore
attribute [local go_sem] max2_int min2_int max_two min_two max_three min_three max_four min_four   -- for this text's walks alone
set_option linter.unusedVariables false
set_option linter.unusedSimpArgs false



def errW : Option Int → Value
  | none => .nilIface
  | some c => .iface 0 (.int .i64 c)
theorem errW_none : errW none = .nilIface := rfl
theorem errW_some (c : Int) : errW (some c) = .iface 0 (.int .i64 c) := rfl

theorem info3 : (Tryz.prog.info? 3).map (fun i => (i.zero, i.size, i.bytes)) = some (some (.int .i64 0), 1, 8) := by kernel_rfl
theorem info31 : (Tryz.prog.info? 31).map (fun i => (i.zero, i.size, i.bytes)) = some (some (.agg #[(.int .i64 0), (.string ⟨#[]⟩), (.int .u16 0), (.int .u16 0), (.int .u8 0), (.bool false), (.slice none 0 0), (.int .i64 0), (.int .i64 0), (.int .i64 0), (.slice none 0 0)]), 11, 104) := by kernel_rfl
theorem info36 : (Tryz.prog.info? 36).map (fun i => (i.zero, i.size, i.bytes)) = some (some (.agg #[(.int .u8 0), (.int .u16 0), (.bool false), (.bool false)]), 4, 6) := by kernel_rfl
theorem info96 : (Tryz.prog.info? 96).map (fun i => (i.zero, i.size, i.bytes)) = some (some (.agg #[(.int .u8 0), (.int .u16 0), (.bool false), (.bool false)]), 4, 6) := by kernel_rfl
-- the values' own types
/-! #### struct type 62 -/
structure S62 where
  f0 : ByteArray
  f1 : Int
  f2 : Int
  f3 : Int
  f4 : Bool
def z62 : S62 := ⟨(⟨#[]⟩ : ByteArray), (0 : Int), (0 : Int), (0 : Int), false⟩
def k62 : Kd S62 := Kd.iso (Kd.pair Kd.string (Kd.pair (Kd.int .u16) (Kd.pair (Kd.int .u16) (Kd.pair (Kd.int .u8) Kd.bool)))) (fun x : S62 => (x.f0, x.f1, x.f2, x.f3, x.f4))
theorem k62_open {w : World} {x : S62} {cs : List Value} (h : k62.K w x cs) : cs = [.string x.f0, .int .u16 x.f1, .int .u16 x.f2, .int .u8 x.f3, .bool x.f4] := by
  obtain ⟨_, _, rfl, rfl, ⟨_, _, rfl, rfl, ⟨_, _, rfl, rfl, ⟨_, _, rfl, rfl, rfl⟩⟩⟩⟩ := h
  exact rfl
theorem k62_openM {w : World} {base : Nat} {ok : Nat → Prop} {x : S62} {cs : List Value} (h : k62.M w base ok x cs) : cs = [.string x.f0, .int .u16 x.f1, .int .u16 x.f2, .int .u8 x.f3, .bool x.f4] := by
  obtain ⟨_, _, rfl, rfl, ⟨_, _, rfl, rfl, ⟨_, _, rfl, rfl, ⟨_, _, rfl, rfl, rfl⟩⟩⟩⟩ := h
  exact rfl
theorem k62_mk (w : World) (x : S62)  : k62.K w x [.string x.f0, .int .u16 x.f1, .int .u16 x.f2, .int .u8 x.f3, .bool x.f4] := ⟨[.string x.f0], [.int .u16 x.f1, .int .u16 x.f2, .int .u8 x.f3, .bool x.f4], rfl, rfl, ⟨[.int .u16 x.f1], [.int .u16 x.f2, .int .u8 x.f3, .bool x.f4], rfl, rfl, ⟨[.int .u16 x.f2], [.int .u8 x.f3, .bool x.f4], rfl, rfl, ⟨[.int .u8 x.f3], [.bool x.f4], rfl, rfl, rfl⟩⟩⟩⟩
theorem k62_mkM (w : World) (base : Nat) (ok : Nat → Prop) (x : S62)  : k62.M w base ok x [.string x.f0, .int .u16 x.f1, .int .u16 x.f2, .int .u8 x.f3, .bool x.f4] := ⟨[.string x.f0], [.int .u16 x.f1, .int .u16 x.f2, .int .u8 x.f3, .bool x.f4], rfl, rfl, ⟨[.int .u16 x.f1], [.int .u16 x.f2, .int .u8 x.f3, .bool x.f4], rfl, rfl, ⟨[.int .u16 x.f2], [.int .u8 x.f3, .bool x.f4], rfl, rfl, ⟨[.int .u8 x.f3], [.bool x.f4], rfl, rfl, rfl⟩⟩⟩⟩
def rd_T62 (xs : List S62) (i : Int) : S62 := xs.getD i.toNat z62
theorem at_T62 {w : World} {A : Option Addr} {n : Nat} {xs : List S62} (h : Kd.C k62 w A n xs) (i : Int) (h0 : 0 ≤ i) (h1 : i < n) : ∃ ad , A = some ad ∧ w.cell? (ad.add (i.toNat * 5)) = some (.string (rd_T62 xs i).f0) ∧ w.cell? ⟨(ad.add (i.toNat * 5)).block, (ad.add (i.toNat * 5)).off + 1, none⟩ = some (.int .u16 (rd_T62 xs i).f1) ∧ w.cell? ⟨(ad.add (i.toNat * 5)).block, (ad.add (i.toNat * 5)).off + 2, none⟩ = some (.int .u16 (rd_T62 xs i).f2) ∧ w.cell? ⟨(ad.add (i.toNat * 5)).block, (ad.add (i.toNat * 5)).off + 3, none⟩ = some (.int .u8 (rd_T62 xs i).f3) ∧ w.cell? ⟨(ad.add (i.toNat * 5)).block, (ad.add (i.toNat * 5)).off + 4, none⟩ = some (.bool (rd_T62 xs i).f4) := by
  obtain ⟨ad, c, e, _, hK, hc0⟩ := Kd.C_get h z62 i h0 h1
  have hc : ∀ j u, c[j]? = some u → w.cell? (ad.add (i.toNat * 5 + j)) = some u := hc0
  obtain rfl := k62_open hK
  exact ⟨ad, e, hc 0 _ rfl, by rw [← add_field _ _ 1 (by omega)]; exact hc 1 _ rfl, by rw [← add_field _ _ 2 (by omega)]; exact hc 2 _ rfl, by rw [← add_field _ _ 3 (by omega)]; exact hc 3 _ rfl, by rw [← add_field _ _ 4 (by omega)]; exact hc 4 _ rfl⟩

/-! #### struct type 36 -/
structure S36 where
  f0 : Int
  f1 : Int
  f2 : Bool
  f3 : Bool
def z36 : S36 := ⟨(0 : Int), (0 : Int), false, false⟩
def k36 : Kd S36 := Kd.iso (Kd.pair (Kd.int .u8) (Kd.pair (Kd.int .u16) (Kd.pair Kd.bool Kd.bool))) (fun x : S36 => (x.f0, x.f1, x.f2, x.f3))
theorem k36_open {w : World} {x : S36} {cs : List Value} (h : k36.K w x cs) : cs = [.int .u8 x.f0, .int .u16 x.f1, .bool x.f2, .bool x.f3] := by
  obtain ⟨_, _, rfl, rfl, ⟨_, _, rfl, rfl, ⟨_, _, rfl, rfl, rfl⟩⟩⟩ := h
  exact rfl
theorem k36_openM {w : World} {base : Nat} {ok : Nat → Prop} {x : S36} {cs : List Value} (h : k36.M w base ok x cs) : cs = [.int .u8 x.f0, .int .u16 x.f1, .bool x.f2, .bool x.f3] := by
  obtain ⟨_, _, rfl, rfl, ⟨_, _, rfl, rfl, ⟨_, _, rfl, rfl, rfl⟩⟩⟩ := h
  exact rfl
theorem k36_mk (w : World) (x : S36)  : k36.K w x [.int .u8 x.f0, .int .u16 x.f1, .bool x.f2, .bool x.f3] := ⟨[.int .u8 x.f0], [.int .u16 x.f1, .bool x.f2, .bool x.f3], rfl, rfl, ⟨[.int .u16 x.f1], [.bool x.f2, .bool x.f3], rfl, rfl, ⟨[.bool x.f2], [.bool x.f3], rfl, rfl, rfl⟩⟩⟩
theorem k36_mkM (w : World) (base : Nat) (ok : Nat → Prop) (x : S36)  : k36.M w base ok x [.int .u8 x.f0, .int .u16 x.f1, .bool x.f2, .bool x.f3] := ⟨[.int .u8 x.f0], [.int .u16 x.f1, .bool x.f2, .bool x.f3], rfl, rfl, ⟨[.int .u16 x.f1], [.bool x.f2, .bool x.f3], rfl, rfl, ⟨[.bool x.f2], [.bool x.f3], rfl, rfl, rfl⟩⟩⟩
def rd_T36 (xs : List S36) (i : Int) : S36 := xs.getD i.toNat z36
theorem at_T36 {w : World} {A : Option Addr} {n : Nat} {xs : List S36} (h : Kd.C k36 w A n xs) (i : Int) (h0 : 0 ≤ i) (h1 : i < n) : ∃ ad , A = some ad ∧ w.cell? (ad.add (i.toNat * 4)) = some (.int .u8 (rd_T36 xs i).f0) ∧ w.cell? ⟨(ad.add (i.toNat * 4)).block, (ad.add (i.toNat * 4)).off + 1, none⟩ = some (.int .u16 (rd_T36 xs i).f1) ∧ w.cell? ⟨(ad.add (i.toNat * 4)).block, (ad.add (i.toNat * 4)).off + 2, none⟩ = some (.bool (rd_T36 xs i).f2) ∧ w.cell? ⟨(ad.add (i.toNat * 4)).block, (ad.add (i.toNat * 4)).off + 3, none⟩ = some (.bool (rd_T36 xs i).f3) := by
  obtain ⟨ad, c, e, _, hK, hc0⟩ := Kd.C_get h z36 i h0 h1
  have hc : ∀ j u, c[j]? = some u → w.cell? (ad.add (i.toNat * 4 + j)) = some u := hc0
  obtain rfl := k36_open hK
  exact ⟨ad, e, hc 0 _ rfl, by rw [← add_field _ _ 1 (by omega)]; exact hc 1 _ rfl, by rw [← add_field _ _ 2 (by omega)]; exact hc 2 _ rfl, by rw [← add_field _ _ 3 (by omega)]; exact hc 3 _ rfl⟩

def rd_L7 (xs : List (List S36)) (i : Int) : (List S36) := xs.getD i.toNat ([] : List S36)
theorem at_L7 {w : World} {A : Option Addr} {n : Nat} {xs : List (List S36)} (h : Kd.C (Kd.slice 36 k36) w A n xs) (i : Int) (h0 : 0 ≤ i) (h1 : i < n) : ∃ ad A0 c0, A = some ad ∧ w.cell? (ad.add i.toNat) = some (.slice A0 (rd_L7 xs i).length c0) ∧ (rd_L7 xs i).length ≤ c0 ∧ k36.C w A0 (rd_L7 xs i).length (rd_L7 xs i) := by
  obtain ⟨ad, c, e, _, hK, hc0⟩ := Kd.C_get h ([] : List S36) i h0 h1
  have hc : ∀ j u, c[j]? = some u → w.cell? (ad.add (i.toNat * 1 + j)) = some u := hc0
  obtain ⟨A0, c0, rfl, l0, g0⟩ := hK
  exact ⟨ad, A0, c0, e, by have hq := hc 0 _ rfl; rwa [Nat.mul_one, Nat.add_zero] at hq, l0, g0⟩

def rd_L8 (xs : List (List ByteArray)) (i : Int) : (List ByteArray) := xs.getD i.toNat ([] : List ByteArray)
theorem at_L8 {w : World} {A : Option Addr} {n : Nat} {xs : List (List ByteArray)} (h : Kd.C (Kd.slice 9 Kd.string) w A n xs) (i : Int) (h0 : 0 ≤ i) (h1 : i < n) : ∃ ad A0 c0, A = some ad ∧ w.cell? (ad.add i.toNat) = some (.slice A0 (rd_L8 xs i).length c0) ∧ (rd_L8 xs i).length ≤ c0 ∧ Kd.string.C w A0 (rd_L8 xs i).length (rd_L8 xs i) := by
  obtain ⟨ad, c, e, _, hK, hc0⟩ := Kd.C_get h ([] : List ByteArray) i h0 h1
  have hc : ∀ j u, c[j]? = some u → w.cell? (ad.add (i.toNat * 1 + j)) = some u := hc0
  obtain ⟨A0, c0, rfl, l0, g0⟩ := hK
  exact ⟨ad, A0, c0, e, by have hq := hc 0 _ rfl; rwa [Nat.mul_one, Nat.add_zero] at hq, l0, g0⟩

/-! #### struct type 31 -/
structure S31 where
  f0 : Int
  f1 : ByteArray
  f2 : Int
  f3 : Int
  f4 : Int
  f5 : Bool
  f6 : (List S36)
  f7 : Int
  f8 : Int
  f9 : Int
  f10 : (List ByteArray)
def z31 : S31 := ⟨(0 : Int), (⟨#[]⟩ : ByteArray), (0 : Int), (0 : Int), (0 : Int), false, ([] : List S36), (0 : Int), (0 : Int), (0 : Int), ([] : List ByteArray)⟩
def k31 : Kd S31 := Kd.iso (Kd.pair (Kd.int .i64) (Kd.pair Kd.string (Kd.pair (Kd.int .u16) (Kd.pair (Kd.int .u16) (Kd.pair (Kd.int .u8) (Kd.pair Kd.bool (Kd.pair (Kd.slice 36 k36) (Kd.pair (Kd.int .i64) (Kd.pair (Kd.int .i64) (Kd.pair (Kd.int .i64) (Kd.slice 9 Kd.string))))))))))) (fun x : S31 => (x.f0, x.f1, x.f2, x.f3, x.f4, x.f5, x.f6, x.f7, x.f8, x.f9, x.f10))
theorem k31_open {w : World} {x : S31} {cs : List Value} (h : k31.K w x cs) : ∃ A6 c6 A10 c10, cs = [.int .i64 x.f0, .string x.f1, .int .u16 x.f2, .int .u16 x.f3, .int .u8 x.f4, .bool x.f5, .slice A6 x.f6.length c6, .int .i64 x.f7, .int .i64 x.f8, .int .i64 x.f9, .slice A10 x.f10.length c10] ∧ x.f6.length ≤ c6 ∧ k36.C w A6 x.f6.length x.f6 ∧ x.f10.length ≤ c10 ∧ Kd.string.C w A10 x.f10.length x.f10 := by
  obtain ⟨_, _, rfl, rfl, ⟨_, _, rfl, rfl, ⟨_, _, rfl, rfl, ⟨_, _, rfl, rfl, ⟨_, _, rfl, rfl, ⟨_, _, rfl, rfl, ⟨_, _, rfl, ⟨A6, c6, rfl, l6, g6⟩, ⟨_, _, rfl, rfl, ⟨_, _, rfl, rfl, ⟨_, _, rfl, rfl, ⟨A10, c10, rfl, l10, g10⟩⟩⟩⟩⟩⟩⟩⟩⟩⟩⟩ := h
  exact ⟨A6, c6, A10, c10, rfl, l6, g6, l10, g10⟩
theorem k31_openM {w : World} {base : Nat} {ok : Nat → Prop} {x : S31} {cs : List Value} (h : k31.M w base ok x cs) : ∃ v6 v10, cs = [.int .i64 x.f0, .string x.f1, .int .u16 x.f2, .int .u16 x.f3, .int .u8 x.f4, .bool x.f5, v6, .int .i64 x.f7, .int .i64 x.f8, .int .i64 x.f9, v10] ∧ k36.R 36 w base ok v6 x.f6 ∧ Kd.string.R 9 w base ok v10 x.f10 := by
  obtain ⟨_, _, rfl, rfl, ⟨_, _, rfl, rfl, ⟨_, _, rfl, rfl, ⟨_, _, rfl, rfl, ⟨_, _, rfl, rfl, ⟨_, _, rfl, rfl, ⟨_, _, rfl, ⟨v6, rfl, g6⟩, ⟨_, _, rfl, rfl, ⟨_, _, rfl, rfl, ⟨_, _, rfl, rfl, ⟨v10, rfl, g10⟩⟩⟩⟩⟩⟩⟩⟩⟩⟩⟩ := h
  exact ⟨v6, v10, rfl, g6, g10⟩
theorem k31_mk (w : World) (x : S31) {A6 : Option Addr} {c6 : Nat} (l6 : x.f6.length ≤ c6) (g6 : k36.C w A6 x.f6.length x.f6) {A10 : Option Addr} {c10 : Nat} (l10 : x.f10.length ≤ c10) (g10 : Kd.string.C w A10 x.f10.length x.f10) : k31.K w x [.int .i64 x.f0, .string x.f1, .int .u16 x.f2, .int .u16 x.f3, .int .u8 x.f4, .bool x.f5, .slice A6 x.f6.length c6, .int .i64 x.f7, .int .i64 x.f8, .int .i64 x.f9, .slice A10 x.f10.length c10] := ⟨[.int .i64 x.f0], [.string x.f1, .int .u16 x.f2, .int .u16 x.f3, .int .u8 x.f4, .bool x.f5, .slice A6 x.f6.length c6, .int .i64 x.f7, .int .i64 x.f8, .int .i64 x.f9, .slice A10 x.f10.length c10], rfl, rfl, ⟨[.string x.f1], [.int .u16 x.f2, .int .u16 x.f3, .int .u8 x.f4, .bool x.f5, .slice A6 x.f6.length c6, .int .i64 x.f7, .int .i64 x.f8, .int .i64 x.f9, .slice A10 x.f10.length c10], rfl, rfl, ⟨[.int .u16 x.f2], [.int .u16 x.f3, .int .u8 x.f4, .bool x.f5, .slice A6 x.f6.length c6, .int .i64 x.f7, .int .i64 x.f8, .int .i64 x.f9, .slice A10 x.f10.length c10], rfl, rfl, ⟨[.int .u16 x.f3], [.int .u8 x.f4, .bool x.f5, .slice A6 x.f6.length c6, .int .i64 x.f7, .int .i64 x.f8, .int .i64 x.f9, .slice A10 x.f10.length c10], rfl, rfl, ⟨[.int .u8 x.f4], [.bool x.f5, .slice A6 x.f6.length c6, .int .i64 x.f7, .int .i64 x.f8, .int .i64 x.f9, .slice A10 x.f10.length c10], rfl, rfl, ⟨[.bool x.f5], [.slice A6 x.f6.length c6, .int .i64 x.f7, .int .i64 x.f8, .int .i64 x.f9, .slice A10 x.f10.length c10], rfl, rfl, ⟨[.slice A6 x.f6.length c6], [.int .i64 x.f7, .int .i64 x.f8, .int .i64 x.f9, .slice A10 x.f10.length c10], rfl, ⟨A6, c6, rfl, l6, g6⟩, ⟨[.int .i64 x.f7], [.int .i64 x.f8, .int .i64 x.f9, .slice A10 x.f10.length c10], rfl, rfl, ⟨[.int .i64 x.f8], [.int .i64 x.f9, .slice A10 x.f10.length c10], rfl, rfl, ⟨[.int .i64 x.f9], [.slice A10 x.f10.length c10], rfl, rfl, ⟨A10, c10, rfl, l10, g10⟩⟩⟩⟩⟩⟩⟩⟩⟩⟩⟩
theorem k31_mkM (w : World) (base : Nat) (ok : Nat → Prop) (x : S31) {v6 : Value} (g6 : k36.R 36 w base ok v6 x.f6) {v10 : Value} (g10 : Kd.string.R 9 w base ok v10 x.f10) : k31.M w base ok x [.int .i64 x.f0, .string x.f1, .int .u16 x.f2, .int .u16 x.f3, .int .u8 x.f4, .bool x.f5, v6, .int .i64 x.f7, .int .i64 x.f8, .int .i64 x.f9, v10] := ⟨[.int .i64 x.f0], [.string x.f1, .int .u16 x.f2, .int .u16 x.f3, .int .u8 x.f4, .bool x.f5, v6, .int .i64 x.f7, .int .i64 x.f8, .int .i64 x.f9, v10], rfl, rfl, ⟨[.string x.f1], [.int .u16 x.f2, .int .u16 x.f3, .int .u8 x.f4, .bool x.f5, v6, .int .i64 x.f7, .int .i64 x.f8, .int .i64 x.f9, v10], rfl, rfl, ⟨[.int .u16 x.f2], [.int .u16 x.f3, .int .u8 x.f4, .bool x.f5, v6, .int .i64 x.f7, .int .i64 x.f8, .int .i64 x.f9, v10], rfl, rfl, ⟨[.int .u16 x.f3], [.int .u8 x.f4, .bool x.f5, v6, .int .i64 x.f7, .int .i64 x.f8, .int .i64 x.f9, v10], rfl, rfl, ⟨[.int .u8 x.f4], [.bool x.f5, v6, .int .i64 x.f7, .int .i64 x.f8, .int .i64 x.f9, v10], rfl, rfl, ⟨[.bool x.f5], [v6, .int .i64 x.f7, .int .i64 x.f8, .int .i64 x.f9, v10], rfl, rfl, ⟨[v6], [.int .i64 x.f7, .int .i64 x.f8, .int .i64 x.f9, v10], rfl, ⟨v6, rfl, g6⟩, ⟨[.int .i64 x.f7], [.int .i64 x.f8, .int .i64 x.f9, v10], rfl, rfl, ⟨[.int .i64 x.f8], [.int .i64 x.f9, v10], rfl, rfl, ⟨[.int .i64 x.f9], [v10], rfl, rfl, ⟨v10, rfl, g10⟩⟩⟩⟩⟩⟩⟩⟩⟩⟩⟩
def rd_T31 (xs : List S31) (i : Int) : S31 := xs.getD i.toNat z31
theorem at_T31 {w : World} {A : Option Addr} {n : Nat} {xs : List S31} (h : Kd.C k31 w A n xs) (i : Int) (h0 : 0 ≤ i) (h1 : i < n) : ∃ ad A6 c6 A10 c10, A = some ad ∧ w.cell? (ad.add (i.toNat * 11)) = some (.int .i64 (rd_T31 xs i).f0) ∧ w.cell? ⟨(ad.add (i.toNat * 11)).block, (ad.add (i.toNat * 11)).off + 1, none⟩ = some (.string (rd_T31 xs i).f1) ∧ w.cell? ⟨(ad.add (i.toNat * 11)).block, (ad.add (i.toNat * 11)).off + 2, none⟩ = some (.int .u16 (rd_T31 xs i).f2) ∧ w.cell? ⟨(ad.add (i.toNat * 11)).block, (ad.add (i.toNat * 11)).off + 3, none⟩ = some (.int .u16 (rd_T31 xs i).f3) ∧ w.cell? ⟨(ad.add (i.toNat * 11)).block, (ad.add (i.toNat * 11)).off + 4, none⟩ = some (.int .u8 (rd_T31 xs i).f4) ∧ w.cell? ⟨(ad.add (i.toNat * 11)).block, (ad.add (i.toNat * 11)).off + 5, none⟩ = some (.bool (rd_T31 xs i).f5) ∧ w.cell? ⟨(ad.add (i.toNat * 11)).block, (ad.add (i.toNat * 11)).off + 6, none⟩ = some (.slice A6 (rd_T31 xs i).f6.length c6) ∧ w.cell? ⟨(ad.add (i.toNat * 11)).block, (ad.add (i.toNat * 11)).off + 7, none⟩ = some (.int .i64 (rd_T31 xs i).f7) ∧ w.cell? ⟨(ad.add (i.toNat * 11)).block, (ad.add (i.toNat * 11)).off + 8, none⟩ = some (.int .i64 (rd_T31 xs i).f8) ∧ w.cell? ⟨(ad.add (i.toNat * 11)).block, (ad.add (i.toNat * 11)).off + 9, none⟩ = some (.int .i64 (rd_T31 xs i).f9) ∧ w.cell? ⟨(ad.add (i.toNat * 11)).block, (ad.add (i.toNat * 11)).off + 10, none⟩ = some (.slice A10 (rd_T31 xs i).f10.length c10) ∧ (rd_T31 xs i).f6.length ≤ c6 ∧ k36.C w A6 (rd_T31 xs i).f6.length (rd_T31 xs i).f6 ∧ (rd_T31 xs i).f10.length ≤ c10 ∧ Kd.string.C w A10 (rd_T31 xs i).f10.length (rd_T31 xs i).f10 := by
  obtain ⟨ad, c, e, _, hK, hc0⟩ := Kd.C_get h z31 i h0 h1
  have hc : ∀ j u, c[j]? = some u → w.cell? (ad.add (i.toNat * 11 + j)) = some u := hc0
  obtain ⟨A6, c6, A10, c10, rfl, l6, g6, l10, g10⟩ := k31_open hK
  exact ⟨ad, A6, c6, A10, c10, e, hc 0 _ rfl, by rw [← add_field _ _ 1 (by omega)]; exact hc 1 _ rfl, by rw [← add_field _ _ 2 (by omega)]; exact hc 2 _ rfl, by rw [← add_field _ _ 3 (by omega)]; exact hc 3 _ rfl, by rw [← add_field _ _ 4 (by omega)]; exact hc 4 _ rfl, by rw [← add_field _ _ 5 (by omega)]; exact hc 5 _ rfl, by rw [← add_field _ _ 6 (by omega)]; exact hc 6 _ rfl, by rw [← add_field _ _ 7 (by omega)]; exact hc 7 _ rfl, by rw [← add_field _ _ 8 (by omega)]; exact hc 8 _ rfl, by rw [← add_field _ _ 9 (by omega)]; exact hc 9 _ rfl, by rw [← add_field _ _ 10 (by omega)]; exact hc 10 _ rfl, l6, g6, l10, g10⟩

/-! #### struct type 45 -/
structure S45 where
  f0 : Int
  f1 : Int
  f2 : Bool
  f3 : Bool
def z45 : S45 := ⟨(0 : Int), (0 : Int), false, false⟩
def k45 : Kd S45 := Kd.iso (Kd.pair (Kd.int .u8) (Kd.pair (Kd.int .u16) (Kd.pair Kd.bool Kd.bool))) (fun x : S45 => (x.f0, x.f1, x.f2, x.f3))
theorem k45_open {w : World} {x : S45} {cs : List Value} (h : k45.K w x cs) : cs = [.int .u8 x.f0, .int .u16 x.f1, .bool x.f2, .bool x.f3] := by
  obtain ⟨_, _, rfl, rfl, ⟨_, _, rfl, rfl, ⟨_, _, rfl, rfl, rfl⟩⟩⟩ := h
  exact rfl
theorem k45_openM {w : World} {base : Nat} {ok : Nat → Prop} {x : S45} {cs : List Value} (h : k45.M w base ok x cs) : cs = [.int .u8 x.f0, .int .u16 x.f1, .bool x.f2, .bool x.f3] := by
  obtain ⟨_, _, rfl, rfl, ⟨_, _, rfl, rfl, ⟨_, _, rfl, rfl, rfl⟩⟩⟩ := h
  exact rfl
theorem k45_mk (w : World) (x : S45)  : k45.K w x [.int .u8 x.f0, .int .u16 x.f1, .bool x.f2, .bool x.f3] := ⟨[.int .u8 x.f0], [.int .u16 x.f1, .bool x.f2, .bool x.f3], rfl, rfl, ⟨[.int .u16 x.f1], [.bool x.f2, .bool x.f3], rfl, rfl, ⟨[.bool x.f2], [.bool x.f3], rfl, rfl, rfl⟩⟩⟩
theorem k45_mkM (w : World) (base : Nat) (ok : Nat → Prop) (x : S45)  : k45.M w base ok x [.int .u8 x.f0, .int .u16 x.f1, .bool x.f2, .bool x.f3] := ⟨[.int .u8 x.f0], [.int .u16 x.f1, .bool x.f2, .bool x.f3], rfl, rfl, ⟨[.int .u16 x.f1], [.bool x.f2, .bool x.f3], rfl, rfl, ⟨[.bool x.f2], [.bool x.f3], rfl, rfl, rfl⟩⟩⟩
def rd_T45 (xs : List S45) (i : Int) : S45 := xs.getD i.toNat z45
theorem at_T45 {w : World} {A : Option Addr} {n : Nat} {xs : List S45} (h : Kd.C k45 w A n xs) (i : Int) (h0 : 0 ≤ i) (h1 : i < n) : ∃ ad , A = some ad ∧ w.cell? (ad.add (i.toNat * 4)) = some (.int .u8 (rd_T45 xs i).f0) ∧ w.cell? ⟨(ad.add (i.toNat * 4)).block, (ad.add (i.toNat * 4)).off + 1, none⟩ = some (.int .u16 (rd_T45 xs i).f1) ∧ w.cell? ⟨(ad.add (i.toNat * 4)).block, (ad.add (i.toNat * 4)).off + 2, none⟩ = some (.bool (rd_T45 xs i).f2) ∧ w.cell? ⟨(ad.add (i.toNat * 4)).block, (ad.add (i.toNat * 4)).off + 3, none⟩ = some (.bool (rd_T45 xs i).f3) := by
  obtain ⟨ad, c, e, _, hK, hc0⟩ := Kd.C_get h z45 i h0 h1
  have hc : ∀ j u, c[j]? = some u → w.cell? (ad.add (i.toNat * 4 + j)) = some u := hc0
  obtain rfl := k45_open hK
  exact ⟨ad, e, hc 0 _ rfl, by rw [← add_field _ _ 1 (by omega)]; exact hc 1 _ rfl, by rw [← add_field _ _ 2 (by omega)]; exact hc 2 _ rfl, by rw [← add_field _ _ 3 (by omega)]; exact hc 3 _ rfl⟩

/-! #### struct type 96 -/
structure S96 where
  f0 : Int
  f1 : Int
  f2 : Bool
  f3 : Bool
def z96 : S96 := ⟨(0 : Int), (0 : Int), false, false⟩
def k96 : Kd S96 := Kd.iso (Kd.pair (Kd.int .u8) (Kd.pair (Kd.int .u16) (Kd.pair Kd.bool Kd.bool))) (fun x : S96 => (x.f0, x.f1, x.f2, x.f3))
theorem k96_open {w : World} {x : S96} {cs : List Value} (h : k96.K w x cs) : cs = [.int .u8 x.f0, .int .u16 x.f1, .bool x.f2, .bool x.f3] := by
  obtain ⟨_, _, rfl, rfl, ⟨_, _, rfl, rfl, ⟨_, _, rfl, rfl, rfl⟩⟩⟩ := h
  exact rfl
theorem k96_openM {w : World} {base : Nat} {ok : Nat → Prop} {x : S96} {cs : List Value} (h : k96.M w base ok x cs) : cs = [.int .u8 x.f0, .int .u16 x.f1, .bool x.f2, .bool x.f3] := by
  obtain ⟨_, _, rfl, rfl, ⟨_, _, rfl, rfl, ⟨_, _, rfl, rfl, rfl⟩⟩⟩ := h
  exact rfl
theorem k96_mk (w : World) (x : S96)  : k96.K w x [.int .u8 x.f0, .int .u16 x.f1, .bool x.f2, .bool x.f3] := ⟨[.int .u8 x.f0], [.int .u16 x.f1, .bool x.f2, .bool x.f3], rfl, rfl, ⟨[.int .u16 x.f1], [.bool x.f2, .bool x.f3], rfl, rfl, ⟨[.bool x.f2], [.bool x.f3], rfl, rfl, rfl⟩⟩⟩
theorem k96_mkM (w : World) (base : Nat) (ok : Nat → Prop) (x : S96)  : k96.M w base ok x [.int .u8 x.f0, .int .u16 x.f1, .bool x.f2, .bool x.f3] := ⟨[.int .u8 x.f0], [.int .u16 x.f1, .bool x.f2, .bool x.f3], rfl, rfl, ⟨[.int .u16 x.f1], [.bool x.f2, .bool x.f3], rfl, rfl, ⟨[.bool x.f2], [.bool x.f3], rfl, rfl, rfl⟩⟩⟩
def rd_T96 (xs : List S96) (i : Int) : S96 := xs.getD i.toNat z96
theorem at_T96 {w : World} {A : Option Addr} {n : Nat} {xs : List S96} (h : Kd.C k96 w A n xs) (i : Int) (h0 : 0 ≤ i) (h1 : i < n) : ∃ ad , A = some ad ∧ w.cell? (ad.add (i.toNat * 4)) = some (.int .u8 (rd_T96 xs i).f0) ∧ w.cell? ⟨(ad.add (i.toNat * 4)).block, (ad.add (i.toNat * 4)).off + 1, none⟩ = some (.int .u16 (rd_T96 xs i).f1) ∧ w.cell? ⟨(ad.add (i.toNat * 4)).block, (ad.add (i.toNat * 4)).off + 2, none⟩ = some (.bool (rd_T96 xs i).f2) ∧ w.cell? ⟨(ad.add (i.toNat * 4)).block, (ad.add (i.toNat * 4)).off + 3, none⟩ = some (.bool (rd_T96 xs i).f3) := by
  obtain ⟨ad, c, e, _, hK, hc0⟩ := Kd.C_get h z96 i h0 h1
  have hc : ∀ j u, c[j]? = some u → w.cell? (ad.add (i.toNat * 4 + j)) = some u := hc0
  obtain rfl := k96_open hK
  exact ⟨ad, e, hc 0 _ rfl, by rw [← add_field _ _ 1 (by omega)]; exact hc 1 _ rfl, by rw [← add_field _ _ 2 (by omega)]; exact hc 2 _ rfl, by rw [← add_field _ _ 3 (by omega)]; exact hc 3 _ rfl⟩

end Go.Proofs.YtmkbebincjppnaaGreatDoor.PLib
