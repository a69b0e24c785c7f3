/- Written by a program of this session (wip/gen/myprint.py) over the kit's print, with contracts of this session's own for the functions that the print does not take. -/
import Derived.Test.YtogbpljnekgfkaaGreatDoorProg
import Derived.Below
import Derived.Deep.Draws
import Derived.Deep.AppendLies
import Derived.Maps.AppendAt
import Derived.OwnWalk
import Derived.Laws.BytesArg
import Derived.Laws.MakeOwn
import Derived.Laws.OwnMore
import Derived.Deep.OwnRows
import Derived.Tactics
import Derived.Lib.ConvBytes
import Derived.Laws.Slices
import Derived.WalkKit
import Derived.KernelRfl
import Derived.RowKit3
import Derived.Deep.LoopGhost
import Derived.Deep.QuietTactic
import Derived.BigQuiet
import Derived.WideLaws
import Derived.Deep.DeepCutAuto
import Derived.Deep.CutBlock
import Derived.Deep.RegionHeld3
import Derived.Laws.Rows
import Derived.Lib.AppendStr
import Derived.ArgAppend
import Derived.Laws.IdiomCopy
import Derived.OrdersHeld
import Derived.Laws.BitsLemmas
import Derived.RowKit
import Derived.Test.YtogbpljnekgfkaaGreatDoorFi
import Derived.Test.YtogbpljnekgfkaaGreatDoorFw
import Derived.Test.YtogbpljnekgfkaaGreatDoorWWords
import Derived.Test.YtogbpljnekgfkaaGreatDoorWLast
import Derived.Test.YtogbpljnekgfkaaGreatDoorWTab
import Derived.Test.YtogbpljnekgfkaaGreatDoorWFour
import Derived.Test.YtogbpljnekgfkaaGreatDoorWQPut
import Derived.Test.YtogbpljnekgfkaaGreatDoorWApart
import Derived.Test.YtogbpljnekgfkaaGreatDoorWArr
import Derived.Test.YtogbpljnekgfkaaGreatDoorWZeros
import Derived.Test.YtogbpljnekgfkaaGreatDoorWFoot
import Derived.Test.YtogbpljnekgfkaaGreatDoorWKept
import Derived.Test.YtogbpljnekgfkaaGreatDoorWShare
import Derived.Test.YtogbpljnekgfkaaGreatDoorWN
import Derived.Test.YtogbpljnekgfkaaGreatDoorWFootNe
import Derived.Test.YtogbpljnekgfkaaGreatDoorWAt
import Derived.Test.YtogbpljnekgfkaaGreatDoorWEqStruct
import Derived.Test.YtogbpljnekgfkaaGreatDoorWRepsOne
import Derived.Test.YtogbpljnekgfkaaGreatDoorWInv
import Derived.Test.YtogbpljnekgfkaaGreatDoorWInvWords
import Derived.Test.YtogbpljnekgfkaaGreatDoorWGuard
import Derived.Test.YtogbpljnekgfkaaGreatDoorWNEv
import Derived.Test.YtogbpljnekgfkaaGreatDoorWMore
namespace Go.Proofs.YtogbpljnekgfkaaGreatDoor.MFnCompareFloat32
open Go.RowKit Go.Proofs.YtogbpljnekgfkaaGreatDoorW.PrintWords Go.Proofs.YtogbpljnekgfkaaGreatDoorW.PrintLast Go.Proofs.YtogbpljnekgfkaaGreatDoorW.PrintMore
attribute [local go_sem] max2_int min2_int max_two min_two max_three min_three max_four min_four   -- for this text's walks alone
set_option linter.unusedVariables false
set_option linter.unusedSimpArgs false



def errW : Option Int → Value
  | none => .nilIface
  | some c => .iface 0 (.int .i64 c)
theorem errW_none : errW none = .nilIface := rfl
theorem errW_some (c : Int) : errW (some c) = .iface 0 (.int .i64 c) := rfl

theorem info4 : (Tryz.prog.info? 4).map (fun i => (i.zero, i.size, i.bytes)) = some (some (.bool false), 1, 1) := by kernel_rfl
theorem info5 : (Tryz.prog.info? 5).map (fun i => (i.zero, i.size, i.bytes)) = some (some (.int .u8 0), 1, 1) := by kernel_rfl
theorem info26 : (Tryz.prog.info? 26).map (fun i => (i.zero, i.size, i.bytes)) = some (some (.int .u64 0), 1, 8) := by kernel_rfl
theorem info56 : (Tryz.prog.info? 56).map (fun i => (i.zero, i.size, i.bytes)) = some (some (.agg #[(.bool false), (.int .u64 0), (.string ⟨#[]⟩), (.slice none 0 0)]), 4, 56) := by kernel_rfl
-- the values' own types
def rd_L3 (xs : List (List Int)) (i : Int) : (List Int) := xs.getD i.toNat ([] : List Int)
theorem at_L3 {w : World} {A : Option Addr} {n : Nat} {xs : List (List Int)} (h : Kd.C (Kd.slice 26 (Kd.int .u64)) w A n xs) (i : Int) (h0 : 0 ≤ i) (h1 : i < n) : ∃ ad A0 c0, A = some ad ∧ w.cell? (ad.add i.toNat) = some (.slice A0 (rd_L3 xs i).length c0) ∧ (rd_L3 xs i).length ≤ c0 ∧ (Kd.int .u64).C w A0 (rd_L3 xs i).length (rd_L3 xs i) := by
  obtain ⟨ad, c, e, _, hK, hc0⟩ := Kd.C_get h ([] : List Int) i h0 h1
  have hc : ∀ j u, c[j]? = some u → w.cell? (ad.add (i.toNat * 1 + j)) = some u := hc0
  obtain ⟨A0, c0, rfl, l0, g0⟩ := hK
  exact ⟨ad, A0, c0, e, by have hq := hc 0 _ rfl; rwa [Nat.mul_one, Nat.add_zero] at hq, l0, g0⟩

def rd_L4 (xs : List (List Int)) (i : Int) : (List Int) := xs.getD i.toNat ([] : List Int)
theorem at_L4 {w : World} {A : Option Addr} {n : Nat} {xs : List (List Int)} (h : Kd.C (Kd.slice 5 (Kd.int .u8)) w A n xs) (i : Int) (h0 : 0 ≤ i) (h1 : i < n) : ∃ ad A0 c0, A = some ad ∧ w.cell? (ad.add i.toNat) = some (.slice A0 (rd_L4 xs i).length c0) ∧ (rd_L4 xs i).length ≤ c0 ∧ (Kd.int .u8).C w A0 (rd_L4 xs i).length (rd_L4 xs i) := by
  obtain ⟨ad, c, e, _, hK, hc0⟩ := Kd.C_get h ([] : List Int) i h0 h1
  have hc : ∀ j u, c[j]? = some u → w.cell? (ad.add (i.toNat * 1 + j)) = some u := hc0
  obtain ⟨A0, c0, rfl, l0, g0⟩ := hK
  exact ⟨ad, A0, c0, e, by have hq := hc 0 _ rfl; rwa [Nat.mul_one, Nat.add_zero] at hq, l0, g0⟩

def rd_L7 (xs : List (List Int)) (i : Int) : (List Int) := xs.getD i.toNat ([] : List Int)
theorem at_L7 {w : World} {A : Option Addr} {n : Nat} {xs : List (List Int)} (h : Kd.C (Kd.slice 3 (Kd.int .i64)) w A n xs) (i : Int) (h0 : 0 ≤ i) (h1 : i < n) : ∃ ad A0 c0, A = some ad ∧ w.cell? (ad.add i.toNat) = some (.slice A0 (rd_L7 xs i).length c0) ∧ (rd_L7 xs i).length ≤ c0 ∧ (Kd.int .i64).C w A0 (rd_L7 xs i).length (rd_L7 xs i) := by
  obtain ⟨ad, c, e, _, hK, hc0⟩ := Kd.C_get h ([] : List Int) i h0 h1
  have hc : ∀ j u, c[j]? = some u → w.cell? (ad.add (i.toNat * 1 + j)) = some u := hc0
  obtain ⟨A0, c0, rfl, l0, g0⟩ := hK
  exact ⟨ad, A0, c0, e, by have hq := hc 0 _ rfl; rwa [Nat.mul_one, Nat.add_zero] at hq, l0, g0⟩

def rd_L8 (xs : List (List ByteArray)) (i : Int) : (List ByteArray) := xs.getD i.toNat ([] : List ByteArray)
theorem at_L8 {w : World} {A : Option Addr} {n : Nat} {xs : List (List ByteArray)} (h : Kd.C (Kd.slice 9 Kd.string) w A n xs) (i : Int) (h0 : 0 ≤ i) (h1 : i < n) : ∃ ad A0 c0, A = some ad ∧ w.cell? (ad.add i.toNat) = some (.slice A0 (rd_L8 xs i).length c0) ∧ (rd_L8 xs i).length ≤ c0 ∧ Kd.string.C w A0 (rd_L8 xs i).length (rd_L8 xs i) := by
  obtain ⟨ad, c, e, _, hK, hc0⟩ := Kd.C_get h ([] : List ByteArray) i h0 h1
  have hc : ∀ j u, c[j]? = some u → w.cell? (ad.add (i.toNat * 1 + j)) = some u := hc0
  obtain ⟨A0, c0, rfl, l0, g0⟩ := hK
  exact ⟨ad, A0, c0, e, by have hq := hc 0 _ rfl; rwa [Nat.mul_one, Nat.add_zero] at hq, l0, g0⟩

/-! #### struct type 38 -/
structure S38 where
  f0 : Int
  f1 : Int
  f2 : Bool
  f3 : Int
  f4 : Int
  f5 : Int
  f6 : ByteArray
  f7 : Bool
  f8 : (List Int)
  f9 : (List ByteArray)
def z38 : S38 := ⟨(0 : Int), (0 : Int), false, (0 : Int), (0 : Int), (0 : Int), (⟨#[]⟩ : ByteArray), false, ([] : List Int), ([] : List ByteArray)⟩
def k38 : Kd S38 := Kd.iso (Kd.pair (Kd.int .i64) (Kd.pair (Kd.int .i64) (Kd.pair Kd.bool (Kd.pair (Kd.int .i64) (Kd.pair (Kd.int .i64) (Kd.pair (Kd.int .i64) (Kd.pair Kd.string (Kd.pair Kd.bool (Kd.pair (Kd.slice 3 (Kd.int .i64)) (Kd.slice 9 Kd.string)))))))))) (fun x : S38 => (x.f0, x.f1, x.f2, x.f3, x.f4, x.f5, x.f6, x.f7, x.f8, x.f9))
theorem k38_open {w : World} {x : S38} {cs : List Value} (h : k38.K w x cs) : ∃ A8 c8 A9 c9, cs = [.int .i64 x.f0, .int .i64 x.f1, .bool x.f2, .int .i64 x.f3, .int .i64 x.f4, .int .i64 x.f5, .string x.f6, .bool x.f7, .slice A8 x.f8.length c8, .slice A9 x.f9.length c9] ∧ x.f8.length ≤ c8 ∧ (Kd.int .i64).C w A8 x.f8.length x.f8 ∧ x.f9.length ≤ c9 ∧ Kd.string.C w A9 x.f9.length x.f9 := by
  obtain ⟨_, _, rfl, rfl, ⟨_, _, rfl, rfl, ⟨_, _, rfl, rfl, ⟨_, _, rfl, rfl, ⟨_, _, rfl, rfl, ⟨_, _, rfl, rfl, ⟨_, _, rfl, rfl, ⟨_, _, rfl, rfl, ⟨_, _, rfl, ⟨A8, c8, rfl, l8, g8⟩, ⟨A9, c9, rfl, l9, g9⟩⟩⟩⟩⟩⟩⟩⟩⟩⟩ := h
  exact ⟨A8, c8, A9, c9, rfl, l8, g8, l9, g9⟩
theorem k38_openM {w : World} {base : Nat} {ok : Nat → Prop} {x : S38} {cs : List Value} (h : k38.M w base ok x cs) : ∃ v8 v9, cs = [.int .i64 x.f0, .int .i64 x.f1, .bool x.f2, .int .i64 x.f3, .int .i64 x.f4, .int .i64 x.f5, .string x.f6, .bool x.f7, v8, v9] ∧ (Kd.int .i64).R 3 w base ok v8 x.f8 ∧ Kd.string.R 9 w base ok v9 x.f9 := by
  obtain ⟨_, _, rfl, rfl, ⟨_, _, rfl, rfl, ⟨_, _, rfl, rfl, ⟨_, _, rfl, rfl, ⟨_, _, rfl, rfl, ⟨_, _, rfl, rfl, ⟨_, _, rfl, rfl, ⟨_, _, rfl, rfl, ⟨_, _, rfl, ⟨v8, rfl, g8⟩, ⟨v9, rfl, g9⟩⟩⟩⟩⟩⟩⟩⟩⟩⟩ := h
  exact ⟨v8, v9, rfl, g8, g9⟩
theorem k38_mk (w : World) (x : S38) {A8 : Option Addr} {c8 : Nat} (l8 : x.f8.length ≤ c8) (g8 : (Kd.int .i64).C w A8 x.f8.length x.f8) {A9 : Option Addr} {c9 : Nat} (l9 : x.f9.length ≤ c9) (g9 : Kd.string.C w A9 x.f9.length x.f9) : k38.K w x [.int .i64 x.f0, .int .i64 x.f1, .bool x.f2, .int .i64 x.f3, .int .i64 x.f4, .int .i64 x.f5, .string x.f6, .bool x.f7, .slice A8 x.f8.length c8, .slice A9 x.f9.length c9] := ⟨[.int .i64 x.f0], [.int .i64 x.f1, .bool x.f2, .int .i64 x.f3, .int .i64 x.f4, .int .i64 x.f5, .string x.f6, .bool x.f7, .slice A8 x.f8.length c8, .slice A9 x.f9.length c9], rfl, rfl, ⟨[.int .i64 x.f1], [.bool x.f2, .int .i64 x.f3, .int .i64 x.f4, .int .i64 x.f5, .string x.f6, .bool x.f7, .slice A8 x.f8.length c8, .slice A9 x.f9.length c9], rfl, rfl, ⟨[.bool x.f2], [.int .i64 x.f3, .int .i64 x.f4, .int .i64 x.f5, .string x.f6, .bool x.f7, .slice A8 x.f8.length c8, .slice A9 x.f9.length c9], rfl, rfl, ⟨[.int .i64 x.f3], [.int .i64 x.f4, .int .i64 x.f5, .string x.f6, .bool x.f7, .slice A8 x.f8.length c8, .slice A9 x.f9.length c9], rfl, rfl, ⟨[.int .i64 x.f4], [.int .i64 x.f5, .string x.f6, .bool x.f7, .slice A8 x.f8.length c8, .slice A9 x.f9.length c9], rfl, rfl, ⟨[.int .i64 x.f5], [.string x.f6, .bool x.f7, .slice A8 x.f8.length c8, .slice A9 x.f9.length c9], rfl, rfl, ⟨[.string x.f6], [.bool x.f7, .slice A8 x.f8.length c8, .slice A9 x.f9.length c9], rfl, rfl, ⟨[.bool x.f7], [.slice A8 x.f8.length c8, .slice A9 x.f9.length c9], rfl, rfl, ⟨[.slice A8 x.f8.length c8], [.slice A9 x.f9.length c9], rfl, ⟨A8, c8, rfl, l8, g8⟩, ⟨A9, c9, rfl, l9, g9⟩⟩⟩⟩⟩⟩⟩⟩⟩⟩
theorem k38_mkM (w : World) (base : Nat) (ok : Nat → Prop) (x : S38) {v8 : Value} (g8 : (Kd.int .i64).R 3 w base ok v8 x.f8) {v9 : Value} (g9 : Kd.string.R 9 w base ok v9 x.f9) : k38.M w base ok x [.int .i64 x.f0, .int .i64 x.f1, .bool x.f2, .int .i64 x.f3, .int .i64 x.f4, .int .i64 x.f5, .string x.f6, .bool x.f7, v8, v9] := ⟨[.int .i64 x.f0], [.int .i64 x.f1, .bool x.f2, .int .i64 x.f3, .int .i64 x.f4, .int .i64 x.f5, .string x.f6, .bool x.f7, v8, v9], rfl, rfl, ⟨[.int .i64 x.f1], [.bool x.f2, .int .i64 x.f3, .int .i64 x.f4, .int .i64 x.f5, .string x.f6, .bool x.f7, v8, v9], rfl, rfl, ⟨[.bool x.f2], [.int .i64 x.f3, .int .i64 x.f4, .int .i64 x.f5, .string x.f6, .bool x.f7, v8, v9], rfl, rfl, ⟨[.int .i64 x.f3], [.int .i64 x.f4, .int .i64 x.f5, .string x.f6, .bool x.f7, v8, v9], rfl, rfl, ⟨[.int .i64 x.f4], [.int .i64 x.f5, .string x.f6, .bool x.f7, v8, v9], rfl, rfl, ⟨[.int .i64 x.f5], [.string x.f6, .bool x.f7, v8, v9], rfl, rfl, ⟨[.string x.f6], [.bool x.f7, v8, v9], rfl, rfl, ⟨[.bool x.f7], [v8, v9], rfl, rfl, ⟨[v8], [v9], rfl, ⟨v8, rfl, g8⟩, ⟨v9, rfl, g9⟩⟩⟩⟩⟩⟩⟩⟩⟩⟩
def rd_T38 (xs : List S38) (i : Int) : S38 := xs.getD i.toNat z38
theorem at_T38 {w : World} {A : Option Addr} {n : Nat} {xs : List S38} (h : Kd.C k38 w A n xs) (i : Int) (h0 : 0 ≤ i) (h1 : i < n) : ∃ ad A8 c8 A9 c9, A = some ad ∧ w.cell? (ad.add (i.toNat * 10)) = some (.int .i64 (rd_T38 xs i).f0) ∧ w.cell? ⟨(ad.add (i.toNat * 10)).block, (ad.add (i.toNat * 10)).off + 1, none⟩ = some (.int .i64 (rd_T38 xs i).f1) ∧ w.cell? ⟨(ad.add (i.toNat * 10)).block, (ad.add (i.toNat * 10)).off + 2, none⟩ = some (.bool (rd_T38 xs i).f2) ∧ w.cell? ⟨(ad.add (i.toNat * 10)).block, (ad.add (i.toNat * 10)).off + 3, none⟩ = some (.int .i64 (rd_T38 xs i).f3) ∧ w.cell? ⟨(ad.add (i.toNat * 10)).block, (ad.add (i.toNat * 10)).off + 4, none⟩ = some (.int .i64 (rd_T38 xs i).f4) ∧ w.cell? ⟨(ad.add (i.toNat * 10)).block, (ad.add (i.toNat * 10)).off + 5, none⟩ = some (.int .i64 (rd_T38 xs i).f5) ∧ w.cell? ⟨(ad.add (i.toNat * 10)).block, (ad.add (i.toNat * 10)).off + 6, none⟩ = some (.string (rd_T38 xs i).f6) ∧ w.cell? ⟨(ad.add (i.toNat * 10)).block, (ad.add (i.toNat * 10)).off + 7, none⟩ = some (.bool (rd_T38 xs i).f7) ∧ w.cell? ⟨(ad.add (i.toNat * 10)).block, (ad.add (i.toNat * 10)).off + 8, none⟩ = some (.slice A8 (rd_T38 xs i).f8.length c8) ∧ w.cell? ⟨(ad.add (i.toNat * 10)).block, (ad.add (i.toNat * 10)).off + 9, none⟩ = some (.slice A9 (rd_T38 xs i).f9.length c9) ∧ (rd_T38 xs i).f8.length ≤ c8 ∧ (Kd.int .i64).C w A8 (rd_T38 xs i).f8.length (rd_T38 xs i).f8 ∧ (rd_T38 xs i).f9.length ≤ c9 ∧ Kd.string.C w A9 (rd_T38 xs i).f9.length (rd_T38 xs i).f9 := by
  obtain ⟨ad, c, e, _, hK, hc0⟩ := Kd.C_get h z38 i h0 h1
  have hc : ∀ j u, c[j]? = some u → w.cell? (ad.add (i.toNat * 10 + j)) = some u := hc0
  obtain ⟨A8, c8, A9, c9, rfl, l8, g8, l9, g9⟩ := k38_open hK
  exact ⟨ad, A8, c8, A9, c9, e, hc 0 _ rfl, by rw [← add_field _ _ 1 (by omega)]; exact hc 1 _ rfl, by rw [← add_field _ _ 2 (by omega)]; exact hc 2 _ rfl, by rw [← add_field _ _ 3 (by omega)]; exact hc 3 _ rfl, by rw [← add_field _ _ 4 (by omega)]; exact hc 4 _ rfl, by rw [← add_field _ _ 5 (by omega)]; exact hc 5 _ rfl, by rw [← add_field _ _ 6 (by omega)]; exact hc 6 _ rfl, by rw [← add_field _ _ 7 (by omega)]; exact hc 7 _ rfl, by rw [← add_field _ _ 8 (by omega)]; exact hc 8 _ rfl, by rw [← add_field _ _ 9 (by omega)]; exact hc 9 _ rfl, l8, g8, l9, g9⟩

/-! #### struct type 56, nested in itself -/
structure S56 where
  f0 : Bool
  f1 : Int
  f2 : ByteArray
  f3 : (List S56)
def z56 : S56 := ⟨false, (0 : Int), (⟨#[]⟩ : ByteArray), ([] : List S56)⟩
def F56 (d : Kd S56) : Kd S56 := Kd.iso (Kd.pair Kd.bool (Kd.pair (Kd.int .u64) (Kd.pair Kd.string (Kd.slice 56 d)))) (fun x : S56 => (x.f0, x.f1, x.f2, x.f3))
theorem mono56 : Kd.Mono F56 := Kd.mono_iso _ (Kd.mono_pair (Kd.mono_const _) (Kd.mono_pair (Kd.mono_const _) (Kd.mono_pair (Kd.mono_const _) (Kd.mono_slice 56 Kd.mono_id))))
theorem sub56 : Kd.Sub F56 [56] := Kd.sub_iso _ (Kd.sub_pair (Kd.sub_const _ (by decide)) (Kd.sub_pair (Kd.sub_const _ (by decide)) (Kd.sub_pair (Kd.sub_const _ (by decide)) (Kd.sub_slice 56 (by decide) Kd.sub_id))))
theorem sz56 : ∀ n, (Kd.upto F56 4 [56] n).sz = 4 := Kd.upto_sz (fun _ => rfl)
def k56 : Kd S56 := Kd.fix F56 4 [56] sz56 (Kd.upto_E sub56)
theorem k56_open {w : World} {x : S56} {cs : List Value} (h : k56.K w x cs) : ∃ A3 c3, cs = [.bool x.f0, .int .u64 x.f1, .string x.f2, .slice A3 x.f3.length c3] ∧ x.f3.length ≤ c3 ∧ k56.C w A3 x.f3.length x.f3 := by
  obtain ⟨n, h⟩ := h
  cases n with
  | zero => exact h.elim
  | succ n =>
    obtain ⟨_, _, rfl, rfl, ⟨_, _, rfl, rfl, ⟨_, _, rfl, rfl, ⟨A3, c3, rfl, l3, g3⟩⟩⟩⟩ := h
    exact ⟨A3, c3, rfl, l3, Kd.fix_C g3⟩
theorem k56_openM {w : World} {base : Nat} {ok : Nat → Prop} {x : S56} {cs : List Value} (h : k56.M w base ok x cs) : ∃ v3, cs = [.bool x.f0, .int .u64 x.f1, .string x.f2, v3] ∧ k56.R 56 w base ok v3 x.f3 := by
  obtain ⟨n, h⟩ := h
  cases n with
  | zero => exact h.elim
  | succ n =>
    obtain ⟨_, _, rfl, rfl, ⟨_, _, rfl, rfl, ⟨_, _, rfl, rfl, ⟨v3, rfl, g3⟩⟩⟩⟩ := h
    exact ⟨v3, rfl, Kd.fix_R g3⟩
theorem k56_mk (w : World) (x : S56) {A3 : Option Addr} {c3 : Nat} (l3 : x.f3.length ≤ c3) (g3 : k56.C w A3 x.f3.length x.f3) : k56.K w x [.bool x.f0, .int .u64 x.f1, .string x.f2, .slice A3 x.f3.length c3] := by
  obtain ⟨n3, q3⟩ := Kd.fix_C_back mono56 g3
  have r3 := Kd.upto_C_le mono56 sz56 (show n3 ≤ n3 by omega) q3
  exact ⟨n3 + 1, ⟨[.bool x.f0], [.int .u64 x.f1, .string x.f2, .slice A3 x.f3.length c3], rfl, rfl, ⟨[.int .u64 x.f1], [.string x.f2, .slice A3 x.f3.length c3], rfl, rfl, ⟨[.string x.f2], [.slice A3 x.f3.length c3], rfl, rfl, ⟨A3, c3, rfl, l3, r3⟩⟩⟩⟩⟩
theorem k56_mkM (w : World) (base : Nat) (ok : Nat → Prop) (x : S56) {v3 : Value} (g3 : k56.R 56 w base ok v3 x.f3) : k56.M w base ok x [.bool x.f0, .int .u64 x.f1, .string x.f2, v3] := by
  obtain ⟨n3, q3⟩ := Kd.fix_R_back mono56 g3
  have r3 := Kd.upto_R_le mono56 sz56 (show n3 ≤ n3 by omega) q3
  exact ⟨n3 + 1, ⟨[.bool x.f0], [.int .u64 x.f1, .string x.f2, v3], rfl, rfl, ⟨[.int .u64 x.f1], [.string x.f2, v3], rfl, rfl, ⟨[.string x.f2], [v3], rfl, rfl, ⟨v3, rfl, r3⟩⟩⟩⟩⟩
def rd_T56 (xs : List S56) (i : Int) : S56 := xs.getD i.toNat z56
theorem at_T56 {w : World} {A : Option Addr} {n : Nat} {xs : List S56} (h : Kd.C k56 w A n xs) (i : Int) (h0 : 0 ≤ i) (h1 : i < n) : ∃ ad A3 c3, A = some ad ∧ w.cell? (ad.add (i.toNat * 4)) = some (.bool (rd_T56 xs i).f0) ∧ w.cell? ⟨(ad.add (i.toNat * 4)).block, (ad.add (i.toNat * 4)).off + 1, none⟩ = some (.int .u64 (rd_T56 xs i).f1) ∧ w.cell? ⟨(ad.add (i.toNat * 4)).block, (ad.add (i.toNat * 4)).off + 2, none⟩ = some (.string (rd_T56 xs i).f2) ∧ w.cell? ⟨(ad.add (i.toNat * 4)).block, (ad.add (i.toNat * 4)).off + 3, none⟩ = some (.slice A3 (rd_T56 xs i).f3.length c3) ∧ (rd_T56 xs i).f3.length ≤ c3 ∧ k56.C w A3 (rd_T56 xs i).f3.length (rd_T56 xs i).f3 := by
  obtain ⟨ad, c, e, _, hK, hc0⟩ := Kd.C_get h z56 i h0 h1
  have hc : ∀ j u, c[j]? = some u → w.cell? (ad.add (i.toNat * 4 + j)) = some u := hc0
  obtain ⟨A3, c3, rfl, l3, g3⟩ := k56_open hK
  exact ⟨ad, A3, c3, e, hc 0 _ rfl, by rw [← add_field _ _ 1 (by omega)]; exact hc 1 _ rfl, by rw [← add_field _ _ 2 (by omega)]; exact hc 2 _ rfl, by rw [← add_field _ _ 3 (by omega)]; exact hc 3 _ rfl, l3, g3⟩

end Go.Proofs.YtogbpljnekgfkaaGreatDoor.MFnCompareFloat32
