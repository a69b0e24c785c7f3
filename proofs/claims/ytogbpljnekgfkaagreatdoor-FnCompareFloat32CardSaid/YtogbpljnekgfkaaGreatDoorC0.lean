/- Words of the seat: blocks, rows of bytes, bits of a bitmap. -/
import Derived.Test.YtogbpljnekgfkaaGreatDoorProg
import Derived.Below
import Derived.Deep.Draws
import Derived.Deep.AppendLies
import Derived.Maps.AppendAt
import Derived.OwnWalk
import Derived.Laws.BytesArg
import Derived.Laws.MakeOwn
import Derived.Laws.OwnMore
import Derived.Deep.OwnRows
import Derived.Tactics
import Derived.Lib.ConvBytes
import Derived.Laws.Slices
import Derived.WalkKit
import Derived.KernelRfl
import Derived.RowKit3
import Derived.Deep.LoopGhost
import Derived.Deep.QuietTactic
import Derived.BigQuiet
import Derived.WideLaws
import Derived.Deep.DeepCutAuto
import Derived.Deep.CutBlock
import Derived.Deep.RegionHeld3
import Derived.Laws.Rows
import Derived.Lib.AppendStr
import Derived.ArgAppend
import Derived.Laws.IdiomCopy
import Derived.OrdersHeld
import Derived.Laws.BitsLemmas
import Derived.RowKit
import Derived.Outline
import Derived.IntWalk
import Derived.Deep.DeepMust
import Derived.Laws.CopyOwn
import Derived.Laws.BitsAllLaws
import Derived.Deep.RegionLaw
import Derived.StillTailTactics
import Derived.Test.YtogbpljnekgfkaaGreatDoorWWords
import Derived.Test.YtogbpljnekgfkaaGreatDoorWLast
import Derived.Test.YtogbpljnekgfkaaGreatDoorWTab
import Derived.Test.YtogbpljnekgfkaaGreatDoorWFour
import Derived.Test.YtogbpljnekgfkaaGreatDoorWQPut
import Derived.Test.YtogbpljnekgfkaaGreatDoorWApart
import Derived.Test.YtogbpljnekgfkaaGreatDoorWArr
import Derived.Test.YtogbpljnekgfkaaGreatDoorWZeros
import Derived.Test.YtogbpljnekgfkaaGreatDoorWFoot
import Derived.Test.YtogbpljnekgfkaaGreatDoorWKept
import Derived.Test.YtogbpljnekgfkaaGreatDoorWShare
import Derived.Test.YtogbpljnekgfkaaGreatDoorWN
import Derived.Test.YtogbpljnekgfkaaGreatDoorWFootNe
import Derived.Test.YtogbpljnekgfkaaGreatDoorWAt
import Derived.Test.YtogbpljnekgfkaaGreatDoorWEqStruct
import Derived.Test.YtogbpljnekgfkaaGreatDoorWRepsOne
import Derived.Test.YtogbpljnekgfkaaGreatDoorWInv
import Derived.Test.YtogbpljnekgfkaaGreatDoorWInvWords
import Derived.Test.YtogbpljnekgfkaaGreatDoorWGuard
import Derived.Test.YtogbpljnekgfkaaGreatDoorWNEv
import Derived.Test.YtogbpljnekgfkaaGreatDoorWMore
namespace Go.Proofs.YtogbpljnekgfkaaGreatDoor.Cm
open Go.RowKit Go.IntWalk Go.Proofs.YtogbpljnekgfkaaGreatDoorW.PrintWords Go.Proofs.YtogbpljnekgfkaaGreatDoorW.PrintLast Go.Proofs.YtogbpljnekgfkaaGreatDoorW.PrintMore
attribute [local go_sem] max2_int min2_int max_two min_two max_three min_three max_four min_four
set_option linter.unusedVariables false
set_option linter.unusedSimpArgs false
theorem cell_of_row' {w : World} {g : Nat} {t : TypeId} {cs : Array Value} (h : w.heap[g]? = some (.cells cs t (0, 0))) (i : Nat) : w.cell? ⟨g, i, none⟩ = cs[i]? := by simp [World.cell?, h]
theorem blk_frozen' {w : World} {g : Nat} {t : TypeId} {cs : Array Value} (h : w.heap[g]? = some (.cells cs t (0, 0))) (i : Nat) : w.frozen? ⟨g, i, none⟩ = false := by simp [World.frozen?, h]
theorem add_block (a : Addr) (j : Nat) : (a.add j).block = a.block := by unfold Addr.add; split <;> rfl
theorem blk_at {W : World} {o : Obj} {g : Nat} (h : g = W.heap.size) : (W.alloc o).heap[g]? = some o := by rw [h]; exact blk_new W o
theorem blk_put' {w : World} {g : Nat} {t : TypeId} {l : List Value} (h : w.heap[g]? = some (.cells l.toArray t (0, 0))) (i : Nat) (u : Value) : (w.setCell ⟨g, i, none⟩ u).heap[g]? = some (.cells (l.set i u).toArray t (0, 0)) :=
  blk_put h i u (by rw [List.setIfInBounds_toArray])
theorem cell_lt' {w : World} {a : Addr} {v : Value} (h : w.cell? a = some v) : a.block < w.heap.size := by
  unfold World.cell? at h
  split at h
  · rename_i hb; exact (Array.getElem?_eq_some_iff.1 hb).1
  · cases h
/-- A row of bytes. -/
def rowB (D : List Int) : Array Value := (D.map (Value.int .u8)).toArray
theorem rowB_at (D : List Int) (i : Nat) : (rowB D)[i]? = (D[i]?).map (Value.int .u8) := by simp [rowB]
theorem rowB_get {D : List Int} {i : Nat} (h : i < D.length) : (rowB D)[i]? = some (.int .u8 (D.getD i 0)) := by
  rw [rowB_at, List.getElem?_eq_getElem h, List.getD_eq_getElem?_getD, List.getElem?_eq_getElem h]
  rfl
theorem rowB_put {w : World} {g : Nat} {D : List Int} (h : w.heap[g]? = some (.cells (rowB D) 5 (0, 0))) (i : Nat) (x : Int) : (w.setCell ⟨g, i, none⟩ (.int .u8 x)).heap[g]? = some (.cells (rowB (D.set i x)) 5 (0, 0)) := by
  have := blk_put' (l := D.map (Value.int .u8)) h i (.int .u8 x)
  rw [this]
  unfold rowB
  rw [List.map_set]
/-- A row of bytes with other cells behind it. -/
def rowX (X : Array Value) (D : List Int) : Array Value := rowB D ++ X
theorem rowX_get {X : Array Value} {D : List Int} {i : Nat} (h : i < D.length) : (rowX X D)[i]? = some (.int .u8 (D.getD i 0)) := by
  have h2 : i < (rowB D).size := by simp [rowB, h]
  unfold rowX
  rw [Array.getElem?_append_left h2]
  exact rowB_get h
theorem rowX_put {w : World} {g : Nat} {X : Array Value} {D : List Int} (h : w.heap[g]? = some (.cells (rowX X D) 5 (0, 0))) (i : Nat) (x : Int) (hi : i < D.length) : (w.setCell ⟨g, i, none⟩ (.int .u8 x)).heap[g]? = some (.cells (rowX X (D.set i x)) 5 (0, 0)) :=
  blk_put h i _ (by
    have h2 : i < (rowB D).size := by simp [rowB, hi]
    unfold rowX
    rw [Array.setIfInBounds_append_left h2]
    congr 1
    unfold rowB
    rw [List.map_set, List.setIfInBounds_toArray])
/-- The masks of a bit. -/
def msk : List Int := [1, 2, 4, 8, 16, 32, 64, 128]
def fmsk : List Int := [254, 253, 251, 247, 239, 223, 191, 127]
/-- The two tables of masks stand where the program lays them. -/
structure Tabs (w : World) : Prop where
  m : ∀ j, j < 8 → w.cell? ⟨2, j, none⟩ = some (.int .u8 (msk.getD j 0))
  f : ∀ j, j < 8 → w.cell? ⟨3, j, none⟩ = some (.int .u8 (fmsk.getD j 0))
theorem Tabs.lt {w : World} (h : Tabs w) : 2 < w.heap.size ∧ 3 < w.heap.size := ⟨cell_lt' (h.m 0 (by decide)), cell_lt' (h.f 0 (by decide))⟩
theorem Tabs.of_eq {w w' : World} (h : Tabs w) (h2 : w'.heap[2]? = w.heap[2]?) (h3 : w'.heap[3]? = w.heap[3]?) : Tabs w' :=
  ⟨fun j hj => (World.cell?_of_block (w := w) h2).trans (h.m j hj), fun j hj => (World.cell?_of_block (w := w) h3).trans (h.f j hj)⟩
theorem Tabs.kept {w w' : World} {S : Nat → Prop} (h : Tabs w) (k : Kept w w' S) (h2 : ¬ S 2) (h3 : ¬ S 3) : Tabs w' := h.of_eq (k.2 2 h.lt.1 h2) (k.2 3 h.lt.2 h3)
theorem Tabs.below {w w' : World} {B : Nat} (h : Tabs w) (k : Below B w w') (hB : 3 < B) : Tabs w' := h.of_eq (k.block 2 (by omega)) (k.block 3 hB)
theorem kept_refl' (w : World) (S : Nat → Prop) : Kept w w S := ⟨Nat.le_refl _, fun _ _ _ => rfl⟩
/-- A byte with bit j set, or cleared. -/
def setI (x : Int) (j : Nat) (b : Bool) : Int := if b = true then bits .or .u8 x (msk.getD j 0) else bits .and .u8 x (fmsk.getD j 0)
/-- Bytes with bit p set, or cleared; with bits from p on so. -/
def setAt (D : List Int) (p : Nat) (b : Bool) : List Int := D.set (p / 8) (setI (D.getD (p / 8) 0) (p % 8) b)
def setBits : List Int → Nat → List Bool → List Int
  | D, _, [] => D
  | D, p, b :: r => setBits (setAt D p b) (p + 1) r
def bit (D : List Int) (p : Nat) : Bool := (D.getD (p / 8) 0).toNat / 2 ^ (p % 8) % 2 == 1
def Bytes (l : List Int) : Prop := ∀ x ∈ l, 0 ≤ x ∧ x < 256
theorem setAt_len (D : List Int) (p : Nat) (b : Bool) : (setAt D p b).length = D.length := List.length_set
theorem setBits_len : ∀ (bs : List Bool) (D : List Int) (p : Nat), (setBits D p bs).length = D.length
  | [], _, _ => rfl
  | b :: r, D, p => (setBits_len r _ _).trans (setAt_len D p b)
theorem setBits_snoc : ∀ (bs : List Bool) (D : List Int) (p : Nat) (b : Bool), setBits D p (bs ++ [b]) = setAt (setBits D p bs) (p + bs.length) b
  | [], _, _, _ => rfl
  | a :: r, D, p, b => by
    show setBits (setAt D p a) (p + 1) (r ++ [b]) = _
    rw [setBits_snoc r, List.length_cons]
    show setAt (setBits (setAt D p a) (p + 1) r) _ b = setAt (setBits (setAt D p a) (p + 1) r) _ b
    rw [show p + 1 + r.length = p + (r.length + 1) by omega]
theorem setBits_append : ∀ (l1 bs : List Bool) (D : List Int) (p : Nat), setBits D p (l1 ++ bs) = setBits (setBits D p l1) (p + l1.length) bs
  | [], _, _, _ => rfl
  | a :: r, bs, D, p => by
    show setBits (setAt D p a) (p + 1) (r ++ bs) = _
    rw [setBits_append r, List.length_cons]
    show setBits (setBits (setAt D p a) (p + 1) r) _ bs = setBits (setBits (setAt D p a) (p + 1) r) _ bs
    rw [show p + 1 + r.length = p + (r.length + 1) by omega]
set_option maxRecDepth 100000 in
theorem setI_range : ∀ (x : Fin 256) (j : Fin 8) (b : Bool), 0 ≤ setI (x.val : Int) j.val b ∧ setI (x.val : Int) j.val b < 256 := by decide +kernel
set_option maxRecDepth 100000 in
theorem setI_bit : ∀ (x : Fin 256) (j i : Fin 8) (b : Bool), ((setI (x.val : Int) j.val b).toNat / 2 ^ i.val % 2 == 1) = if i = j then b else (x.val / 2 ^ i.val % 2 == 1) := by decide +kernel
theorem byte_fin {D : List Int} (h : Bytes D) (k : Nat) : ∃ x : Fin 256, D.getD k 0 = (x.val : Int) := by
  by_cases hk : k < D.length
  · have e : D.getD k 0 = D[k] := by rw [List.getD_eq_getElem?_getD, List.getElem?_eq_getElem hk]; rfl
    obtain ⟨h1, h2⟩ := h _ (List.getElem_mem hk)
    exact ⟨⟨D[k].toNat, by omega⟩, by rw [e]; exact (Int.toNat_of_nonneg h1).symm⟩
  · exact ⟨⟨0, by decide⟩, by rw [List.getD_eq_getElem?_getD, List.getElem?_eq_none (by omega)]; rfl⟩
theorem setAt_bytes {D : List Int} (h : Bytes D) (p : Nat) (b : Bool) : Bytes (setAt D p b) := fun x hx => by
  rcases List.mem_or_eq_of_mem_set hx with hx | rfl
  · exact h x hx
  · obtain ⟨y, hy⟩ := byte_fin h (p / 8)
    rw [hy]
    exact setI_range y ⟨p % 8, Nat.mod_lt _ (by decide)⟩ b
theorem setBits_bytes : ∀ (bs : List Bool) {D : List Int} (p : Nat), Bytes D → Bytes (setBits D p bs)
  | [], _, _, h => h
  | b :: r, D, p, h => setBits_bytes r (p + 1) (setAt_bytes h p b)
theorem bit_setAt {D : List Int} (h : Bytes D) {p : Nat} (hp : p / 8 < D.length) (b : Bool) (q : Nat) : bit (setAt D p b) q = if q = p then b else bit D q := by
  unfold bit setAt
  by_cases hk : q / 8 = p / 8
  · obtain ⟨y, hy⟩ := byte_fin h (p / 8)
    have e := setI_bit y ⟨p % 8, Nat.mod_lt _ (by decide)⟩ ⟨q % 8, Nat.mod_lt _ (by decide)⟩ b
    rw [hk, hy, List.getD_eq_getElem?_getD, List.getElem?_set_self hp, Option.getD_some]
    rw [show ((y.val : Nat) : Int).toNat = y.val from rfl]
    refine e.trans ?_
    by_cases hq : q = p
    · rw [if_pos hq, if_pos (by rw [hq])]
    · rw [if_neg hq, if_neg (fun e2 => hq (by have := Fin.mk.inj e2; omega))]
  · rw [List.getD_eq_getElem?_getD, List.getElem?_set_ne (by omega), ← List.getD_eq_getElem?_getD, if_neg (fun e => hk (by rw [e]))]
theorem bit_setBits : ∀ (bs : List Bool) {D : List Int} (p : Nat), Bytes D → p + bs.length ≤ 8 * D.length → ∀ q, bit (setBits D p bs) q = if p ≤ q ∧ q < p + bs.length then bs.getD (q - p) false else bit D q
  | [], D, p, _, _, q => by
    rw [if_neg (by simp only [List.length_nil]; omega)]
    rfl
  | b :: r, D, p, h, hl, q => by
    rw [List.length_cons] at hl ⊢
    show bit (setBits (setAt D p b) (p + 1) r) q = _
    rw [bit_setBits r (p + 1) (setAt_bytes h p b) (by rw [setAt_len]; omega), bit_setAt h (by omega)]
    by_cases h1 : p + 1 ≤ q ∧ q < p + 1 + r.length
    · rw [if_pos h1, if_pos (by omega), show q - p = (q - (p + 1)) + 1 by omega]
      rfl
    · rw [if_neg h1]
      by_cases h2 : q = p
      · rw [if_pos h2, if_pos (by omega), h2, Nat.sub_self]
        rfl
      · rw [if_neg h2, if_neg (by omega)]
theorem as_hit {P : Program} {t e xT : TypeId} (hu : P.underlying t = some (.pointer e)) (v : Value) (w : World) : (Instr.typeAssert (.iface t v) xT t true).run P w = .ok (.tuple #[v, .bool true]) w := by
  simp [Instr.typeAssert, run_underlying hu]
theorem as_miss {P : Program} {t e xT s : TypeId} (hu : P.underlying t = some (.pointer e)) (hz : (P.info? t).map (·.zero) = some (some (.pointer none))) (hne : (s == t) = false) (v : Value) (w : World) : (Instr.typeAssert (.iface s v) xT t true).run P w = .ok (.tuple #[.pointer none, .bool false]) w := by
  obtain ⟨j, hj, hz'⟩ := Option.map_eq_some_iff.1 hz
  have hne' : ¬ s = t := by simpa using hne
  simp [Instr.typeAssert, run_underlying hu, zeroValue, typeInfo, hj, hz', hne']
/-- Numbers that are laid one by one: the first i are there. -/
def part (f : Nat → Int) (n i : Nat) : List Int := (List.range n).map fun j => if j < i then f j else 0
theorem part_len (f : Nat → Int) (n i : Nat) : (part f n i).length = n := by simp [part]
theorem part_zero (f : Nat → Int) (n : Nat) : part f n 0 = List.replicate n 0 := by
  refine List.ext_getElem (by simp [part]) fun i h1 h2 => ?_
  simp [part]
theorem part_all (f : Nat → Int) (n i : Nat) (h : n ≤ i) : part f n i = (List.range n).map f := by
  refine List.map_congr_left fun j hj => ?_
  rw [if_pos (by have := List.mem_range.1 hj; omega)]
theorem part_step {f : Nat → Int} {n i : Nat} (h : i < n) : (part f n i).set i (f i) = part f n (i + 1) := by
  refine List.ext_getElem (by simp [part]) fun j h1 h2 => ?_
  rw [List.getElem_set]
  simp only [part, List.getElem_map, List.getElem_range]
  by_cases e : i = j
  · subst e
    rw [if_pos rfl, if_pos (by omega)]
  · rw [if_neg e]
    by_cases h3 : j < i
    · rw [if_pos h3, if_pos (by omega)]
    · rw [if_neg h3, if_neg (by omega)]

end Go.Proofs.YtogbpljnekgfkaaGreatDoor.Cm
