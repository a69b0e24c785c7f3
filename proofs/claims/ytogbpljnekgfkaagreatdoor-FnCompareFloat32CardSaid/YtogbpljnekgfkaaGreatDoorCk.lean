/- The bitmap of answers; the program's comparisons as values. -/
import Derived.Test.YtogbpljnekgfkaaGreatDoorCu
import Derived.Test.YtogbpljnekgfkaaGreatDoorCb
namespace Go.Proofs.YtogbpljnekgfkaaGreatDoor.Cm
open Go.RowKit Go.IntWalk Go.Proofs.YtogbpljnekgfkaaGreatDoorW.PrintWords Go.Proofs.YtogbpljnekgfkaaGreatDoorW.PrintLast Go.Proofs.YtogbpljnekgfkaaGreatDoorW.PrintMore
attribute [local go_sem] max2_int min2_int max_two min_two max_three min_three max_four min_four
set_option linter.unusedVariables false
set_option linter.unusedSimpArgs false
/-- The bitmap when the first q answers stand in it. -/
def S (D : List Int) (p : Nat) (g : Nat → Bool) (q : Nat) : List Int := setBits D p ((List.range q).map g)
theorem S_len (D : List Int) (p : Nat) (g : Nat → Bool) (q : Nat) : (S D p g q).length = D.length := setBits_len _ _ _
theorem S_bytes {D : List Int} (h : Bytes D) (p : Nat) (g : Nat → Bool) (q : Nat) : Bytes (S D p g q) := setBits_bytes _ _ h
theorem S_succ (D : List Int) (p : Nat) (g : Nat → Bool) (q : Nat) : setAt (S D p g q) (p + q) (g q) = S D p g (q + 1) := by
  unfold S
  rw [List.range_succ, List.map_append, List.map_singleton, setBits_snoc, List.length_map, List.length_range]
theorem S_add (D : List Int) (p : Nat) (g : Nat → Bool) (q k : Nat) : setBits (S D p g q) (p + q) ((List.range k).map fun i => g (q + i)) = S D p g (q + k) := by
  unfold S
  rw [List.range_add, List.map_append, setBits_append, List.length_map, List.length_range, List.map_map]
  rfl
theorem laid_all {T : List Bool} {k : Nat} (h : T.length = k) (f : Nat → Bool) : laid T k f = (List.range k).map f := by
  unfold laid
  rw [h]
  exact List.map_congr_left fun j hj => if_pos (List.mem_range.1 hj)
/-- A bit is set, or cleared: the row behind it. -/
theorem setBitTo' (ob o m c p : Nat) (b : Bool) (X : Array Value) (D : List Int) (w : World) (hd : w.heap[ob]? = some (.cells (rowX X D) 5 (0, 0))) (T : Tabs w) (hp : p / 8 < m) (hm : o + m ≤ D.length) (hs : p ≤ 100000) :
    Calls Tryz.prog 90 #[.slice (some ⟨ob, o, none⟩) m c, .int .i64 p, .bool b] w fun e w' => e = .returned (.tuple #[]) ∧ w'.heap[ob]? = some (.cells (rowX X (setAt D (8 * o + p) b)) 5 (0, 0)) ∧ Kept w w' (fun k => k = ob) ∧ Below ob w w' := by
  refine Calls.mono (setBitTo ob o m c p b X D w hd T hp hm hs) ?_
  rintro e w' ⟨rfl, rfl⟩
  have h := rowX_put (w := w.drew) hd (o + p / 8) (setI (D.getD (o + p / 8) 0) (p % 8) b) (by omega)
  refine ⟨rfl, ?_, Kept.setCell (show Kept w w.drew (fun k => k = ob) from kept_refl' w _) (Or.inl rfl) _, (Below.refl ob w).drew.setCell (p := ⟨ob, o + p / 8, none⟩) (Nat.le_refl ob) _⟩
  rw [h]
  unfold setAt
  rw [show (8 * o + p) / 8 = o + p / 8 by omega, show (8 * o + p) % 8 = p % 8 by omega]
theorem zeros32 : (Value.int IntKind.u32 0 :: List.replicate 31 (Value.int IntKind.u32 0)) = (List.replicate 32 false).map fun b => Value.int .u32 (bU b) := rfl
/-- The program's comparisons of two rows, of a row and a number, of a number and a row. -/
def OpAA (enc : Int → Value) (fo : Nat) (cf : Int → Int → Bool) : Prop := ∀ (gl ol nl cl : Nat) (Cl : Array Value) (tl : TypeId) (gr or nr cr : Nat) (Cr : Array Value) (tr : TypeId) (X Y : Nat → Int) (t k cu : Nat) (T : List Bool) (w : World)
    (hcl : w.heap[gl]? = some (.cells Cl tl (0, 0))) (hxl : ∀ i, i < k → Cl[ol + i]? = some (enc (X i))) (hgl : gl ≠ t) (hkl : k ≤ nl) (hcr : w.heap[gr]? = some (.cells Cr tr (0, 0))) (hxr : ∀ i, i < k → Cr[or + i]? = some (enc (Y i))) (hgr : gr ≠ t) (hkr : k ≤ nr)
    (ht : w.heap[t]? = some (.cells (rowU T) 181 (0, 0))) (hkT : k ≤ T.length) (hT : T.length ≤ 100),
    Calls Tryz.prog fo #[.slice (some ⟨gl, ol, none⟩) nl cl, .slice (some ⟨gr, or, none⟩) nr cr, .slice (some ⟨t, 0, none⟩) k cu] w fun e w' => e = .returned (.tuple #[]) ∧ w'.heap[t]? = some (.cells (rowU (laid T k (fun i => cf (X i) (Y i)))) 181 (0, 0)) ∧ Kept w w' (fun j => j = t) ∧ Below t w w'
def OpAS (enc : Int → Value) (fo : Nat) (cf : Int → Int → Bool) : Prop := ∀ (gl ol nl cl : Nat) (Cl : Array Value) (tl : TypeId) (X : Nat → Int) (Y : Int) (t k cu : Nat) (T : List Bool) (w : World)
    (hcl : w.heap[gl]? = some (.cells Cl tl (0, 0))) (hxl : ∀ i, i < k → Cl[ol + i]? = some (enc (X i))) (hgl : gl ≠ t) (hkl : k ≤ nl)
    (ht : w.heap[t]? = some (.cells (rowU T) 181 (0, 0))) (hkT : k ≤ T.length) (hT : T.length ≤ 100),
    Calls Tryz.prog fo #[.slice (some ⟨gl, ol, none⟩) nl cl, enc Y, .slice (some ⟨t, 0, none⟩) k cu] w fun e w' => e = .returned (.tuple #[]) ∧ w'.heap[t]? = some (.cells (rowU (laid T k (fun i => cf (X i) Y))) 181 (0, 0)) ∧ Kept w w' (fun j => j = t) ∧ Below t w w'
def OpSA (enc : Int → Value) (fo : Nat) (cf : Int → Int → Bool) : Prop := ∀ (gr or nr cr : Nat) (Cr : Array Value) (tr : TypeId) (X : Int) (Y : Nat → Int) (t k cu : Nat) (T : List Bool) (w : World)
    (hcr : w.heap[gr]? = some (.cells Cr tr (0, 0))) (hxr : ∀ i, i < k → Cr[or + i]? = some (enc (Y i))) (hgr : gr ≠ t) (hkr : k ≤ nr)
    (ht : w.heap[t]? = some (.cells (rowU T) 181 (0, 0))) (hkT : k ≤ T.length) (hT : T.length ≤ 100),
    Calls Tryz.prog fo #[enc X, .slice (some ⟨gr, or, none⟩) nr cr, .slice (some ⟨t, 0, none⟩) k cu] w fun e w' => e = .returned (.tuple #[]) ∧ w'.heap[t]? = some (.cells (rowU (laid T k (fun i => cf X (Y i)))) 181 (0, 0)) ∧ Kept w w' (fun j => j = t) ∧ Below t w w'
/-- A function that is called by its value is entered. -/
def Ent (f : Nat) : Prop := ∀ (args : Array Value) (w : World), (callFunc f args).run Tryz.prog w = .ok (.enter f args) w

end Go.Proofs.YtogbpljnekgfkaaGreatDoor.Cm
