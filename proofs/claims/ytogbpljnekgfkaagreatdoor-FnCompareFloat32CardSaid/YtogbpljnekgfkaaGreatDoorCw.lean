/- A comparison of rows under way. -/
import Derived.Test.YtogbpljnekgfkaaGreatDoorCk
namespace Go.Proofs.YtogbpljnekgfkaaGreatDoor.Cm
open Go.RowKit Go.IntWalk Go.Proofs.YtogbpljnekgfkaaGreatDoorW.PrintWords Go.Proofs.YtogbpljnekgfkaaGreatDoorW.PrintLast Go.Proofs.YtogbpljnekgfkaaGreatDoorW.PrintMore
attribute [local go_sem] max2_int min2_int max_two min_two max_three min_three max_four min_four
set_option linter.unusedVariables false
set_option linter.unusedSimpArgs false
/-- The blocks of a comparison of rows, apart from each other. -/
structure Kn (w : World) (bl br ob cb t : Nat) : Prop where
  lt : bl ≠ t
  rt : br ≠ t
  ct : cb ≠ t
  ot : ob ≠ t
  lo : bl ≠ ob
  ro : br ≠ ob
  co : cb ≠ ob
  o3 : 3 < ob
  t3 : 3 < t
  os : ob < w.heap.size
  ts : w.heap.size ≤ t
/-- A comparison of rows under way: the bitmap is B. -/
structure Ki (w : World) (bl br ob cb t : Nat) (L R : Array Value) (ty : TypeId) (fo : Nat) (fty : TypeId) (X : Array Value) (B : List Int) (W : World) : Prop where
  l : W.heap[bl]? = some (.cells L ty (0, 0))
  r : W.heap[br]? = some (.cells R ty (0, 0))
  o : W.heap[ob]? = some (.cells (rowX X B) 5 (0, 0))
  c : W.heap[cb]? = some (.cells #[.func (.func fo) #[] #[]] fty (0, 0))
  t : ∃ T : List Bool, T.length = 32 ∧ W.heap[t]? = some (.cells (rowU T) 181 (0, 0))
  tb : Tabs W
  k : Kept w W (fun j => j = ob)
  b : Below ob w W
section
variable {w : World} {bl br ob cb t : Nat} {L R : Array Value} {ty : TypeId} {fo : Nat} {fty : TypeId} {X : Array Value} {B : List Int} {W W' : World}
theorem Ki.drewN (K : Ki w bl br ob cb t L R ty fo fty X B W) (q : Nat) : Ki w bl br ob cb t L R ty fo fty X B (W.drewN q) :=
  ⟨K.l, K.r, K.o, K.c, K.t, K.tb.of_eq rfl rfl, ⟨K.k.1, K.k.2⟩, pw_below_drewN K.b q⟩
theorem Ki.op (C : Kn w bl br ob cb t) (K : Ki w bl br ob cb t L R ty fo fty X B W) {T : List Bool} (hT : T.length = 32) (ht : W'.heap[t]? = some (.cells (rowU T) 181 (0, 0))) (hk : Kept W W' (fun j => j = t)) (hb : Below t W W') : Ki w bl br ob cb t L R ty fo fty X B W' :=
  ⟨blk_kept K.l hk C.lt, blk_kept K.r hk C.rt, blk_kept K.o hk C.ot, blk_kept K.c hk C.ct, ⟨T, hT, ht⟩, K.tb.kept hk (by have := C.t3; omega) (by have := C.t3; omega),
    ⟨Nat.le_trans K.k.1 hk.1, fun i hi hne => (hk.2 i (Nat.lt_of_lt_of_le hi K.k.1) (by have := C.ts; omega)).trans (K.k.2 i hi hne)⟩, K.b.trans (hb.mono (by have := C.os; have := C.ts; omega))⟩
theorem Ki.bit (C : Kn w bl br ob cb t) (K : Ki w bl br ob cb t L R ty fo fty X B W) {B' : List Int} (ho : W'.heap[ob]? = some (.cells (rowX X B') 5 (0, 0))) (hk : Kept W W' (fun j => j = ob)) (hb : Below ob W W') : Ki w bl br ob cb t L R ty fo fty X B' W' := by
  obtain ⟨T, hT, ht⟩ := K.t
  exact ⟨blk_kept K.l hk C.lo, blk_kept K.r hk C.ro, ho, blk_kept K.c hk C.co, ⟨T, hT, blk_kept ht hk C.ot.symm⟩, K.tb.kept hk (by have := C.o3; omega) (by have := C.o3; omega),
    ⟨Nat.le_trans K.k.1 hk.1, fun i hi hne => (hk.2 i (Nat.lt_of_lt_of_le hi K.k.1) hne).trans (K.k.2 i hi hne)⟩, K.b.trans hb⟩
theorem rowT_at {enc : Int → Value} {f : Nat → Int} {n i : Nat} (h : i < n) : ((((List.range n).map f).map enc).toArray)[i]? = some (enc (f i)) := by
  simp [h]
/-- What a comparison of two rows answers, as a call of the kernel's. -/
theorem Ki.callAA {enc : Int → Value} {cf : Int → Int → Bool} {U V : Nat → Int} {n : Nat} (HO : OpAA enc fo cf) (C : Kn w bl br ob cb t) (hL : L = (((List.range n).map U).map enc).toArray) (hR : R = (((List.range n).map V).map enc).toArray)
    (K : Ki w bl br ob cb t L R ty fo fty X B W) (q k ol or nl cl nr cr cu : Nat) (hk : k ≤ 32) (hq : q + k ≤ n) (hol : 0 < k → ol = q) (hor : 0 < k → or = q) (hnl : k ≤ nl) (hnr : k ≤ nr) :
    Calls Tryz.prog fo #[.slice (some ⟨bl, ol, none⟩) nl cl, .slice (some ⟨br, or, none⟩) nr cr, .slice (some ⟨t, 0, none⟩) k cu] W fun e W' => e = .returned (.tuple #[]) ∧ Ki w bl br ob cb t L R ty fo fty X B W' ∧
      ∃ T : List Bool, T.length = 32 ∧ W'.heap[t]? = some (.cells (rowU T) 181 (0, 0)) ∧ (∀ i, i < k → T.getD i false = cf (U (q + i)) (V (q + i))) ∧ (k = 32 → T = (List.range 32).map fun i => cf (U (q + i)) (V (q + i))) := by
  obtain ⟨T, hT, ht⟩ := K.t
  refine Calls.mono (HO bl ol nl cl L ty br or nr cr R ty (fun i => U (q + i)) (fun i => V (q + i)) t k cu T W K.l ?_ C.lt hnl K.r ?_ C.rt hnr ht (by omega) (by omega)) ?_
  · intro i hi
    rw [hL, hol (by omega)]
    exact rowT_at (by omega)
  · intro i hi
    rw [hR, hor (by omega)]
    exact rowT_at (by omega)
  · rintro e W' ⟨rfl, h1, h2, h3⟩
    refine ⟨rfl, K.op C ((laid_len _ _ _).trans hT) h1 h2 h3, _, (laid_len _ _ _).trans hT, h1, fun i hi => laid_get hi (by omega), fun h => ?_⟩
    rw [h]
    exact laid_all hT _
theorem Ki.callAS {enc : Int → Value} {cf : Int → Int → Bool} {U : Nat → Int} {Y : Int} {n : Nat} (HO : OpAS enc fo cf) (C : Kn w bl br ob cb t) (hL : L = (((List.range n).map U).map enc).toArray)
    (K : Ki w bl br ob cb t L R ty fo fty X B W) (q k ol nl cl cu : Nat) (hk : k ≤ 32) (hq : q + k ≤ n) (hol : 0 < k → ol = q) (hnl : k ≤ nl) :
    Calls Tryz.prog fo #[.slice (some ⟨bl, ol, none⟩) nl cl, enc Y, .slice (some ⟨t, 0, none⟩) k cu] W fun e W' => e = .returned (.tuple #[]) ∧ Ki w bl br ob cb t L R ty fo fty X B W' ∧
      ∃ T : List Bool, T.length = 32 ∧ W'.heap[t]? = some (.cells (rowU T) 181 (0, 0)) ∧ (∀ i, i < k → T.getD i false = cf (U (q + i)) Y) ∧ (k = 32 → T = (List.range 32).map fun i => cf (U (q + i)) Y) := by
  obtain ⟨T, hT, ht⟩ := K.t
  refine Calls.mono (HO bl ol nl cl L ty (fun i => U (q + i)) Y t k cu T W K.l ?_ C.lt hnl ht (by omega) (by omega)) ?_
  · intro i hi
    rw [hL, hol (by omega)]
    exact rowT_at (by omega)
  · rintro e W' ⟨rfl, h1, h2, h3⟩
    refine ⟨rfl, K.op C ((laid_len _ _ _).trans hT) h1 h2 h3, _, (laid_len _ _ _).trans hT, h1, fun i hi => laid_get hi (by omega), fun h => ?_⟩
    rw [h]
    exact laid_all hT _
theorem Ki.callSA {enc : Int → Value} {cf : Int → Int → Bool} {Z : Int} {V : Nat → Int} {n : Nat} (HO : OpSA enc fo cf) (C : Kn w bl br ob cb t) (hR : R = (((List.range n).map V).map enc).toArray)
    (K : Ki w bl br ob cb t L R ty fo fty X B W) (q k or nr cr cu : Nat) (hk : k ≤ 32) (hq : q + k ≤ n) (hor : 0 < k → or = q) (hnr : k ≤ nr) :
    Calls Tryz.prog fo #[enc Z, .slice (some ⟨br, or, none⟩) nr cr, .slice (some ⟨t, 0, none⟩) k cu] W fun e W' => e = .returned (.tuple #[]) ∧ Ki w bl br ob cb t L R ty fo fty X B W' ∧
      ∃ T : List Bool, T.length = 32 ∧ W'.heap[t]? = some (.cells (rowU T) 181 (0, 0)) ∧ (∀ i, i < k → T.getD i false = cf Z (V (q + i))) ∧ (k = 32 → T = (List.range 32).map fun i => cf Z (V (q + i))) := by
  obtain ⟨T, hT, ht⟩ := K.t
  refine Calls.mono (HO br or nr cr R ty Z (fun i => V (q + i)) t k cu T W K.r ?_ C.rt hnr ht (by omega) (by omega)) ?_
  · intro i hi
    rw [hR, hor (by omega)]
    exact rowT_at (by omega)
  · rintro e W' ⟨rfl, h1, h2, h3⟩
    refine ⟨rfl, K.op C ((laid_len _ _ _).trans hT) h1 h2 h3, _, (laid_len _ _ _).trans hT, h1, fun i hi => laid_get hi (by omega), fun h => ?_⟩
    rw [h]
    exact laid_all hT _
/-- An answer is laid into the bitmap. -/
theorem Ki.set {D : List Int} {p : Nat} {g : Nat → Bool} {q : Nat} (C : Kn w bl br ob cb t) (K : Ki w bl br ob cb t L R ty fo fty X (S D p g q) W) (o m c j : Nat) (b : Bool) (hb : b = g q) (hp : 8 * o + j = p + q) (hj : j / 8 < m) (hm : o + m ≤ D.length) (hs : j ≤ 100000) :
    Calls Tryz.prog 90 #[.slice (some ⟨ob, o, none⟩) m c, .int .i64 j, .bool b] W fun e W' => e = .returned (.tuple #[]) ∧ Ki w bl br ob cb t L R ty fo fty X (S D p g (q + 1)) W' ∧ W'.heap[t]? = W.heap[t]? := by
  refine Calls.mono (setBitTo' ob o m c j b X _ W K.o K.tb hj (by rw [S_len]; exact hm) hs) ?_
  rintro e W' ⟨rfl, h1, h2, h3⟩
  rw [hp, hb, S_succ] at h1
  obtain ⟨T, hT, ht⟩ := K.t
  exact ⟨rfl, K.bit C h1 h2 h3, h2.2 t (blk_lt ht) C.ot.symm⟩
/-- Thirty-two answers are laid into the bitmap. -/
theorem Ki.pack {D : List Int} {p : Nat} {g : Nat → Bool} {q : Nat} (C : Kn w bl br ob cb t) (hD : Bytes D) (K : Ki w bl br ob cb t L R ty fo fty X (S D p g q) W) (o m c : Nat) (T : List Bool) (hT : T = (List.range 32).map fun i => g (q + i)) (hp : 8 * o = p + q) (hm4 : 4 ≤ m) (hmc : m ≤ c) (hc : c ≤ 9223372036854775807) (hm : o + m ≤ D.length) :
    Calls Tryz.prog 91 #[.agg (rowU T), .slice (some ⟨ob, o, none⟩) m c] W fun e W' => e = .returned (.tuple #[]) ∧ Ki w bl br ob cb t L R ty fo fty X (S D p g (q + 32)) W' := by
  refine Calls.mono (packBits ob o m c X _ T W K.o (S_bytes hD _ _ _) (by rw [hT]; simp) hm4 hmc hc (by rw [S_len]; exact hm)) ?_
  rintro e W' ⟨rfl, h1, h2, h3⟩
  rw [hp, hT, S_add] at h1
  exact ⟨rfl, K.bit C h1 h2 h3⟩
theorem info181 : (Tryz.prog.info? 181).map (·.size) = some 32 := by kernel_rfl
/-- The thirty-two answers are loaded as one value. -/
theorem range181 {t : Nat} {T : List Bool} {W : World} (ht : W.heap[t]? = some (.cells (rowU T) 181 (0, 0))) : W.rangeAt t 0 (T.map fun b => Value.int .u32 (bU b)) := fun j v hv => by
  rw [Nat.zero_add]
  refine (cell_of_row' ht j).trans ?_
  rw [← hv]
  simp [rowU]
theorem size181 {T : List Bool} (hT : T.length = 32) : (Tryz.prog.info? 181).map (·.size) = some (T.map fun b => Value.int .u32 (bU b)).length := by rw [info181, List.length_map, hT]
theorem load181 {ops : Array Oper} {rest : List Oper} {op : Oper} {a : Act} {w : World} {Q : Exit → Act → World → Prop} (hgd : op.guard = none) (x : Operand) (ho : op.op = .load 181 x) (t : Nat) (hx : a.eval x = .pointer (some ⟨t, 0, none⟩)) (T : List Bool) (hT : T.length = 32)
    (ht : w.heap[t]? = some (.cells (rowU T) 181 (0, 0))) (h : wpList Tryz.prog ops Q rest (a.put op.dst (.agg (rowU T))) w) : wpList Tryz.prog ops Q (op :: rest) a w :=
  wpList_load_mid hgd 181 x ho t 0 hx _ _ (range181 ht) Tryz.underlying181 rfl (size181 hT) h
end

end Go.Proofs.YtogbpljnekgfkaaGreatDoor.Cm
