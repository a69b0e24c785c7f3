/- The writer of bits: what its small functions do to their blocks. -/
import Derived.Test.YtmlfgolmdeignaaPa
import Derived.Test.YtmlfgolmdeignaaShelf
namespace Go.Proofs.Ytmlfgolmdeignaa.Pk
open Go.RowKit Go.IntWalk Go.Proofs.YtmlfgolmdeignaaW.PrintWords Go.Proofs.YtmlfgolmdeignaaW.PrintLast Go.Proofs.YtmlfgolmdeignaaW.PrintMore
attribute [local go_sem] max2_int min2_int max_two min_two max_three min_three max_four min_four
set_option linter.unusedVariables false
set_option linter.unusedSimpArgs false
theorem cell_of_row' {w : World} {g : Nat} {t : TypeId} {cs : Array Value} (h : w.heap[g]? = some (.cells cs t (0, 0))) (i : Nat) : w.cell? ⟨g, i, none⟩ = cs[i]? := by simp [World.cell?, h]
theorem blk_frozen' {w : World} {g : Nat} {t : TypeId} {cs : Array Value} (h : w.heap[g]? = some (.cells cs t (0, 0))) (i : Nat) : w.frozen? ⟨g, i, none⟩ = false := by simp [World.frozen?, h]
theorem add_block (a : Addr) (j : Nat) : (a.add j).block = a.block := by unfold Addr.add; split <;> rfl
theorem blk_put' {w : World} {g : Nat} {t : TypeId} {l : List Value} (h : w.heap[g]? = some (.cells l.toArray t (0, 0))) (i : Nat) (u : Value) : (w.setCell ⟨g, i, none⟩ u).heap[g]? = some (.cells (l.set i u).toArray t (0, 0)) :=
  blk_put h i u (by rw [List.setIfInBounds_toArray])
/-- Cells laid over others from a place on. -/
def overV (l : List Value) (o : Nat) (vs : List Value) : List Value := l.take o ++ vs ++ l.drop (o + vs.length)
theorem blk_setCells {g : Nat} {t : TypeId} : ∀ (vs : List Value) (o : Nat) (l : List Value) (w : World), w.heap[g]? = some (.cells l.toArray t (0, 0)) → o + vs.length ≤ l.length → (w.setCells g o vs).heap[g]? = some (.cells (overV l o vs).toArray t (0, 0))
  | [], o, l, w, h, _ => by
    show w.heap[g]? = _
    rw [h]
    unfold overV
    simp
  | v :: r, o, l, w, h, hl => by
    rw [List.length_cons] at hl
    have h1 := blk_setCells r (o + 1) (l.set o v) _ (blk_put' h o v) (by rw [List.length_set]; omega)
    show ((w.setCell ⟨g, o, none⟩ v).setCells g (o + 1) r).heap[g]? = _
    rw [h1]
    congr 3
    unfold overV
    rw [List.length_cons, List.drop_set_of_lt (by omega), List.take_succ_eq_append_getElem (by rw [List.length_set]; omega), List.take_set_of_le (Nat.le_refl _), List.getElem_set_self, List.append_assoc, List.append_assoc, show o + 1 + r.length = o + (r.length + 1) by omega]
    simp
theorem oth_setCells {g k : Nat} (hk : k ≠ g) : ∀ (vs : List Value) (o : Nat) (w : World), (w.setCells g o vs).heap[k]? = w.heap[k]?
  | [], _, _ => rfl
  | v :: r, o, w => (oth_setCells hk r (o + 1) _).trans (Below.heap_setCell w ⟨g, o, none⟩ v k hk)
theorem sz_setCells {g : Nat} : ∀ (vs : List Value) (o : Nat) (w : World), (w.setCells g o vs).heap.size = w.heap.size
  | [], _, _ => rfl
  | v :: r, o, w => (sz_setCells r (o + 1) _).trans (by simp)
theorem bel_setCells {B g : Nat} {a : World} (hg : B ≤ g) : ∀ (vs : List Value) (o : Nat) (w : World), Below B a w → Below B a (w.setCells g o vs)
  | [], _, _, h => h
  | v :: r, o, w, h => bel_setCells hg r (o + 1) _ (h.setCell hg _)
theorem kept_setCells {g : Nat} {S : Nat → Prop} {a w : World} (h : Kept a w S) (hg : S g ∨ a.heap.size ≤ g) (vs : List Value) (o : Nat) : Kept a (w.setCells g o vs) S := by
  induction vs generalizing o w with
  | nil => exact h
  | cons v r ih => exact ih (Kept.setCell h hg _) (o + 1)
/-- A bit writer's block. -/
def bwl (wb : Nat) (B o t : Int) (R U : List Value) : List Value := [.iface 92 (.pointer (some ⟨wb, 0, none⟩)), .int .u64 B, .int .i64 o, .int .u64 t] ++ R ++ U
theorem bwl_len {wb : Nat} {B o t : Int} {R U : List Value} (hR : R.length = 8) (hU : U.length = 10) : (bwl wb B o t R U).length = 22 := by simp [bwl, hR, hU]
theorem leBytes_len' (k v : Nat) : (Go.Lib.leBytes k v).length = k := by
  induction k generalizing v with
  | zero => rfl
  | succ k ih => simp [Go.Lib.leBytes, ih]
theorem put64 (bw wb : Nat) (B o t : Int) (R U : List Value) (hR : R.length = 8) (hU : U.length = 10) (v : Nat) (hv : v < 18446744073709551616) (w : World) (hg : w.heap[bw]? = some (.cells (bwl wb B o t R U).toArray 91 (0, 0))) (Bs : Nat) (hBs : Bs ≤ bw) :
    Calls Try.prog 49 #[.agg #[], .slice (some ⟨bw, 4, none⟩) 8 8, .int .u64 v] w fun e w' => e = .returned (.tuple #[]) ∧ w'.heap[bw]? = some (.cells (bwl wb B o t (Go.Lib.byteCells (Go.Lib.leBytes 8 v)) U).toArray 91 (0, 0)) ∧ Below Bs w w' ∧ Kept w w' (fun k => k = bw) := by
  have hl := bwl_len (wb := wb) (B := B) (o := o) (t := t) hR hU
  have hc : ∀ i : Nat, i < 22 → ∃ x, w.cell? ⟨bw, i, none⟩ = some x := by
    intro i hi
    refine ⟨(bwl wb B o t R U)[i]'(by omega), (cell_of_row' hg i).trans ?_⟩
    simp [hl, hi]
  obtain ⟨x0, c0⟩ := hc 4 (by decide)
  obtain ⟨x1, c1⟩ := hc 5 (by decide)
  obtain ⟨x2, c2⟩ := hc 6 (by decide)
  obtain ⟨x3, c3⟩ := hc 7 (by decide)
  obtain ⟨x4, c4⟩ := hc 8 (by decide)
  obtain ⟨x5, c5⟩ := hc 9 (by decide)
  obtain ⟨x6, c6⟩ := hc 10 (by decide)
  obtain ⟨x7, c7⟩ := hc 11 (by decide)
  refine (Try.binary_LE_PutUint64 bw 4 8 8 v hv x0 x1 x2 x3 x4 x5 x6 x7 w (by decide) c0 c1 c2 c3 c4 c5 c6 c7 (blk_frozen' hg _) (blk_frozen' hg _) (blk_frozen' hg _) (blk_frozen' hg _) (blk_frozen' hg _) (blk_frozen' hg _) (blk_frozen' hg _) (blk_frozen' hg _)).mono ?_
  rintro e w' ⟨rfl, rfl⟩
  have hlt := blk_lt hg
  have hbl : (Go.Lib.byteCells (Go.Lib.leBytes 8 v)).length = 8 := by rw [Go.Lib.byteCells_length, leBytes_len']
  refine ⟨rfl, ?_, bel_setCells hBs _ _ _ (Below.alloc (Below.refl Bs w) (by omega) _), kept_setCells (S := fun k => k = bw) (Kept.alloc (Kept.refl w _) _) (.inl rfl) _ _⟩
  rw [blk_setCells _ _ _ _ (blk_alloc hg _) (by rw [hbl, hl]; decide)]
  congr 3
  unfold overV
  rw [hbl]
  show List.take 4 (bwl wb B o t R U) ++ _ ++ List.drop (4 + 8) (bwl wb B o t R U) = _
  have e : List.drop (4 + 8) (bwl wb B o t R U) = U := by
    unfold bwl
    rw [List.append_assoc]
    show List.drop 8 (R ++ U) = U
    rw [← hR, List.drop_left]
  rw [e]
  rfl
def rowB (D : List Int) : Array Value := (D.map (Value.int .u8)).toArray
theorem writeAt (wb d n : Nat) (A : Addr) (m c off : Nat) (D P : List Int) (w : World) (hwb : w.heap[wb]? = some (.cells #[.slice (some ⟨d, 0, none⟩) n n] 94 (0, 0))) (hd : w.heap[d]? = some (.cells (rowB D) 5 (0, 0))) (hn : D.length = n) (hn2 : n ≤ 100000)
    (hP : P.length = m) (hm : 0 < m) (hfit : off + m ≤ n) (hmc : m ≤ c) (hsrc : ∀ j : Nat, j < m → w.cell? (A.add j) = some (.int .u8 (P.getD j 0))) (hAd : A.block ≠ d) (hwd : wb ≠ d) (Bs : Nat) (hBs : Bs ≤ d) :
    Calls Try.prog 77 #[.pointer (some ⟨wb, 0, none⟩), .slice (some A) m c, .int .i64 off] w fun e w' => e = .returned (.tuple #[.int .i64 m, .nilIface]) ∧ w'.heap[d]? = some (.cells (rowB (over D off P)) 5 (0, 0)) ∧ Below Bs w w' ∧ Kept w w' (fun k => k = d) := by
  have g0 : w.cell? ⟨wb, 0, none⟩ = some (.slice (some ⟨d, 0, none⟩) n n) := (cell_of_row' hwb 0).trans rfl
  have h1 : ¬ ((n : Int) < off) := by omega
  have h2 : off ≤ n := by omega
  have h3 : ¬ n = off := by omega
  have h4 : ¬ (off : Int) = (n : Int) := by omega
  have hcp := run_copy_row (P := Try.prog) w 23 23 3 5 d off (n - off) (n - off) A m c (rowB D) 5 (P.map (Value.int .u8)) Try.underlying23 (by kernel_rfl) hd (by rw [List.length_map, hP]; unfold Nat.min; omega) (fun j v hv => by
    rw [List.getElem?_map] at hv
    obtain ⟨x, hx, rfl⟩ := Option.map_eq_some_iff.1 hv
    have hlt := (List.getElem?_eq_some_iff.1 hx).1
    rw [hsrc j (by omega), List.getD_eq_getElem?_getD, hx]
    rfl) (by rw [List.length_map, hP]; simp [rowB]; omega) (fun v hv => by
    obtain ⟨x, _, rfl⟩ := List.mem_map.1 hv
    rfl)
  have HD := Aside0.mk hd
  have HWB := Aside0.mk hwb
  clear hsrc
  go_enter Try.func77, Try.ntmps77
  go_wp2
  go_ret2
  have e : (List.take off (rowB D).toList ++ (List.map (Value.int .u8) P ++ List.drop (off + m) (rowB D).toList)).toArray = rowB (over D off P) := by
    unfold rowB over
    rw [hP]
    simp [List.map_take, List.map_drop]
  rw [e]
  refine ⟨rfl, setRow_heap _ _ _ _ _ _ HD.out, below_setRow (Below.refl _ _) hBs _, ⟨by simp [World.setRow], fun k hk hne => setRow_other _ _ _ _ hne⟩⟩

end Go.Proofs.Ytmlfgolmdeignaa.Pk
