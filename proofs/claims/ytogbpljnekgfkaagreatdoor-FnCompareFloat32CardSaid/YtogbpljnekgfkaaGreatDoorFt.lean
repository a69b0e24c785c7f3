/- float32: numbers at their places. -/
import Derived.Test.YtogbpljnekgfkaaGreatDoorFs
namespace Go.Proofs.YtogbpljnekgfkaaGreatDoor.Cm
open Go.RowKit Go.IntWalk Go.Proofs.YtogbpljnekgfkaaGreatDoorW.PrintWords Go.Proofs.YtogbpljnekgfkaaGreatDoorW.PrintLast Go.Proofs.YtogbpljnekgfkaaGreatDoorW.PrintMore
attribute [local go_sem] max2_int min2_int max_two min_two max_three min_three max_four min_four
set_option linter.unusedVariables false
set_option linter.unusedSimpArgs false
theorem run_store_float {P : Program} {w : World} {a : Addr} {m : Mode} (k : FloatKind) (n : Nat) : (store a (.float k n) m).run P w = stored P w a (.float k n) m := run_store P w a _ m rfl
attribute [local go_sem] run_store_float
attribute [local go_sem] run17 taF tbF88 tbF89 tbF90 tbF91 tbF92 tbF93 tbF94 tbF95 tbF96 tbF97 tbF98
set_option maxHeartbeats 8000000 in
set_option maxRecDepth 100000 in
theorem getOneF (g o n c : Nat) (D : List Int) (w : World) (hd : w.heap[g]? = some (.cells (rowB D) 5 (0, 0))) (hB : Bytes D) (hn : 4 ≤ n) (ho : o + 4 ≤ D.length) :
    Calls Tryz.prog 108 #[.slice (some ⟨g, o, none⟩) n c] w fun e w' => e = .returned (.float .f32 (word4 D o).toNat) ∧ Below w.heap.size w w' := by
  obtain ⟨w1, hw1⟩ : ∃ w1, w1 = w.alloc (.cells #[.float .f32 0] 29 (0, 0)) := ⟨_, rfl⟩
  have X1 := Aside0.mk (show w1.heap[w.heap.size]? = some (.cells #[.float .f32 0] 29 (0, 0)) by rw [hw1]; exact blk_new w _)
  have b1 : Below w.heap.size w w1 := by rw [hw1]; exact (Below.refl _ w).alloc (Nat.le_refl _) _
  have H116 := Aside0.mk (get32 g o n c D w1 (by rw [hw1]; exact blk_alloc hd _) hB hn ho)
  have B1 := Aside0.mk b1
  have HW := Aside0.mk hw1.symm
  clear hd hB hn ho b1 hw1
  go_enter Tryz.func108, Tryz.ntmps108
  go_upto_region 26 with fail
  rw [HW.out]
  go_wp2_with (go_at_call 116; refine Calls.mono H116.out ?_; rintro e w3 ⟨rfl, h1⟩; have x2 := blk_below X1.out h1; have c2 : w3.cell? ⟨w.heap.size, 0, none⟩ = some (.float .f32 0) := (cell_of_row' x2 0).trans rfl; have f2 := blk_frozen' x2 0; have B3 := Aside0.mk (B1.out.trans (h1.mono B1.out.size)); clear h1 x2)
  go_ret
  exact ⟨rfl, B3.out.setCell (p := ⟨w.heap.size, 0, none⟩) (Nat.le_refl _) _⟩
/-- A number is laid at its place. -/
theorem putAtF (g n c i y : Nat) (hy : y < 4294967296) (D : List Int) (w : World) (hd : w.heap[g]? = some (.cells (rowB D) 5 (0, 0))) (hn : n = D.length) (hi : 4 * i + 4 ≤ n) (hl : n ≤ 100000) (hc : n ≤ c) :
    Calls Tryz.prog 16 #[.slice (some ⟨g, 0, none⟩) n c, .int .i64 i, .float .f32 y] w fun e w' => e = .returned (.tuple #[]) ∧ w'.heap[g]? = some (.cells (rowB (set4 D (4 * i) y)) 5 (0, 0)) ∧ Kept w w' (fun k => k = g) ∧ Below g w w' := by
  obtain ⟨w1, hw1⟩ : ∃ w1, w1 = w.alloc (.cells #[.float .f32 0] 29 (0, 0)) := ⟨_, rfl⟩
  have d1 := show w1.heap[g]? = some (.cells (rowB D) 5 (0, 0)) by rw [hw1]; exact blk_alloc hd _
  have hlt := blk_lt hd
  obtain ⟨o, ho⟩ : ∃ o, o = 4 * i := ⟨_, rfl⟩
  obtain ⟨p, hp⟩ : ∃ p, p = o + 4 := ⟨_, rfl⟩
  have k1 := Aside0.mk (show Kept w w1 (fun k => k = g) by rw [hw1]; exact Kept.alloc (kept_refl' w _) _)
  have b1 := Aside0.mk (show Below g w w1 by rw [hw1]; exact (Below.refl g w).alloc (by omega) _)
  have H1 := Aside0.mk (fun (m c : Nat) (a : 4 ≤ m) => putOneF g o m c y hy D w1 d1 a (by omega))
  have hs : IntKind.i64.wrap ((i : Int) * 4) = (o : Int) := by rw [IntKind.wrap_i64]; omega
  have hs2 : IntKind.i64.wrap ((o : Int) + 4) = (p : Int) := by rw [IntKind.wrap_i64]; omega
  have hs3 : wrap64 ((o : Int) + 4) = (p : Int) := by unfold wrap64; omega
  have h1 : (p : Int) ≤ (n : Int) := by omega
  have h2 : p - o = 4 := by omega
  have h3 : (o : Int) ≤ (p : Int) := by omega
  have HO := Aside0.mk ho
  have HW := Aside0.mk (show w.alloc (.cells #[.float .f32 0] 29 (0, 0)) = w1 from hw1.symm)
  rw [← ho]
  clear d1 hw1 hd ho hp hn hi
  go_enter Tryz.func16, Tryz.ntmps16
  go_wp2_with (first | (go_at_call 29; refine Calls.mono (sizeF _) ?_; rintro e w2 ⟨rfl, hw2⟩; rw [HW.out] at hw2; subst hw2) | (go_at_call 30; refine Calls.mono (H1.out _ _ (by first | omega | simp)) ?_; rintro e w3 ⟨rfl, g1, g2, g3⟩))
  go_end0
  exact ⟨rfl, g1, ⟨Nat.le_trans k1.out.1 g2.1, fun i hi hne => (g2.2 i (Nat.lt_of_lt_of_le hi k1.out.1) hne).trans (k1.out.2 i hi hne)⟩, b1.out.trans g3⟩
/-- The number that lies at place i. -/
def oneF (D : List Int) (i : Nat) : Int := word4 D (4 * i)
/-- A number is read at its place. -/
theorem getAtF (g n c i : Nat) (D : List Int) (w : World) (hd : w.heap[g]? = some (.cells (rowB D) 5 (0, 0))) (hn : n = D.length) (hi : 4 * i + 4 ≤ n) (hl : n ≤ 100000) (hc : n ≤ c) (hB : Bytes D) :
    Calls Tryz.prog 93 #[.slice (some ⟨g, 0, none⟩) n c, .int .i64 i] w fun e w' => e = .returned (.float .f32 (oneF D i).toNat) ∧ Below w.heap.size w w' := by
  obtain ⟨w1, hw1⟩ : ∃ w1, w1 = w.alloc (.cells #[.float .f32 0] 29 (0, 0)) := ⟨_, rfl⟩
  have d1 := show w1.heap[g]? = some (.cells (rowB D) 5 (0, 0)) by rw [hw1]; exact blk_alloc hd _
  have b1 := Aside0.mk (show Below w.heap.size w w1 by rw [hw1]; exact (Below.refl _ w).alloc (Nat.le_refl _) _)
  obtain ⟨o, ho⟩ : ∃ o, o = 4 * i := ⟨_, rfl⟩
  obtain ⟨p, hp⟩ : ∃ p, p = o + 4 := ⟨_, rfl⟩
  have H1 := Aside0.mk (fun (m c : Nat) (a : 4 ≤ m) => getOneF g o m c D w1 d1 hB a (by omega))
  have hs : IntKind.i64.wrap ((i : Int) * 4) = (o : Int) := by rw [IntKind.wrap_i64]; omega
  have hs2 : IntKind.i64.wrap ((o : Int) + 4) = (p : Int) := by rw [IntKind.wrap_i64]; omega
  have hs3 : wrap64 ((o : Int) + 4) = (p : Int) := by unfold wrap64; omega
  have h1 : (p : Int) ≤ (n : Int) := by omega
  have h2 : p - o = 4 := by omega
  have h3 : (o : Int) ≤ (p : Int) := by omega
  have HO := Aside0.mk ho
  have HW := Aside0.mk (show w.alloc (.cells #[.float .f32 0] 29 (0, 0)) = w1 from hw1.symm)
  clear d1 hw1 hd ho hp hn hi
  go_enter Tryz.func93, Tryz.ntmps93
  go_wp2_with (first | (go_at_call 29; refine Calls.mono (sizeF _) ?_; rintro e w2 ⟨rfl, hw2⟩; rw [HW.out] at hw2; subst hw2) | (go_at_call 108; refine Calls.mono (H1.out _ _ (by first | omega | simp)) ?_; rintro e w3 ⟨rfl, h3⟩))
  go_ret
  refine ⟨?_, b1.out.trans (h3.mono b1.out.size)⟩
  rw [HO.out]
  rfl
theorem info29 : (Tryz.prog.info? 29).map (fun i => (i.zero, i.size, i.bytes)) = some (some (.float .f32 0), 1, 4) := by kernel_rfl
def rowF (X : List Int) : Array Value := (X.map fun x => Value.float .f32 x.toNat).toArray
theorem rowF_get {X : List Int} {i : Nat} (h : i < X.length) : (rowF X)[i]? = some (.float .f32 (X.getD i 0).toNat) := by
  simp [rowF, h]
theorem rowF_put {w : World} {g : Nat} {X : List Int} (h : w.heap[g]? = some (.cells (rowF X) 29 (0, 0))) (i : Nat) (x : Int) : (w.setCell ⟨g, i, none⟩ (.float .f32 x.toNat)).heap[g]? = some (.cells (rowF (X.set i x)) 29 (0, 0)) := by
  have := blk_put' (l := X.map fun x => Value.float .f32 x.toNat) h i (.float .f32 x.toNat)
  rw [this]
  unfold rowF
  rw [List.map_set]
theorem mkF (n : Nat) (hn : n ≤ 100000) (W : World) : (Instr.makeSlice 154 (.int .i64 n) (.int .i64 n)).run Tryz.prog W = .ok (.slice (some ⟨W.heap.size, 0, none⟩) n n) (W.alloc (.cells (rowF (List.replicate n 0)) 29 (0, 0))) := by
  have h := info29
  cases hi : Tryz.prog.info? 29 with
  | none => rw [hi] at h; cases h
  | some i =>
    rw [hi] at h
    simp only [Option.map_some, Option.some.injEq, Prod.mk.injEq] at h
    obtain ⟨hz, hs, hb⟩ := h
    have := run_makeSlice (P := Tryz.prog) W 154 29 i (.float .f32 0) Tryz.underlying154 hi hz .i64 .i64 n n (by omega) (by omega) (by rw [hs]; omega) (by rw [hb]; omega) (by omega)
    rw [this, hs, Int.toNat_natCast]
    have e : madeCells (Value.float .f32 0).cells (n * 1) = rowF (List.replicate n 0) := by
      rw [Nat.mul_one]
      refine Array.ext (by simp [size_madeCells, rowF]) fun i h1 h2 => ?_
      simp [madeCells, rowF, Value.cells, Nat.mod_one]
    rw [e]
set_option maxHeartbeats 8000000 in
set_option maxRecDepth 100000 in
/-- Bytes are read as numbers. -/
theorem getDataF (g n c m : Nat) (D : List Int) (w : World) (hd : w.heap[g]? = some (.cells (rowB D) 5 (0, 0))) (hm : m = D.length) (hn : m = 4 * n) (hl : m ≤ 100000) (hc : m ≤ c) (hBy : Bytes D) :
    Calls Tryz.prog 89 #[.slice (some ⟨g, 0, none⟩) m c] w fun e w' => ∃ b, e = .returned (.slice (some ⟨b, 0, none⟩) n n) ∧ w.heap.size ≤ b ∧ w'.heap[b]? = some (.cells (rowF ((List.range n).map (oneF D))) 29 (0, 0)) ∧ Below w.heap.size w w' := by
  obtain ⟨w1, hw1⟩ : ∃ w1, w1 = w.alloc (.cells #[.float .f32 0] 29 (0, 0)) := ⟨_, rfl⟩
  have hmk := mkF n (by omega) w1
  have hdiv : Int.tdiv (m : Int) 4 = (n : Int) := by rw [Int.tdiv_eq_ediv_of_nonneg (by omega)]; omega
  have hnw : IntKind.i64.wrap (n : Int) = n := by rw [IntKind.wrap_i64]; omega
  have b1 := Aside0.mk (show Below w.heap.size w (w1.alloc (.cells (rowF (List.replicate n 0)) 29 (0, 0))) by rw [hw1]; exact ((Below.refl _ w).alloc (Nat.le_refl _) _).alloc (by simp) _)
  have d1 := Aside0.mk (show (w1.alloc (.cells (rowF (List.replicate n 0)) 29 (0, 0))).heap[g]? = some (.cells (rowB D) 5 (0, 0)) by rw [hw1]; exact blk_alloc (blk_alloc hd _) _)
  have hb := blk_lt hd
  obtain ⟨b, hbe⟩ : ∃ b, b = w1.heap.size := ⟨_, rfl⟩
  have d2 := Aside0.mk (show (w1.alloc (.cells (rowF (List.replicate n 0)) 29 (0, 0))).heap[b]? = some (.cells (rowF (List.replicate n 0)) 29 (0, 0)) from blk_at hbe)
  have hwb : w.heap.size ≤ b := by rw [hbe, hw1]; simp
  have HW := Aside0.mk (show w.alloc (.cells #[.float .f32 0] 29 (0, 0)) = w1 from hw1.symm)
  have hgb : g ≠ b := by omega
  rw [← hbe] at hmk
  have hn1 : n ≤ 100000 := by omega
  have HM := Aside0.mk hm
  have HN := Aside0.mk hn
  have HY := Aside0.mk hBy
  clear hw1 hd hbe hm hn hBy
  go_enter Tryz.func89, Tryz.ntmps89
  go_wp2_with (go_at_call 29; refine Calls.mono (sizeF _) ?_; rintro e w2 ⟨rfl, hw2⟩; rw [HW.out] at hw2; subst hw2)
  go_loopg [12] n (fun kq v12 w' => ∃ i : Nat, v12 = .int .i64 i ∧ Aside0 (kq + i = n) ∧ Aside0 (w'.heap[b]? = some (.cells (rowF (part (oneF D) n i)) 29 (0, 0))) ∧ Aside0 (w'.heap[g]? = some (.cells (rowB D) 5 (0, 0))) ∧ Aside0 (Below w.heap.size w w'))
  case atStart => exact ⟨0, rfl, ⟨by omega⟩, ⟨by rw [part_zero]; exact d2.out⟩, d1, b1⟩
  case round =>
    obtain ⟨i, rfl, HJ, B0, B1, B2⟩ := hrel
    have hi0 : i ≤ n := by have := HJ.out; omega
    by_cases hi : i < n
    · have hiI : (i : Int) < (n : Int) := by omega
      have HG := Aside0.mk (getAtF g m c i D wr B1.out HM.out (by have := HN.out; omega) hl hc HY.out)
      obtain ⟨x, hx⟩ : ∃ x, x = oneF D i := ⟨_, rfl⟩
      rw [← hx] at HG
      have HX := Aside0.mk hx
      clear hx
      go_wp2_with (go_at_call 93; refine Calls.mono HG.out ?_; rintro e w2 ⟨rfl, hw2⟩; have p0 := blk_below B0.out hw2; have p1 := Aside0.mk (blk_below B1.out hw2); have p2 := Aside0.mk (B2.out.trans (hw2.mono B2.out.size)); have y0 := cell_of_row' p0 i; rw [rowF_get (by rw [part_len]; exact hi)] at y0; have y1 := blk_frozen' p0 i; have P0 := Aside0.mk (rowF_put p0 i x); rw [HX.out, part_step hi, ← HX.out] at P0; clear p0 hw2)
      go_roundg (gk - 1)
      case measure => have := HJ.out; omega
      case rel => exact ⟨i + 1, by go_num, ⟨by have := HJ.out; omega⟩, P0, ⟨blk_far (p := ⟨b, i, none⟩) p1.out hgb _⟩, ⟨p2.out.setCell (p := ⟨b, i, none⟩) hwb _⟩⟩
    · have hiI : ¬ (i : Int) < (n : Int) := by omega
      have B3 := Aside0.mk (show wr.heap[b]? = some (.cells (rowF ((List.range n).map (oneF D))) 29 (0, 0)) by
        have h := B0.out
        rw [part_all _ _ _ (by omega)] at h
        exact h)
      clear B0
      go_wp2
      go_ret
      exact ⟨b, rfl, hwb, B3.out, B2.out⟩

end Go.Proofs.YtogbpljnekgfkaaGreatDoor.Cm
