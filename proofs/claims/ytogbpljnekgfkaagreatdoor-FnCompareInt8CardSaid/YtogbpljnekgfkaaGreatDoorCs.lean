/- int8: its size, its bytes. -/
import Derived.Test.YtogbpljnekgfkaaGreatDoorC0
namespace Go.Proofs.YtogbpljnekgfkaaGreatDoor.Cm
open Go.RowKit Go.IntWalk Go.Proofs.YtogbpljnekgfkaaGreatDoorW.PrintWords Go.Proofs.YtogbpljnekgfkaaGreatDoorW.PrintLast Go.Proofs.YtogbpljnekgfkaaGreatDoorW.PrintMore
attribute [local go_sem] max2_int min2_int max_two min_two max_three min_three max_four min_four
set_option linter.unusedVariables false
set_option linter.unusedSimpArgs false
theorem taI (v : Value) (w : World) : (Instr.typeAssert (.iface 88 v) 20 88 true).run Tryz.prog w = .ok (.tuple #[v, .bool true]) w := as_hit Tryz.underlying88 v w
theorem tbI (v : Value) (w : World) : (Instr.typeAssert (.iface 88 v) 20 89 true).run Tryz.prog w = .ok (.tuple #[.pointer none, .bool false]) w := as_miss Tryz.underlying89 (by kernel_rfl) rfl v w
attribute [local go_sem] taI tbI
set_option maxRecDepth 100000 in
theorem sizeI (w : World) : Calls Tryz.prog 40 #[] w fun e w' => e = .returned (.int .i64 1) ∧ w' = w.alloc (.cells #[.int .i8 0] 52 (0, 0)) := by
  go_enter Tryz.func40, Tryz.ntmps40
  go_wp2
  go_ret
  exact ⟨rfl, rfl⟩
theorem SizeI (w : World) : Calls Tryz.prog 26 #[] w fun e w' => e = .returned (.int .i64 1) ∧ w' = w.alloc (.cells #[.int .i8 0] 52 (0, 0)) := by
  go_enter Tryz.func26, Tryz.ntmps26
  go_wp2_with (go_at_call 40; refine Calls.mono (sizeI _) ?_; rintro e w1 ⟨rfl, rfl⟩)
  go_ret
  exact ⟨rfl, rfl⟩
set_option maxRecDepth 100000 in
theorem putOneI (g o n c : Nat) (x : Int) (v : Value) (w : World) (hn : 0 < n) (hc : w.cell? ⟨g, o, none⟩ = some v) (hf : w.frozen? ⟨g, o, none⟩ = false) :
    Calls Tryz.prog 41 #[.slice (some ⟨g, o, none⟩) n c, .int .i8 x] w fun e w' => e = .returned (.tuple #[]) ∧ w' = (w.alloc (.cells #[.int .i8 x] 52 (0, 0))).setCell ⟨g, o, none⟩ (.int .u8 (IntKind.u8.wrap x)) := by
  have hlt : g < w.heap.size := cell_lt' hc
  have hc' : (w.alloc (.cells #[.int .i8 x] 52 (0, 0))).cell? ⟨g, o, none⟩ = some v := (World.cell?_of_block (w := w) (Below.heap_alloc w _ g hlt)).trans hc
  have hf' : (w.alloc (.cells #[.int .i8 x] 52 (0, 0))).frozen? ⟨g, o, none⟩ = false := (World.frozen?_of_block (w := w) (Below.heap_alloc w _ g hlt)).trans hf
  have hnI : (0 : Int) < (n : Int) := by omega
  clear hc hf hlt
  go_enter Tryz.func41, Tryz.ntmps41
  go_wp2
  go_end0
  exact ⟨rfl, rfl⟩
set_option maxRecDepth 100000 in
theorem getOneI (g o n c : Nat) (x : Int) (w : World) (hn : 0 < n) (hc : w.cell? ⟨g, o, none⟩ = some (.int .u8 x)) :
    Calls Tryz.prog 113 #[.slice (some ⟨g, o, none⟩) n c] w fun e w' => e = .returned (.int .i8 (IntKind.i8.wrap x)) ∧ w' = w.alloc (.cells #[.int .i8 (IntKind.i8.wrap x)] 52 (0, 0)) := by
  have hlt : g < w.heap.size := cell_lt' hc
  have hc' : (w.alloc (.cells #[.int .i8 0] 52 (0, 0))).cell? ⟨g, o, none⟩ = some (.int .u8 x) := (World.cell?_of_block (w := w) (Below.heap_alloc w _ g hlt)).trans hc
  have hnI : (0 : Int) < (n : Int) := by omega
  clear hc hlt
  go_enter Tryz.func113, Tryz.ntmps113
  go_wp2
  go_ret
  exact ⟨rfl, rfl⟩
/-- A number is laid at its place. -/
theorem putAtI (g n c i : Nat) (x : Int) (D : List Int) (w : World) (hd : w.heap[g]? = some (.cells (rowB D) 5 (0, 0))) (hn : n = D.length) (hi : i < n) (hl : n ≤ 100000) (hc : n ≤ c) :
    Calls Tryz.prog 27 #[.slice (some ⟨g, 0, none⟩) n c, .int .i64 i, .int .i8 x] w fun e w' => e = .returned (.tuple #[]) ∧ w'.heap[g]? = some (.cells (rowB (D.set i (IntKind.u8.wrap x))) 5 (0, 0)) ∧ Kept w w' (fun k => k = g) ∧ Below g w w' := by
  obtain ⟨w1, hw1⟩ : ∃ w1, w1 = w.alloc (.cells #[.int .i8 0] 52 (0, 0)) := ⟨_, rfl⟩
  have d1 := show w1.heap[g]? = some (.cells (rowB D) 5 (0, 0)) by rw [hw1]; exact blk_alloc hd _
  have hlt := blk_lt hd
  have k1 := Aside0.mk (show Kept w w1 (fun k => k = g) by rw [hw1]; exact Kept.alloc (kept_refl' w _) _)
  have b1 := Aside0.mk (show Below g w w1 by rw [hw1]; exact (Below.refl g w).alloc (by omega) _)
  have H1 := Aside0.mk (fun (m c : Nat) (a : 0 < m) => putOneI g i m c x (.int .u8 (D.getD i 0)) w1 a ((cell_of_row' d1 i).trans (rowB_get (by omega))) (blk_frozen' d1 i))
  have hs : IntKind.i64.wrap ((i : Int) + 1) = ((i + 1 : Nat) : Int) := by rw [IntKind.wrap_i64]; omega
  have hs2 : wrap64 ((i : Int) + 1) = ((i + 1 : Nat) : Int) := by unfold wrap64; omega
  have h1 : ((i + 1 : Nat) : Int) ≤ (n : Int) := by omega
  have h2 : i + 1 - i = 1 := by omega
  have D1 := Aside0.mk d1
  have HW := Aside0.mk (show w.alloc (.cells #[.int .i8 0] 52 (0, 0)) = w1 from hw1.symm)
  clear d1 hw1 hd
  go_enter Tryz.func27, Tryz.ntmps27
  go_wp2_with (first | (go_at_call 40; refine Calls.mono (sizeI _) ?_; rintro e w2 ⟨rfl, hw2⟩; rw [HW.out] at hw2; subst hw2) | (go_at_call 41; refine Calls.mono (H1.out _ _ (by decide)) ?_; rintro e w3 ⟨rfl, rfl⟩))
  go_end0
  exact ⟨rfl, rowB_put (blk_alloc D1.out _) i _, Kept.setCell (Kept.alloc k1.out _) (Or.inl rfl) _, (b1.out.alloc (Nat.le_trans (Nat.le_of_lt hlt) b1.out.size) _).setCell (p := ⟨g, i, none⟩) (Nat.le_refl g) _⟩
/-- A number is read at its place. -/
theorem getAtI (g n c i : Nat) (D : List Int) (w : World) (hd : w.heap[g]? = some (.cells (rowB D) 5 (0, 0))) (hn : n = D.length) (hi : i < n) (hl : n ≤ 100000) (hc : n ≤ c) :
    Calls Tryz.prog 104 #[.slice (some ⟨g, 0, none⟩) n c, .int .i64 i] w fun e w' => e = .returned (.int .i8 (IntKind.i8.wrap (D.getD i 0))) ∧ Below w.heap.size w w' := by
  obtain ⟨w1, hw1⟩ : ∃ w1, w1 = w.alloc (.cells #[.int .i8 0] 52 (0, 0)) := ⟨_, rfl⟩
  have d1 := show w1.heap[g]? = some (.cells (rowB D) 5 (0, 0)) by rw [hw1]; exact blk_alloc hd _
  have b1 := Aside0.mk (show Below w.heap.size w w1 by rw [hw1]; exact (Below.refl _ w).alloc (Nat.le_refl _) _)
  have H1 := Aside0.mk (fun (m c : Nat) (a : 0 < m) => getOneI g i m c (D.getD i 0) w1 a ((cell_of_row' d1 i).trans (rowB_get (by omega))))
  have hs : IntKind.i64.wrap ((i : Int) + 1) = ((i + 1 : Nat) : Int) := by rw [IntKind.wrap_i64]; omega
  have h1 : ((i + 1 : Nat) : Int) ≤ (n : Int) := by omega
  have h2 : i + 1 - i = 1 := by omega
  have HW := Aside0.mk (show w.alloc (.cells #[.int .i8 0] 52 (0, 0)) = w1 from hw1.symm)
  clear d1 hw1 hd
  go_enter Tryz.func104, Tryz.ntmps104
  go_wp2_with (first | (go_at_call 40; refine Calls.mono (sizeI _) ?_; rintro e w2 ⟨rfl, hw2⟩; rw [HW.out] at hw2; subst hw2) | (go_at_call 113; refine Calls.mono (H1.out _ _ (by decide)) ?_; rintro e w3 ⟨rfl, rfl⟩))
  go_ret
  exact ⟨rfl, b1.out.alloc b1.out.size _⟩
theorem info52 : (Tryz.prog.info? 52).map (fun i => (i.zero, i.size, i.bytes)) = some (some (.int .i8 0), 1, 1) := by kernel_rfl
def rowI (X : List Int) : Array Value := (X.map (Value.int .i8)).toArray
theorem rowI_get {X : List Int} {i : Nat} (h : i < X.length) : (rowI X)[i]? = some (.int .i8 (X.getD i 0)) := by
  simp [rowI, h]
theorem rowI_put {w : World} {g : Nat} {X : List Int} (h : w.heap[g]? = some (.cells (rowI X) 52 (0, 0))) (i : Nat) (x : Int) : (w.setCell ⟨g, i, none⟩ (.int .i8 x)).heap[g]? = some (.cells (rowI (X.set i x)) 52 (0, 0)) := by
  have := blk_put' (l := X.map (Value.int .i8)) h i (.int .i8 x)
  rw [this]
  unfold rowI
  rw [List.map_set]
theorem mkI (n : Nat) (hn : n ≤ 100000) (W : World) : (Instr.makeSlice 173 (.int .i64 n) (.int .i64 n)).run Tryz.prog W = .ok (.slice (some ⟨W.heap.size, 0, none⟩) n n) (W.alloc (.cells (rowI (List.replicate n 0)) 52 (0, 0))) := by
  have h := info52
  cases hi : Tryz.prog.info? 52 with
  | none => rw [hi] at h; cases h
  | some i =>
    rw [hi] at h
    simp only [Option.map_some, Option.some.injEq, Prod.mk.injEq] at h
    obtain ⟨hz, hs, hb⟩ := h
    have := run_makeSlice (P := Tryz.prog) W 173 52 i (.int .i8 0) Tryz.underlying173 hi hz .i64 .i64 n n (by omega) (by omega) (by rw [hs]; omega) (by rw [hb]; omega) (by omega)
    rw [this, hs, Int.toNat_natCast]
    have e : madeCells (Value.int .i8 0).cells (n * 1) = rowI (List.replicate n 0) := by
      rw [Nat.mul_one]
      refine Array.ext (by simp [size_madeCells, rowI]) fun i h1 h2 => ?_
      simp [madeCells, rowI, Value.cells, Nat.mod_one]
    rw [e]
/-- The number that lies at place i. -/
def oneI (D : List Int) (i : Nat) : Int := IntKind.i8.wrap (D.getD i 0)
set_option maxRecDepth 100000 in
/-- Bytes are read as numbers. -/
theorem getDataI (g n c m : Nat) (D : List Int) (w : World) (hd : w.heap[g]? = some (.cells (rowB D) 5 (0, 0))) (hm : m = D.length) (hn : m = 1 * n) (hl : m ≤ 100000) (hc : m ≤ c) :
    Calls Tryz.prog 102 #[.slice (some ⟨g, 0, none⟩) m c] w fun e w' => ∃ b, e = .returned (.slice (some ⟨b, 0, none⟩) n n) ∧ w.heap.size ≤ b ∧ w'.heap[b]? = some (.cells (rowI ((List.range n).map (oneI D))) 52 (0, 0)) ∧ Below w.heap.size w w' := by
  obtain ⟨w1, hw1⟩ : ∃ w1, w1 = w.alloc (.cells #[.int .i8 0] 52 (0, 0)) := ⟨_, rfl⟩
  have hmk := mkI n (by omega) w1
  have hdiv : Int.tdiv (m : Int) 1 = (n : Int) := by rw [Int.tdiv_eq_ediv_of_nonneg (by omega)]; omega
  have hmI : (m : Int) = ((1 * n : Nat) : Int) := by omega
  have hnw : IntKind.i64.wrap (n : Int) = n := by rw [IntKind.wrap_i64]; omega
  have b1 := Aside0.mk (show Below w.heap.size w (w1.alloc (.cells (rowI (List.replicate n 0)) 52 (0, 0))) by rw [hw1]; exact ((Below.refl _ w).alloc (Nat.le_refl _) _).alloc (by simp) _)
  have d1 := Aside0.mk (show (w1.alloc (.cells (rowI (List.replicate n 0)) 52 (0, 0))).heap[g]? = some (.cells (rowB D) 5 (0, 0)) by rw [hw1]; exact blk_alloc (blk_alloc hd _) _)
  have hb := blk_lt hd
  obtain ⟨b, hbe⟩ : ∃ b, b = w1.heap.size := ⟨_, rfl⟩
  have d2 := Aside0.mk (show (w1.alloc (.cells (rowI (List.replicate n 0)) 52 (0, 0))).heap[b]? = some (.cells (rowI (List.replicate n 0)) 52 (0, 0)) from blk_at hbe)
  have hwb : w.heap.size ≤ b := by rw [hbe, hw1]; simp
  have HW := Aside0.mk (show w.alloc (.cells #[.int .i8 0] 52 (0, 0)) = w1 from hw1.symm)
  have hgb : g ≠ b := by omega
  rw [← hbe] at hmk
  have HM := Aside0.mk hm
  have HN := Aside0.mk hn
  clear hw1 hd hbe hm hn
  go_enter Tryz.func102, Tryz.ntmps102
  go_wp2_with (go_at_call 40; refine Calls.mono (sizeI _) ?_; rintro e w2 ⟨rfl, hw2⟩; rw [HW.out] at hw2; subst hw2)
  go_loopg [12] n (fun kq v12 w' => ∃ i : Nat, v12 = .int .i64 i ∧ Aside0 (kq + i = n) ∧ Aside0 (w'.heap[b]? = some (.cells (rowI (part (oneI D) n i)) 52 (0, 0))) ∧ Aside0 (w'.heap[g]? = some (.cells (rowB D) 5 (0, 0))) ∧ Aside0 (Below w.heap.size w w'))
  case atStart => exact ⟨0, rfl, ⟨by omega⟩, ⟨by rw [part_zero]; exact d2.out⟩, d1, b1⟩
  case round =>
    obtain ⟨i, rfl, HJ, B0, B1, B2⟩ := hrel
    have hi0 : i ≤ n := by have := HJ.out; omega
    by_cases hi : i < n
    · have hiI : (i : Int) < (n : Int) := by omega
      have hlen : i < m := by have := HN.out; omega
      have HG := Aside0.mk (getAtI g m c i D wr B1.out HM.out hlen hl hc)
      have HS := Aside0.mk hlen
      obtain ⟨x, hx⟩ : ∃ x, x = oneI D i := ⟨_, rfl⟩
      rw [show IntKind.i8.wrap (D.getD i 0) = x from hx.symm] at HG
      have HX := Aside0.mk hx
      clear hx hlen
      go_wp2_with (go_at_call 104; refine Calls.mono HG.out ?_; rintro e w2 ⟨rfl, hw2⟩; have p0 := blk_below B0.out hw2; have p1 := Aside0.mk (blk_below B1.out hw2); have p2 := Aside0.mk (B2.out.trans (hw2.mono B2.out.size)); have y0 := cell_of_row' p0 i; rw [rowI_get (by rw [part_len]; exact hi)] at y0; have y1 := blk_frozen' p0 i; have P0 := Aside0.mk (rowI_put p0 i x); rw [HX.out, part_step hi, ← HX.out] at P0; clear p0 hw2)
      go_roundg (gk - 1)
      case measure => have := HJ.out; omega
      case rel => exact ⟨i + 1, by go_num, ⟨by have := HJ.out; omega⟩, P0, ⟨blk_far (p := ⟨b, i, none⟩) p1.out hgb _⟩, ⟨p2.out.setCell (p := ⟨b, i, none⟩) hwb _⟩⟩
    · have hiI : ¬ (i : Int) < (n : Int) := by omega
      have B3 := Aside0.mk (show wr.heap[b]? = some (.cells (rowI ((List.range n).map (oneI D))) 52 (0, 0)) by
        have h := B0.out
        rw [part_all _ _ _ (by omega)] at h
        exact h)
      clear B0
      go_wp2
      go_ret
      exact ⟨b, rfl, hwb, B3.out, B2.out⟩

end Go.Proofs.YtogbpljnekgfkaaGreatDoor.Cm
