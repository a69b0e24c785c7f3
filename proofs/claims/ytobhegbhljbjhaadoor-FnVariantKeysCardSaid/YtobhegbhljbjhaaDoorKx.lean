/- impl.VariantKeys. bytes.Compare, bytes.Equal; IdFor; impl.VariantIds. -/
import Derived.Test.YtobhegbhljbjhaaDoorKv
import Derived.Test.YtobhegbhljbjhaaDoorKh
import Derived.Lib.BytesEntry
import Derived.Lib.Bytealg
namespace Go.Proofs.YtobhegbhljbjhaaDoor.Vk
set_option linter.unusedVariables false
set_option linter.unusedSimpArgs false
open Go.RowKit Go.IntWalk Go.Proofs.YtobhegbhljbjhaaDoorW.PrintWords Go.Proofs.YtobhegbhljbjhaaDoorW.PrintLast Go.Proofs.YtobhegbhljbjhaaDoorW.PrintMore Go.Proofs.YtobhegbhljbjhaaDoor.MVkS
attribute [local go_sem] max2_int min2_int max_two min_two max_three min_three max_four min_four
/-! ## impl.VariantKeys -/
theorem copied29 (A : Option Addr) (n c : Nat) (D : List Int) (w : World) (hC : (Kd.int .u8).C w A n D) (hc : n ≤ c) (hn : n ≤ 20000) :
    Calls Tryd.prog 29 #[.slice A n c] w fun e w' => ∃ A1 c1, e = .returned (.slice A1 n c1) ∧ n ≤ c1 ∧ Kd.R (Kd.int .u8) 5 w' w.heap.size (fun _ => True) (.slice A1 n c1) D ∧ Below w.heap.size w w' := by
  have hDl : D.length = n := hC.1
  subst hDl
  have hf : impl_copied.f D = some D := by
    unfold impl_copied.f
    simp only [Option.bind_some, List.length_nil, List.nil_append]
    rw [if_pos (by omega)]
  refine (impl_copied.calls A c D D w hC hc hf).mono ?_
  rintro e w' ⟨v, rfl, hR, hb⟩
  obtain ⟨A1, c1, rfl, h1, h2⟩ := Kd.R_reads hR
  exact ⟨A1, c1, rfl, h1, hR, hb⟩
theorem R_in {A : Option Addr} {n c : Nat} {D : List Int} {w : World} {base : Nat} {ok : Nat → Prop} (h : Kd.R (Kd.int .u8) 5 w base ok (.slice A n c) D) : (Kd.int .u8).C w A n D := by
  obtain ⟨A', c', e, _, h2⟩ := Kd.R_reads h
  injection e with e1 e2 e3
  subst e1 e2
  exact h2
theorem no_idle27 (a b c d e f : Value) (w : World) :
    CallsD Tryd.prog 27 #[a, b, c, d, e, f] .returning w fun e u' w' => e = .returned (.tuple #[]) ∧ u' = .returning ∧ w' = w := by
  refine callsD_of_wpS Tryd.func27 rfl fun c₀ cs hu => ?_
  apply wpS_seq
  apply wpS_region
  simp [wpOpsS, go_sem, recoverD, hu, Tryd.ntmps27, Exit.thenS]
  refine wpS_cond (t := false) (by simp [Act.eval, Array.replicate]) ?_
  simp only [Bool.false_eq_true, if_false]
  refine wpS_of_wp (wp_skip ?_)
  cases c₀
  simp_all [bodyPostS, results, Tryd.results27]
/-- The result's variables. -/
structure Vars (N : Nat) (u : Value) (w : World) : Prop where
  a2 : w.heap[N]? = some (.cells #[.int .i64 0] 3 (0, 0))
  a3 : w.heap[N + 1]? = some (.cells #[.int .i64 0] 3 (0, 0))
  a4 : w.heap[N + 1 + 1]? = some (.cells #[.bool false] 4 (0, 0))
  a5 : w.heap[N + 1 + 1 + 1]? = some (.cells #[u] 23 (0, 0))
  a6 : w.heap[N + 1 + 1 + 1 + 1]? = some (.cells #[.int .i64 0] 3 (0, 0))
  a7 : w.heap[N + 1 + 1 + 1 + 1 + 1]? = some (.cells #[.bool false] 4 (0, 0))
theorem Vars.below {N : Nat} {u : Value} {w W : World} (h : Vars N u w) (hb : Below w.heap.size w W) : Vars N u W :=
  ⟨blk_below h.a2 hb, blk_below h.a3 hb, blk_below h.a4 hb, blk_below h.a5 hb, blk_below h.a6 hb, blk_below h.a7 hb⟩
theorem Vars.grown {N : Nat} {u : Value} {w W : World} {row : Option Nat} (h : Vars N u w) (hg : w.grownBy W row) (hne : ∀ k, k < N + 1 + 1 + 1 + 1 + 1 + 1 → some k ≠ row) : Vars N u W :=
  ⟨blk_grown h.a2 hg (hne _ (by omega)), blk_grown h.a3 hg (hne _ (by omega)), blk_grown h.a4 hg (hne _ (by omega)), blk_grown h.a5 hg (hne _ (by omega)), blk_grown h.a6 hg (hne _ (by omega)), blk_grown h.a7 hg (hne _ (by omega))⟩
theorem Vars.put {N : Nat} {u : Value} {w : World} (h : Vars N u w) (v : Value) : Vars N v (w.setCell ⟨N + 1 + 1 + 1, 0, none⟩ v) :=
  ⟨blk_far h.a2 (show N ≠ N + 1 + 1 + 1 by omega) v, blk_far h.a3 (show N + 1 ≠ N + 1 + 1 + 1 by omega) v, blk_far h.a4 (show N + 1 + 1 ≠ N + 1 + 1 + 1 by omega) v, blk_put h.a5 0 v rfl, blk_far h.a6 (show N + 1 + 1 + 1 + 1 ≠ N + 1 + 1 + 1 by omega) v, blk_far h.a7 (show N + 1 + 1 + 1 + 1 + 1 ≠ N + 1 + 1 + 1 by omega) v⟩
theorem Vars.fin {N : Nat} {u : Value} {w : World} (h : Vars N u w) (x2 x3 x6 : Int) (x4 x7 : Bool) (x5 : Value) : (((((((w).setCell ⟨N, 0, none⟩ (.int .i64 x2)).setCell ⟨N + 1, 0, none⟩ (.int .i64 x3)).setCell ⟨N + 1 + 1, 0, none⟩ (.bool x4)).setCell ⟨N + 1 + 1 + 1, 0, none⟩ (x5)).setCell ⟨N + 1 + 1 + 1 + 1, 0, none⟩ (.int .i64 x6)).setCell ⟨N + 1 + 1 + 1 + 1 + 1, 0, none⟩ (.bool x7)).cell? ⟨N, 0, none⟩ = some (.int .i64 x2) ∧ (((((((w).setCell ⟨N, 0, none⟩ (.int .i64 x2)).setCell ⟨N + 1, 0, none⟩ (.int .i64 x3)).setCell ⟨N + 1 + 1, 0, none⟩ (.bool x4)).setCell ⟨N + 1 + 1 + 1, 0, none⟩ (x5)).setCell ⟨N + 1 + 1 + 1 + 1, 0, none⟩ (.int .i64 x6)).setCell ⟨N + 1 + 1 + 1 + 1 + 1, 0, none⟩ (.bool x7)).cell? ⟨N + 1, 0, none⟩ = some (.int .i64 x3) ∧ (((((((w).setCell ⟨N, 0, none⟩ (.int .i64 x2)).setCell ⟨N + 1, 0, none⟩ (.int .i64 x3)).setCell ⟨N + 1 + 1, 0, none⟩ (.bool x4)).setCell ⟨N + 1 + 1 + 1, 0, none⟩ (x5)).setCell ⟨N + 1 + 1 + 1 + 1, 0, none⟩ (.int .i64 x6)).setCell ⟨N + 1 + 1 + 1 + 1 + 1, 0, none⟩ (.bool x7)).cell? ⟨N + 1 + 1, 0, none⟩ = some (.bool x4) ∧ (((((((w).setCell ⟨N, 0, none⟩ (.int .i64 x2)).setCell ⟨N + 1, 0, none⟩ (.int .i64 x3)).setCell ⟨N + 1 + 1, 0, none⟩ (.bool x4)).setCell ⟨N + 1 + 1 + 1, 0, none⟩ (x5)).setCell ⟨N + 1 + 1 + 1 + 1, 0, none⟩ (.int .i64 x6)).setCell ⟨N + 1 + 1 + 1 + 1 + 1, 0, none⟩ (.bool x7)).cell? ⟨N + 1 + 1 + 1, 0, none⟩ = some (x5) ∧ (((((((w).setCell ⟨N, 0, none⟩ (.int .i64 x2)).setCell ⟨N + 1, 0, none⟩ (.int .i64 x3)).setCell ⟨N + 1 + 1, 0, none⟩ (.bool x4)).setCell ⟨N + 1 + 1 + 1, 0, none⟩ (x5)).setCell ⟨N + 1 + 1 + 1 + 1, 0, none⟩ (.int .i64 x6)).setCell ⟨N + 1 + 1 + 1 + 1 + 1, 0, none⟩ (.bool x7)).cell? ⟨N + 1 + 1 + 1 + 1, 0, none⟩ = some (.int .i64 x6) ∧ (((((((w).setCell ⟨N, 0, none⟩ (.int .i64 x2)).setCell ⟨N + 1, 0, none⟩ (.int .i64 x3)).setCell ⟨N + 1 + 1, 0, none⟩ (.bool x4)).setCell ⟨N + 1 + 1 + 1, 0, none⟩ (x5)).setCell ⟨N + 1 + 1 + 1 + 1, 0, none⟩ (.int .i64 x6)).setCell ⟨N + 1 + 1 + 1 + 1 + 1, 0, none⟩ (.bool x7)).cell? ⟨N + 1 + 1 + 1 + 1 + 1, 0, none⟩ = some (.bool x7) := by
  have q0 := (blk_far (p := ⟨N + 1 + 1 + 1 + 1 + 1, 0, none⟩) (blk_far (p := ⟨N + 1 + 1 + 1 + 1, 0, none⟩) (blk_far (p := ⟨N + 1 + 1 + 1, 0, none⟩) (blk_far (p := ⟨N + 1 + 1, 0, none⟩) (blk_far (p := ⟨N + 1, 0, none⟩) (blk_put h.a2 0 (.int .i64 x2) rfl) (show N ≠ N + 1 by omega) (.int .i64 x3)) (show N ≠ N + 1 + 1 by omega) (.bool x4)) (show N ≠ N + 1 + 1 + 1 by omega) (x5)) (show N ≠ N + 1 + 1 + 1 + 1 by omega) (.int .i64 x6)) (show N ≠ N + 1 + 1 + 1 + 1 + 1 by omega) (.bool x7))
  have q1 := (blk_far (p := ⟨N + 1 + 1 + 1 + 1 + 1, 0, none⟩) (blk_far (p := ⟨N + 1 + 1 + 1 + 1, 0, none⟩) (blk_far (p := ⟨N + 1 + 1 + 1, 0, none⟩) (blk_far (p := ⟨N + 1 + 1, 0, none⟩) (blk_put (blk_far (p := ⟨N, 0, none⟩) h.a3 (show N + 1 ≠ N by omega) (.int .i64 x2)) 0 (.int .i64 x3) rfl) (show N + 1 ≠ N + 1 + 1 by omega) (.bool x4)) (show N + 1 ≠ N + 1 + 1 + 1 by omega) (x5)) (show N + 1 ≠ N + 1 + 1 + 1 + 1 by omega) (.int .i64 x6)) (show N + 1 ≠ N + 1 + 1 + 1 + 1 + 1 by omega) (.bool x7))
  have q2 := (blk_far (p := ⟨N + 1 + 1 + 1 + 1 + 1, 0, none⟩) (blk_far (p := ⟨N + 1 + 1 + 1 + 1, 0, none⟩) (blk_far (p := ⟨N + 1 + 1 + 1, 0, none⟩) (blk_put (blk_far (p := ⟨N + 1, 0, none⟩) (blk_far (p := ⟨N, 0, none⟩) h.a4 (show N + 1 + 1 ≠ N by omega) (.int .i64 x2)) (show N + 1 + 1 ≠ N + 1 by omega) (.int .i64 x3)) 0 (.bool x4) rfl) (show N + 1 + 1 ≠ N + 1 + 1 + 1 by omega) (x5)) (show N + 1 + 1 ≠ N + 1 + 1 + 1 + 1 by omega) (.int .i64 x6)) (show N + 1 + 1 ≠ N + 1 + 1 + 1 + 1 + 1 by omega) (.bool x7))
  have q3 := (blk_far (p := ⟨N + 1 + 1 + 1 + 1 + 1, 0, none⟩) (blk_far (p := ⟨N + 1 + 1 + 1 + 1, 0, none⟩) (blk_put (blk_far (p := ⟨N + 1 + 1, 0, none⟩) (blk_far (p := ⟨N + 1, 0, none⟩) (blk_far (p := ⟨N, 0, none⟩) h.a5 (show N + 1 + 1 + 1 ≠ N by omega) (.int .i64 x2)) (show N + 1 + 1 + 1 ≠ N + 1 by omega) (.int .i64 x3)) (show N + 1 + 1 + 1 ≠ N + 1 + 1 by omega) (.bool x4)) 0 (x5) rfl) (show N + 1 + 1 + 1 ≠ N + 1 + 1 + 1 + 1 by omega) (.int .i64 x6)) (show N + 1 + 1 + 1 ≠ N + 1 + 1 + 1 + 1 + 1 by omega) (.bool x7))
  have q4 := (blk_far (p := ⟨N + 1 + 1 + 1 + 1 + 1, 0, none⟩) (blk_put (blk_far (p := ⟨N + 1 + 1 + 1, 0, none⟩) (blk_far (p := ⟨N + 1 + 1, 0, none⟩) (blk_far (p := ⟨N + 1, 0, none⟩) (blk_far (p := ⟨N, 0, none⟩) h.a6 (show N + 1 + 1 + 1 + 1 ≠ N by omega) (.int .i64 x2)) (show N + 1 + 1 + 1 + 1 ≠ N + 1 by omega) (.int .i64 x3)) (show N + 1 + 1 + 1 + 1 ≠ N + 1 + 1 by omega) (.bool x4)) (show N + 1 + 1 + 1 + 1 ≠ N + 1 + 1 + 1 by omega) (x5)) 0 (.int .i64 x6) rfl) (show N + 1 + 1 + 1 + 1 ≠ N + 1 + 1 + 1 + 1 + 1 by omega) (.bool x7))
  have q5 := (blk_put (blk_far (p := ⟨N + 1 + 1 + 1 + 1, 0, none⟩) (blk_far (p := ⟨N + 1 + 1 + 1, 0, none⟩) (blk_far (p := ⟨N + 1 + 1, 0, none⟩) (blk_far (p := ⟨N + 1, 0, none⟩) (blk_far (p := ⟨N, 0, none⟩) h.a7 (show N + 1 + 1 + 1 + 1 + 1 ≠ N by omega) (.int .i64 x2)) (show N + 1 + 1 + 1 + 1 + 1 ≠ N + 1 by omega) (.int .i64 x3)) (show N + 1 + 1 + 1 + 1 + 1 ≠ N + 1 + 1 by omega) (.bool x4)) (show N + 1 + 1 + 1 + 1 + 1 ≠ N + 1 + 1 + 1 by omega) (x5)) (show N + 1 + 1 + 1 + 1 + 1 ≠ N + 1 + 1 + 1 + 1 by omega) (.int .i64 x6)) 0 (.bool x7) rfl)
  exact ⟨(blk_cell q0 0).trans rfl, (blk_cell q1 0).trans rfl, (blk_cell q2 0).trans rfl, (blk_cell q3 0).trans rfl, (blk_cell q4 0).trans rfl, (blk_cell q5 0).trans rfl⟩
theorem R_fin {N Z : Nat} {w : World} {v : Value} {K : List ByteArray} (h : Kd.R Kd.string 9 w N (fun k => Z ≤ k) v K) (hZ : N + 1 + 1 + 1 + 1 + 1 < Z) (x2 x3 x6 : Int) (x4 x7 : Bool) (x5 : Value) : Kd.R Kd.string 9 (((((((w).setCell ⟨N, 0, none⟩ (.int .i64 x2)).setCell ⟨N + 1, 0, none⟩ (.int .i64 x3)).setCell ⟨N + 1 + 1, 0, none⟩ (.bool x4)).setCell ⟨N + 1 + 1 + 1, 0, none⟩ (x5)).setCell ⟨N + 1 + 1 + 1 + 1, 0, none⟩ (.int .i64 x6)).setCell ⟨N + 1 + 1 + 1 + 1 + 1, 0, none⟩ (.bool x7)) N (fun k => Z ≤ k) v K :=
  (Kd.R_far (p := ⟨N + 1 + 1 + 1 + 1 + 1, 0, none⟩) (Kd.R_far (p := ⟨N + 1 + 1 + 1 + 1, 0, none⟩) (Kd.R_far (p := ⟨N + 1 + 1 + 1, 0, none⟩) (Kd.R_far (p := ⟨N + 1 + 1, 0, none⟩) (Kd.R_far (p := ⟨N + 1, 0, none⟩) (Kd.R_far (p := ⟨N, 0, none⟩) h (fun k hk => by show k ≠ N; omega) (.int .i64 x2)) (fun k hk => by show k ≠ N + 1; omega) (.int .i64 x3)) (fun k hk => by show k ≠ N + 1 + 1; omega) (.bool x4)) (fun k hk => by show k ≠ N + 1 + 1 + 1; omega) (x5)) (fun k hk => by show k ≠ N + 1 + 1 + 1 + 1; omega) (.int .i64 x6)) (fun k hk => by show k ≠ N + 1 + 1 + 1 + 1 + 1; omega) (.bool x7))
theorem below_fin {N B : Nat} {w0 w : World} (h : Below B w0 w) (hB : B ≤ N) (x2 x3 x6 : Int) (x4 x7 : Bool) (x5 : Value) : Below B w0 (((((((w).setCell ⟨N, 0, none⟩ (.int .i64 x2)).setCell ⟨N + 1, 0, none⟩ (.int .i64 x3)).setCell ⟨N + 1 + 1, 0, none⟩ (.bool x4)).setCell ⟨N + 1 + 1 + 1, 0, none⟩ (x5)).setCell ⟨N + 1 + 1 + 1 + 1, 0, none⟩ (.int .i64 x6)).setCell ⟨N + 1 + 1 + 1 + 1 + 1, 0, none⟩ (.bool x7)) :=
  (Below.setCell (p := ⟨N + 1 + 1 + 1 + 1 + 1, 0, none⟩) (Below.setCell (p := ⟨N + 1 + 1 + 1 + 1, 0, none⟩) (Below.setCell (p := ⟨N + 1 + 1 + 1, 0, none⟩) (Below.setCell (p := ⟨N + 1 + 1, 0, none⟩) (Below.setCell (p := ⟨N + 1, 0, none⟩) (Below.setCell (p := ⟨N, 0, none⟩) h (show B ≤ N by omega) (.int .i64 x2)) (show B ≤ N + 1 by omega) (.int .i64 x3)) (show B ≤ N + 1 + 1 by omega) (.bool x4)) (show B ≤ N + 1 + 1 + 1 by omega) (x5)) (show B ≤ N + 1 + 1 + 1 + 1 by omega) (.int .i64 x6)) (show B ≤ N + 1 + 1 + 1 + 1 + 1 by omega) (.bool x7))
theorem wi64 (x : Int) (h0 : 0 ≤ x) (h : x ≤ 1000000) : IntKind.i64.wrap x = x := by
  simp only [IntKind.wrap, IntKind.bits, IntKind.signed]
  simp
  omega
theorem blk_end {W : World} {o : Obj} {g : Nat} (h : g = W.heap.size) : (W.alloc o).heap[g]? = some o := by rw [h]; exact blk_new W o
def start6 (w : World) : World := (((((w.alloc (Obj.cells #[Value.int .i64 0] 3 (0, 0))).alloc (Obj.cells #[Value.int .i64 0] 3 (0, 0))).alloc (Obj.cells #[Value.bool false] 4 (0, 0))).alloc (Obj.cells #[Value.slice none 0 0] 23 (0, 0))).alloc (Obj.cells #[Value.int .i64 0] 3 (0, 0))).alloc (Obj.cells #[Value.bool false] 4 (0, 0))
theorem start6_vars (w : World) : Vars w.heap.size (.slice none 0 0) (start6 w) := by
  unfold start6
  exact ⟨blk_alloc (blk_alloc (blk_alloc (blk_alloc (blk_alloc (blk_new w _) _) _) _) _) _,
    blk_alloc (blk_alloc (blk_alloc (blk_alloc (blk_end (by simp)) _) _) _) _,
    blk_alloc (blk_alloc (blk_alloc (blk_end (by simp)) _) _) _,
    blk_alloc (blk_alloc (blk_end (by simp)) _) _,
    blk_alloc (blk_end (by simp)) _,
    blk_end (by simp)⟩
theorem start6_below (w : World) : Below w.heap.size w (start6 w) := by
  unfold start6
  exact below_alloc (below_alloc (below_alloc (below_alloc (below_alloc (below_alloc (Below.refl _ _) _) _) _) _) _) _
theorem start6_size (w : World) : (start6 w).heap.size = w.heap.size + 1 + 1 + 1 + 1 + 1 + 1 := by
  unfold start6
  simp
set_option maxHeartbeats 16000000 in
set_option maxRecDepth 100000 in
theorem keys11 (A : Option Addr) (n c : Nat) (D : List Int) (s5 : Bool) (size : Nat) (K : List ByteArray) (hM : MD D s5 size K) (w : World) (hC : (Kd.int .u8).C w A n D) (hc : n ≤ c) :
    Calls Tryd.prog 11 #[.slice A n c] w fun e w' => ∃ v, e = .returned (.tuple #[.int .i64 1, .int .i64 (size : Int), .bool s5, v, .int .i64 (n : Int), .bool true]) ∧ Kd.R Kd.string 9 w' w.heap.size (fun _ => True) v K ∧ Below w.heap.size w w' := by
  have hn9 : n ≤ 20000 := by have := hM.big; rw [hC.1] at this; exact this
  have R29 := Aside0.mk (fun W (hW : Below w.heap.size w W) => copied29 A n c D W (Kd.C_below hC hW) hc hn9)
  have HM := Aside0.mk hM
  clear hM hC
  go_enter_defers Tryd.func11, Tryd.ntmps11
  go_upto_region 2 with fail
  obtain ⟨N, hN⟩ : ∃ N, N = w.heap.size := ⟨_, rfl⟩
  obtain ⟨W1, hW1⟩ : ∃ W1, W1 = start6 w := ⟨_, rfl⟩
  have V1 := Aside0.mk (show Vars N (.slice none 0 0) W1 from by rw [hW1, hN]; exact start6_vars w)
  have B1 := Aside0.mk (show Below w.heap.size w W1 from by rw [hW1]; exact start6_below w)
  have Z1 := Aside0.mk (show W1.heap.size = N + 1 + 1 + 1 + 1 + 1 + 1 from by rw [hW1, hN]; exact start6_size w)
  unfold start6 at hW1
  rw [← hW1, ← hN]
  have HN := Aside0.mk hN
  clear hW1 hN
  go_upto_region 3 with (first | (go_at_call 29; refine Calls.mono (R29.out _ B1.out) ?_; rintro e w2 ⟨A1, c1, rfl, q1, q2, q3⟩; have HC2 := Aside0.mk q1; have D2 := Aside0.mk q2; have E2 := Aside0.mk (R_in q2); have B2 := Aside0.mk (B1.out.trans (q3.mono B1.out.size)); have V2 := Aside0.mk (V1.out.below q3); have Z2 := Aside0.mk (show N + 1 + 1 + 1 + 1 + 1 + 1 ≤ w2.heap.size from by have := q3.size; have := Z1.out; omega); clear q1 q2 q3) | (go_at_call 28; refine Calls.mono (new28 A1 n c1 D s5 size K HM.out _ E2.out HC2.out) ?_; rintro e w3 ⟨v, rfl, q1, q2⟩; obtain ⟨B0, cB, rfl⟩ := q1.form; have HC3 := Aside0.mk HC2.out; have K3 := Aside0.mk q1; have D3 := Aside0.mk (Kd.R_below D2.out q2); have B3 := Aside0.mk (B2.out.trans (q2.mono B2.out.size)); have V3 := Aside0.mk (V2.out.below q2); have Z3 := Aside0.mk (Nat.le_trans Z2.out q2.size); clear q1 q2))
  obtain ⟨mb, hmb⟩ : ∃ mb, mb = w3.heap.size := ⟨_, rfl⟩
  obtain ⟨W4, hW4⟩ : ∃ W4, W4 = w3.alloc (Obj.cells #[Value.slice A1 n c1, Value.slice B0 K.length cB] 65 (0, 0)) := ⟨_, rfl⟩
  have M4 := Aside0.mk (show W4.heap[mb]? = some (.cells #[.slice A1 n c1, .slice B0 K.length cB] 65 (0, 0)) from by rw [hW4, hmb]; exact blk_new w3 _)
  have hb4 : Below w3.heap.size w3 W4 := by rw [hW4]; exact below_alloc (Below.refl _ _) _
  have K4 := Aside0.mk (K3.out.below hb4)
  have D4 := Aside0.mk (Kd.R_below D3.out hb4)
  have V4 := Aside0.mk (V3.out.below hb4)
  have B4 := Aside0.mk (B3.out.trans (hb4.mono B3.out.size))
  have Z4 := Aside0.mk (show N + 1 + 1 + 1 + 1 + 1 + 1 ≤ mb from by rw [hmb]; exact Z3.out)
  have Y4 := Aside0.mk (show mb < W4.heap.size from blk_lt M4.out)
  have ZZ := Aside0.mk (show N + 1 + 1 + 1 + 1 + 1 + 1 ≤ W1.heap.size from Nat.le_of_eq Z1.out.symm)
  rw [← hW4, ← hmb]
  have few := HM.out.few
  clear hW4 hmb hb4 V1 B1 HC2 D2 E2 B2 V2 K3 D3 B3 V3 Z3 Z1 R29
  have t0 := (blk_cell M4.out 0).trans (show (#[.slice A1 n c1, .slice B0 K.length cB] : Array Value)[0]? = some (.slice A1 n c1) from rfl)
  have t1 := (blk_cell M4.out 1).trans (show (#[.slice A1 n c1, .slice B0 K.length cB] : Array Value)[1]? = some (.slice B0 K.length cB) from rfl)
  have RK : ∀ W, Kept W4 W (fun k => k = N + 1 + 1 + 1) → Aside0 (KeysIn W (.slice B0 K.length cB) K) ∧ Aside0 ((Kd.int .u8).C W A1 n D) := fun W hW => by
    have h1 := R_in (Kd.R_kept (Kd.R_bound D4.out) hW (fun k hk he => by have := hk.2.1; have := ZZ.out; omega))
    have h2 := (K4.out.kept hW (fun k hk _ he => by have := Z2.out; omega)).reads h1 few
    exact ⟨⟨h2⟩, ⟨h1⟩⟩
  have RK := Aside0.mk RK
  obtain ⟨NI, hNI⟩ : ∃ NI : Int, NI = ((K.length : Nat) : Int) := ⟨_, rfl⟩
  have R30 := Aside0.mk (count30 (.slice A1 n c1) (.slice B0 K.length cB) K few ⟨_, _, _, rfl⟩ W4 (RK.out W4 (Kept.refl _ _)).1.out)
  rw [← hNI] at R30
  have HNI := Aside0.mk hNI
  have NI0 : 0 ≤ NI ∧ NI ≤ 49 := by omega
  clear hNI
  go_upto_region 6 with (go_at_call 30; refine Calls.mono R30.out ?_; rintro e w5 ⟨rfl, b⟩; have B5 := Aside0.mk b; clear b)
  have M5 := Aside0.mk (blk_below M4.out B5.out)
  have V5 := Aside0.mk (V4.out.below B5.out)
  have P5 := Aside0.mk ((Kept.refl W4 (fun k => k = N + 1 + 1 + 1)).below B5.out)
  have L5 := Aside0.mk (B4.out.trans (B5.out.mono B4.out.size))
  have hZ4 : N + 1 + 1 + 1 + 1 + 1 + 1 < W4.heap.size := by have := Z4.out; have := Y4.out; omega
  clear t0 t1 V4 B4 B5 M4 R30 D4
  go_wp2
  go_loopg [24] K.length (fun kq v24 w' => ∃ (i : Nat) (I : Int) (u : Value), v24 = .int .u32 I ∧ Aside0 (I = (i : Int)) ∧ Aside0 (kq + i = K.length) ∧ Aside0 (Kd.R Kd.string 9 w' N (fun k => W4.heap.size ≤ k) u (K.take i)) ∧ Aside0 (Vars N u w') ∧ Aside0 (w'.heap[mb]? = some (.cells #[.slice A1 n c1, .slice B0 K.length cB] 65 (0, 0))) ∧ Aside0 (Kept W4 w' (fun k => k = N + 1 + 1 + 1)) ∧ Aside0 (Below w.heap.size w w'))
  case atStart => exact ⟨0, 0, .slice none 0 0, rfl, ⟨rfl⟩, ⟨by omega⟩, ⟨Kd.R_nil _ _ _ _ _⟩, V5, M5, P5, L5⟩
  case round =>
    clear M5 V5 P5 L5
    obtain ⟨i, I, u, rfl, HI, HJ, HR, HV, HM5, HP, HL⟩ := hrel
    have t0 := (blk_cell HM5.out 0).trans (show (#[.slice A1 n c1, .slice B0 K.length cB] : Array Value)[0]? = some (.slice A1 n c1) from rfl)
    have t1 := (blk_cell HM5.out 1).trans (show (#[.slice A1 n c1, .slice B0 K.length cB] : Array Value)[1]? = some (.slice B0 K.length cB) from rfl)
    by_cases hi : i < K.length
    · have hIN : I < NI := by rw [HI.out, HNI.out]; omega
      have hI0 : 0 ≤ I := by rw [HI.out]; omega
      have R31 := Aside0.mk (keyAt31 (.slice A1 n c1) (.slice B0 K.length cB) K few ⟨_, _, _, rfl⟩ wr (RK.out wr HP.out).1.out i hi)
      rw [← HI.out] at R31
      obtain ⟨s, hs⟩ : ∃ s, s = K[i] := ⟨_, rfl⟩
      rw [← hs] at R31
      have HS := Aside0.mk hs
      clear hs
      obtain ⟨Au, cu, rfl, hcu, _⟩ := Kd.R_reads HR.out
      have htl : (K.take i).length = i := by rw [List.length_take]; omega
      rw [htl] at HR HV
      have hNR : ∀ k, k < W4.heap.size → some k ≠ (Value.slice Au i cu).ownBlock := fun k hk he => by have := HR.out.1 k he.symm; omega
      have HNR := Aside0.mk hNR
      clear hNR
      go_upto_region 11 with (go_at_call 31; refine Calls.mono R31.out ?_; rintro e w6 ⟨rfl, b⟩; have HR6 := Aside0.mk (Kd.R_below HR.out b); have HV6 := Aside0.mk (HV.out.below b); have HM6 := Aside0.mk (blk_below HM5.out b); have HP6 := Aside0.mk (HP.out.below b); have HL6 := Aside0.mk (HL.out.trans (b.mono HL.out.size)); clear b)
      clear t0 t1 HR HV HM5 HP HL R31
      have t5 := (blk_cell HV6.out.a5 0).trans (show (#[.slice Au i cu] : Array Value)[0]? = some (.slice Au i cu) from rfl)
      have hW46 : W4.heap.size ≤ w6.heap.size := HP6.out.1
      go_wp2_with ((with_reducible refine gate_builtin (b := .append) (xs := #[.tmp 35, .tmp 37]) rfl ?_); go_loud (at_builtin; refine Kd.R_append Kd.string (w0 := w) N rfl (.tmp 35) (.tmp 37) 23 9 (.string ⟨#[]⟩) 16 rfl Tryd.underlying23 info9 rfl (by decide) (by omega) (.slice Au i cu) (K.take i) s [.string s] (fun k => W4.heap.size ≤ k) (fun _ => False) rfl rfl ?aP (fun _ hk => hk.elim) ?aF ?aO ?aB ?aS ?aL ?_; (case aP => exact rfl); (case aB => exact (by have h := HL6.out; rw [← HN.out] at h; exact h)); (case aF => exact (fun k hk => by omega)); (case aO => exact HR6.out); (case aS => omega); (case aL => omega); intro v1 w7 ho hb hg hat; obtain ⟨Av, cv, rfl, _, _⟩ := Kd.R_reads ho; rw [show (K.take i ++ [s]).length = i + 1 by rw [List.length_append, htl]; rfl] at ho; have HR7 := Aside0.mk ho; have HV7 := Aside0.mk (HV6.out.grown hg (fun k hk => HNR.out k (by omega))); have HM7 := Aside0.mk (blk_grown HM6.out hg (HNR.out _ (by have := Y4.out; omega))); have HP7 := Aside0.mk (Kept.of_grown hg HP6.out (fun k hk => .inr (by have := HNR.out k; by_cases h : k < W4.heap.size; (exact absurd hk.symm (this h)); omega))); have HL7 := Aside0.mk hb; have t7 := (blk_cell HV7.out.a5 0).trans (show (#[.slice Au i cu] : Array Value)[0]? = some (.slice Au i cu) from rfl); have f7 := blk_frozen HV7.out.a5 0; clear ho hb hg hat))
      go_roundg (gk - 1)
      case measure => have := HJ.out; omega
      case rel => exact ⟨i + 1, I + 1, _, by go_num, ⟨by have := HI.out; omega⟩, ⟨by have := HJ.out; omega⟩, ⟨by rw [take_snoc _ _ hi, ← HS.out]; exact Kd.R_set HR7.out HV7.out.a5 (by intro q hq; simp [Kd.string, Kd.scalar] at hq; subst hq; decide) 0 _⟩, ⟨HV7.out.put _⟩, ⟨blk_far (p := ⟨N + 1 + 1 + 1, 0, none⟩) HM7.out (show mb ≠ N + 1 + 1 + 1 by have := Z4.out; omega) _⟩, ⟨HP7.out.setCell (.inl rfl) _⟩, ⟨by have h := HL7.out; rw [HN.out] at h; exact h.setCell (p := ⟨N + 1 + 1 + 1, 0, none⟩) (show w.heap.size ≤ N + 1 + 1 + 1 by have := HN.out; omega) _⟩⟩
    · have hIN : ¬ I < NI := by rw [HI.out, HNI.out]; omega
      have hiK : i = K.length := by have := HJ.out; omega
      have HRK := Aside0.mk (show Kd.R Kd.string 9 wr N (fun k => W4.heap.size ≤ k) u K from by have h := HR.out; rw [hiK, List.take_length] at h; exact h)
      obtain ⟨Au, cu, rfl, _, _⟩ := Kd.R_reads HRK.out
      have CW := Aside0.mk (fun W (hW : Below wr.heap.size wr W) => (RK.out W (HP.out.below hW)).2.out)
      have R32 := Aside0.mk (fun W (hW : Below wr.heap.size wr W) => version32 A1 n c1 D s5 size K HM.out (.slice B0 K.length cB) ⟨_, _, _, rfl⟩ W (CW.out W hW))
      have R33 := Aside0.mk (fun W (hW : Below wr.heap.size wr W) => offset33 A1 n c1 D s5 size K HM.out (.slice B0 K.length cB) ⟨_, _, _, rfl⟩ W (CW.out W hW))
      have R34 := Aside0.mk (fun W (hW : Below wr.heap.size wr W) => sorted34 A1 n c1 D s5 size K HM.out (.slice B0 K.length cB) ⟨_, _, _, rfl⟩ W (CW.out W hW))
      have R35 := Aside0.mk (fun W (hW : Below wr.heap.size wr W) => size35 A1 n c1 D s5 size K HM.out (.slice B0 K.length cB) ⟨_, _, _, rfl⟩ W (CW.out W hW) HC3.out)
      obtain ⟨SI, hSI⟩ : ∃ SI : Int, SI = ((size : Nat) : Int) := ⟨_, rfl⟩
      have SI0 : 0 ≤ SI ∧ SI ≤ 4 := by have := HM.out.s4; omega
      rw [← hSI] at R33
      have HSI := Aside0.mk hSI
      have nI9 : (n : Int) ≤ 20000 := by omega
      clear hSI
      have FC := Aside0.mk (show ∀ W, Below wr.heap.size wr W → W.cell? ⟨mb, 0, none⟩ = some (.slice A1 n c1) ∧ W.cell? ⟨mb, 1, none⟩ = some (.slice B0 K.length cB) ∧ W.cell? ⟨N + 1 + 1 + 1, 0, none⟩ = some (.slice Au K.length cu) from fun W hW => ⟨(blk_cell (blk_below HM5.out hW) 0).trans rfl, (blk_cell (blk_below HM5.out hW) 1).trans rfl, (blk_cell (blk_below HV.out.a5 hW) 0).trans rfl⟩)
      have VF := Aside0.mk (show ∀ W, Below wr.heap.size wr W → (W.cell? ⟨N, 0, none⟩ = some (.int .i64 0) ∧ W.cell? ⟨N + 1, 0, none⟩ = some (.int .i64 0) ∧ W.cell? ⟨N + 1 + 1, 0, none⟩ = some (.bool false) ∧ W.cell? ⟨N + 1 + 1 + 1 + 1, 0, none⟩ = some (.int .i64 0) ∧ W.cell? ⟨N + 1 + 1 + 1 + 1 + 1, 0, none⟩ = some (.bool false)) ∧ W.frozen? ⟨N, 0, none⟩ = false ∧ W.frozen? ⟨N + 1, 0, none⟩ = false ∧ W.frozen? ⟨N + 1 + 1, 0, none⟩ = false ∧ W.frozen? ⟨N + 1 + 1 + 1, 0, none⟩ = false ∧ W.frozen? ⟨N + 1 + 1 + 1 + 1, 0, none⟩ = false ∧ W.frozen? ⟨N + 1 + 1 + 1 + 1 + 1, 0, none⟩ = false from fun W hW => by
        have h := HV.out.below hW
        exact ⟨⟨(blk_cell h.a2 0).trans rfl, (blk_cell h.a3 0).trans rfl, (blk_cell h.a4 0).trans rfl, (blk_cell h.a6 0).trans rfl, (blk_cell h.a7 0).trans rfl⟩, blk_frozen h.a2 0, blk_frozen h.a3 0, blk_frozen h.a4 0, blk_frozen h.a5 0, blk_frozen h.a6 0, blk_frozen h.a7 0⟩)
      have hmN : N + 1 + 1 + 1 + 1 + 1 + 1 ≤ mb := Z4.out
      have m2 : ({ block := N, off := 0, spot := none } : Addr).block ≠ mb := by show N ≠ mb; omega
      have m3 : ({ block := N + 1, off := 0, spot := none } : Addr).block ≠ mb := by show N + 1 ≠ mb; omega
      have m4 : ({ block := N + 1 + 1, off := 0, spot := none } : Addr).block ≠ mb := by show N + 1 + 1 ≠ mb; omega
      have m5 : ({ block := N + 1 + 1 + 1, off := 0, spot := none } : Addr).block ≠ mb := by show N + 1 + 1 + 1 ≠ mb; omega
      have m6 : ({ block := N + 1 + 1 + 1 + 1, off := 0, spot := none } : Addr).block ≠ mb := by show N + 1 + 1 + 1 + 1 ≠ mb; omega
      have m7 : ({ block := N + 1 + 1 + 1 + 1 + 1, off := 0, spot := none } : Addr).block ≠ mb := by show N + 1 + 1 + 1 + 1 + 1 ≠ mb; omega
      have l2 : ({ block := N, off := 0, spot := none } : Addr).block ≠ N + 1 + 1 + 1 := by show N ≠ N + 1 + 1 + 1; omega
      have l3 : ({ block := N + 1, off := 0, spot := none } : Addr).block ≠ N + 1 + 1 + 1 := by show N + 1 ≠ N + 1 + 1 + 1; omega
      have l4 : ({ block := N + 1 + 1, off := 0, spot := none } : Addr).block ≠ N + 1 + 1 + 1 := by show N + 1 + 1 ≠ N + 1 + 1 + 1; omega
      have l6 : ({ block := N + 1 + 1 + 1 + 1, off := 0, spot := none } : Addr).block ≠ N + 1 + 1 + 1 := by show N + 1 + 1 + 1 + 1 ≠ N + 1 + 1 + 1; omega
      have l7 : ({ block := N + 1 + 1 + 1 + 1 + 1, off := 0, spot := none } : Addr).block ≠ N + 1 + 1 + 1 := by show N + 1 + 1 + 1 + 1 + 1 ≠ N + 1 + 1 + 1; omega
      have KF := Aside0.mk (show ∀ (W : World) (p : Addr) (v : Value), ((W).cell? ⟨mb, 0, none⟩ = some (.slice A1 n c1) ∧ (W).cell? ⟨mb, 1, none⟩ = some (.slice B0 K.length cB) ∧ (W).cell? ⟨N + 1 + 1 + 1, 0, none⟩ = some (.slice Au K.length cu)) → p.block ≠ mb → p.block ≠ N + 1 + 1 + 1 → ((W.setCell p v).cell? ⟨mb, 0, none⟩ = some (.slice A1 n c1) ∧ (W.setCell p v).cell? ⟨mb, 1, none⟩ = some (.slice B0 K.length cB) ∧ (W.setCell p v).cell? ⟨N + 1 + 1 + 1, 0, none⟩ = some (.slice Au K.length cu)) from fun W p v h h1 h2 => ⟨(World.cell?_setCell_far W p _ v h1).trans h.1, (World.cell?_setCell_far W p _ v h1).trans h.2.1, (World.cell?_setCell_far W p _ v h2).trans h.2.2⟩)
      have KE := Aside0.mk (show ∀ (W : World), ((W).cell? ⟨mb, 0, none⟩ = some (.slice A1 n c1) ∧ (W).cell? ⟨mb, 1, none⟩ = some (.slice B0 K.length cB) ∧ (W).cell? ⟨N + 1 + 1 + 1, 0, none⟩ = some (.slice Au K.length cu)) → ((W.setCell ⟨N + 1 + 1 + 1, 0, none⟩ (.slice Au K.length cu)).cell? ⟨mb, 0, none⟩ = some (.slice A1 n c1) ∧ (W.setCell ⟨N + 1 + 1 + 1, 0, none⟩ (.slice Au K.length cu)).cell? ⟨mb, 1, none⟩ = some (.slice B0 K.length cB) ∧ (W.setCell ⟨N + 1 + 1 + 1, 0, none⟩ (.slice Au K.length cu)).cell? ⟨N + 1 + 1 + 1, 0, none⟩ = some (.slice Au K.length cu)) from fun W h => ⟨(World.cell?_setCell_far W _ _ _ m5).trans h.1, (World.cell?_setCell_far W _ _ _ m5).trans h.2.1, World.cell?_setCell_same' W _ _ (by rw [h.2.2]; rfl)⟩)
      have b0 : Below wr.heap.size wr wr.drew := below_drew (Below.refl _ _)
      clear t0 t1
      go_upto_region 13 with fail
      have w1 := wi64 1 (by decide) (by decide)
      have wS := wi64 SI SI0.1 (by omega)
      go_region_held3 (fun W => W.cell? ⟨mb, 0, none⟩ = some (.slice A1 n c1) ∧ W.cell? ⟨mb, 1, none⟩ = some (.slice B0 K.length cB) ∧ W.cell? ⟨N + 1 + 1 + 1, 0, none⟩ = some (.slice Au K.length cu)) (with_reducible (first | (apply FC.out; assumption) | (refine KF.out _ _ _ ?_ ?_ ?_ <;> assumption) | (refine KE.out _ ?_ <;> assumption) | (refine KF.out _ _ _ ⟨?_, ?_, ?_⟩ ?_ ?_ <;> assumption) | (refine KE.out _ ⟨?_, ?_, ?_⟩ <;> assumption))) (first | (go_at_call 32; refine Calls.mono (R32.out _ ‹_›) ?_; rintro e w9 ⟨rfl, b⟩; have b9 : Below wr.heap.size wr w9 := Below.trans ‹_› (b.mono (Below.size ‹Below wr.heap.size wr _›)); clear b) | (go_at_call 33; refine Calls.mono (R33.out _ ‹_›) ?_; rintro e w9 ⟨rfl, b⟩; have b9 : Below wr.heap.size wr w9 := Below.trans ‹_› (b.mono (Below.size ‹Below wr.heap.size wr _›)); clear b) | (go_at_call 34; refine Calls.mono (R34.out _ ‹_›) ?_; rintro e w9 ⟨rfl, b⟩; have b9 : Below wr.heap.size wr w9 := Below.trans ‹_› (b.mono (Below.size ‹Below wr.heap.size wr _›)); clear b) | (go_at_call 35; refine Calls.mono (R35.out _ ‹_›) ?_; rintro e w9 ⟨rfl, b⟩; have b9 : Below wr.heap.size wr w9 := Below.trans ‹_› (b.mono (Below.size ‹Below wr.heap.size wr _›)); have HB9 := Aside0.mk b9; obtain ⟨⟨g2, g3, g4, g6, g7⟩, k2, k3, k4, k5, k6, k7⟩ := VF.out _ b9; clear b))
      clear w1 wS
      have FV := Aside0.mk ((HV.out.below HB9.out).fin 1 SI (n : Int) s5 true (.slice Au K.length cu))
      have FR := Aside0.mk (R_fin (Kd.R_below HRK.out HB9.out) (by omega) 1 SI (n : Int) s5 true (.slice Au K.length cu))
      have FB := Aside0.mk (below_fin (N := N) (HL.out.trans (HB9.out.mono HL.out.size)) (Nat.le_of_eq HN.out.symm) 1 SI (n : Int) s5 true (.slice Au K.length cu))
      clear g2 g3 g4 g6 g7 k2 k3 k4 k5 k6 k7
      generalize (((((w9.setCell ⟨N, 0, none⟩ (.int .i64 1)).setCell ⟨N + 1, 0, none⟩ (.int .i64 SI)).setCell ⟨N + 1 + 1, 0, none⟩ (.bool s5)).setCell ⟨N + 1 + 1 + 1, 0, none⟩ (.slice Au K.length cu)).setCell ⟨N + 1 + 1 + 1 + 1, 0, none⟩ (.int .i64 (n : Int))).setCell ⟨N + 1 + 1 + 1 + 1 + 1, 0, none⟩ (.bool true) = WF at FV FR FB ⊢
      go_wp2
      refine leaves_cons (f := 27) (args := #[.pointer (some ⟨N, 0, none⟩), .pointer (some ⟨N + 1, 0, none⟩), .pointer (some ⟨N + 1 + 1, 0, none⟩), .pointer (some ⟨N + 1 + 1 + 1, 0, none⟩), .pointer (some ⟨N + 1 + 1 + 1 + 1, 0, none⟩), .pointer (some ⟨N + 1 + 1 + 1 + 1 + 1, 0, none⟩)]) (by simp) (by simp [go_sem]) ?_
      refine (no_idle27 _ _ _ _ _ _ _).mono ?_
      rintro e u' w'' ⟨rfl, rfl, rfl⟩
      obtain ⟨e2, e3, e4, e5, e6, e7⟩ := FV.out
      simp [Leaves, settle, results, Tryd.results11, go_sem, e2, e3, e4, e5, e6, e7]
      exact ⟨_, ⟨HSI.out, rfl⟩, Kd.R_mono (by have h := FR.out; rw [HN.out] at h; exact h) (fun _ _ => trivial), FB.out⟩
/-! ## bytes.Compare, bytes.Equal -/
theorem bytesRun {w : World} {A : Option Addr} {s : ByteArray} {c : Nat} (h : (Kd.int .u8).C w A s.size (bytesOf s)) : (Extern.Bytes.bytesOf (.slice A s.size c)).run Tryd.prog w = .ok s w := by
  rcases A with _ | ad
  · have h0 : s.size = 0 := by
      rcases Nat.eq_zero_or_pos s.size with h0 | h0
      · exact h0
      · obtain ⟨ad, h', _⟩ := h.2.2 h0
        cases h'
    have hs : s = ByteArray.empty := by
      apply ByteArray.ext
      apply Array.eq_empty_of_size_eq_zero
      exact h0
    rw [hs]
    rfl
  · have hx := Lib.run_loadBytesX (P := Tryd.prog) (w := w) (bytesOf s) ad .empty (fun j x hj => by
      have hjl := (List.getElem?_eq_some_iff.1 hj).1
      rw [bytesOf_length] at hjl
      obtain ⟨ad', e, hc⟩ := Kd.at_int h (j : Int) (by omega) (by omega)
      injection e with e
      subst e
      rw [Int.toNat_natCast] at hc
      rw [hc]
      unfold rd
      rw [Int.toNat_natCast, List.getD_eq_getElem?_getD, hj]
      rfl)
    rw [bytesOf_length] at hx
    show (Extern.Bytes.loadBytes ad s.size .empty).run Tryd.prog w = _
    rw [hx]
    congr 1
    apply ByteArray.ext
    have e : Lib.bytesOf (bytesOf s) = s.data.toList := by
      unfold Lib.bytesOf bytesOf
      rw [List.map_map]
      conv => rhs; rw [← List.map_id s.data.toList]
      apply List.map_congr_left
      intro b _
      simp
    show ByteArray.empty.data ++ _ = _
    rw [e, Array.toArray_toList]
    show #[] ++ s.data = s.data
    simp
theorem compareRun {w : World} {A B : Option Addr} {s t : ByteArray} {c d : Nat} (h : (Kd.int .u8).C w A s.size (bytesOf s)) (k : (Kd.int .u8).C w B t.size (bytesOf t)) : (Extern.BytealgCompare.compare #[.slice A s.size c, .slice B t.size d]).run Tryd.prog w = .ok (.int .i64 (Lib.compareBytes s.data.toList t.data.toList)) w := by
  change Sem.run Tryd.prog (do pure (goInt (Extern.BytealgCompare.cmp (← Extern.Bytes.bytesOf (.slice A s.size c)) (← Extern.Bytes.bytesOf (.slice B t.size d))))) w = _
  simp only [Sem.run_bind, Sem.run_pure, bytesRun h, bytesRun k, Result.andThen]
  rw [Lib.cmp_eq]
  rfl
theorem compare48 {w : World} {A B : Option Addr} {s t : ByteArray} {c d : Nat} (h : (Kd.int .u8).C w A s.size (bytesOf s)) (k : (Kd.int .u8).C w B t.size (bytesOf t)) :
    Calls Tryd.prog 48 #[.slice A s.size c, .slice B t.size d] w fun e w' => e = .returned (.int .i64 (Lib.compareBytes s.data.toList t.data.toList)) ∧ w = w' := by
  have hr := compareRun (c := c) (d := d) h k
  clear h k
  go_enter Tryd.func48, Tryd.ntmps48
  go_wp2
  rw [run_callFunc_extern Tryd.func57 (by kernel_rfl) (by kernel_rfl) (by kernel_rfl) (e := Extern.BytealgCompare.compare) (by kernel_rfl), hr]
  simp only [Result.andThen]
  rw [Oper.upon_value]
  go_wp2
  go_ret
  exact ⟨rfl, rfl⟩
theorem equal49 {w : World} {A B : Option Addr} {s t : ByteArray} {c d : Nat} (h : (Kd.int .u8).C w A s.size (bytesOf s)) (k : (Kd.int .u8).C w B t.size (bytesOf t)) :
    Calls Tryd.prog 49 #[.slice A s.size c, .slice B t.size d] w fun e w' => e = .returned (.bool (decide (s = t))) ∧ w = w' := by
  have h1 := Kd.C_string (c := c) Tryd.underlying34 Tryd.underlying5 Tryd.underlying9 h
  have k1 := Kd.C_string (c := d) Tryd.underlying34 Tryd.underlying5 Tryd.underlying9 k
  rw [str_bytes0] at h1 k1
  clear h k
  go_enter Tryd.func49, Tryd.ntmps49
  go_wp2
  go_ret
  refine ⟨?_, rfl⟩
  have e : (s.toList == t.toList) = decide (s = t) := by
    rw [Bool.eq_iff_iff, beq_iff_eq, decide_eq_true_iff]
    exact bytes_inj
  rw [← e]
  rfl
/-! ## slices.BinarySearchFunc -/
def cm (a b : ByteArray) : Int := Lib.compareBytes a.data.toList b.data.toList
theorem KeysIn.at_ {w : World} {B : Option Addr} {n cB : Nat} {K : List ByteArray} (h : KeysIn w (.slice B n cB) K) (i : Nat) (hi : i < K.length) : ∃ ad A1 c1, B = some ad ∧ w.cell? (ad.add i) = some (.slice A1 K[i].size c1) ∧ (Kd.int .u8).C w A1 K[i].size (bytesOf K[i]) := by
  obtain ⟨B', cB', e, _, hC⟩ := h
  injection e with e1 e2 e3
  subst e1
  obtain ⟨ad, e, hcell⟩ := hC.2.2 (by omega)
  obtain ⟨cs, hl, ⟨A1, c1, rfl, hl1, hC1⟩, hx⟩ := hcell i (bytesOf K[i]) (by rw [List.getElem?_map, List.getElem?_eq_getElem hi]; rfl)
  have hx0 := hx 0 _ rfl
  rw [show (Kd.slice 5 (Kd.int .u8)).sz = 1 from rfl, Nat.mul_one, Nat.add_zero] at hx0
  rw [bytesOf_length] at hx0 hC1
  exact ⟨ad, A1, c1, e, hx0, hC1⟩
def BinPost (K : List ByteArray) (key : ByteArray) (w : World) (e : Ending) (w' : World) : Prop := ∃ (p : Nat) (f : Bool), e = .returned (.tuple #[.int .i64 (p : Int), .bool f]) ∧ p ≤ K.length ∧ (∀ t (h : t < K.length), t < p → cm K[t] key < 0) ∧ (∀ t (h : t < K.length), p ≤ t → 0 ≤ cm K[t] key) ∧ (f = true ↔ ∃ h : p < K.length, cm K[p] key = 0) ∧ w = w'
set_option maxHeartbeats 8000000 in
set_option maxRecDepth 100000 in
theorem bin47 (B : Option Addr) (cB : Nat) (K : List ByteArray) (hf : K.length ≤ 49) (At : Option Addr) (ct : Nat) (key : ByteArray) (w : World) (hK : KeysIn w (.slice B K.length cB) K) (hT : (Kd.int .u8).C w At key.size (bytesOf key))
    (hmono : ∀ (a b : Nat) (hb : b < K.length) (hab : a ≤ b), cm K[b] key < 0 → cm (K[a]'(by omega)) key < 0) :
    Calls Tryd.prog 47 #[.slice B K.length cB, .slice At key.size ct, .func (.func 48) #[] #[]] w fun e w' => BinPost K key w e w' := by
  have nI : (K.length : Int) ≤ 49 := by omega
  have HK := Aside0.mk hK
  have HT := Aside0.mk hT
  have HMO := Aside0.mk hmono
  clear hK hT hmono hf
  go_enter Tryd.func47, Tryd.ntmps47
  go_wp2
  go_loopg [9, 10] K.length (fun kq v9 v10 w' => ∃ (lo hi : Nat), v9 = .int .i64 (lo : Int) ∧ v10 = .int .i64 (hi : Int) ∧ Aside0 (w = w') ∧ Aside0 (lo ≤ hi ∧ hi ≤ K.length ∧ hi - lo ≤ kq) ∧ Aside0 (∀ t (h : t < K.length), t < lo → cm K[t] key < 0) ∧ Aside0 (∀ t (h : t < K.length), hi ≤ t → 0 ≤ cm K[t] key))
  case atStart => exact ⟨0, K.length, rfl, rfl, ⟨rfl⟩, ⟨by omega⟩, ⟨fun t h ht => absurd ht (by omega)⟩, ⟨fun t h ht => absurd h (by omega)⟩⟩
  case round =>
    obtain ⟨lo, hi, rfl, rfl, ⟨rfl⟩, HJ, HLO, HHI⟩ := hrel
    have hlh : lo ≤ hi ∧ hi ≤ K.length := ⟨HJ.out.1, HJ.out.2.1⟩
    by_cases hlt : lo < hi
    · have hltI : (lo : Int) < (hi : Int) := by omega
      obtain ⟨m, hm⟩ : ∃ m : Nat, m = (lo + hi) / 2 := ⟨_, rfl⟩
      have hmI : ((lo : Int) + (hi : Int)) / 2 = (m : Int) := by omega
      have hm2 : lo ≤ m ∧ m < hi := by omega
      have hmK : m < K.length := by omega
      obtain ⟨ad, A1, c1, rfl, hx, hC⟩ := HK.out.at_ m hmK
      have HC := Aside0.mk (compare48 (c := c1) (d := ct) hC HT.out)
      have hmn : (m : Int) < (K.length : Int) := by omega
      obtain ⟨x, hxe⟩ : ∃ x : Int, x = cm K[m] key := ⟨_, rfl⟩
      have HC := Aside0.mk (show Calls Tryd.prog 48 #[.slice A1 K[m].size c1, .slice At key.size ct] w fun e w' => e = .returned (.int .i64 x) ∧ w = w' from by rw [hxe]; exact HC.out)
      have HXE := Aside0.mk hxe
      clear hC hxe hm
      by_cases hx0 : x < 0
      · go_wp2_with (go_at_call 48; refine Calls.mono HC.out ?_; rintro e w9 ⟨rfl, rfl⟩)
        go_roundg (gk - 1)
        case measure => have := HJ.out; omega
        case rel => exact ⟨m + 1, hi, by go_num, rfl, ⟨rfl⟩, ⟨by have := HJ.out; omega⟩, ⟨fun t h ht => HMO.out t m hmK (by omega) (by rw [← HXE.out]; exact hx0)⟩, HHI⟩
      · go_wp2_with (go_at_call 48; refine Calls.mono HC.out ?_; rintro e w9 ⟨rfl, rfl⟩)
        go_roundg (gk - 1)
        case measure => have := HJ.out; omega
        case rel => exact ⟨lo, m, rfl, by go_num, ⟨rfl⟩, ⟨by have := HJ.out; omega⟩, HLO, ⟨fun t h ht => Int.not_lt.1 fun hlt => by have h1 := HMO.out m t h ht hlt; rw [← HXE.out] at h1; omega⟩⟩
    · obtain rfl : lo = hi := by omega
      have hltI : ¬ (lo : Int) < (lo : Int) := by omega
      by_cases hlK : lo < K.length
      · have hlKI : (lo : Int) < (K.length : Int) := by omega
        obtain ⟨ad, A1, c1, rfl, hx, hC⟩ := HK.out.at_ lo hlK
        have HC := Aside0.mk (compare48 (c := c1) (d := ct) hC HT.out)
        obtain ⟨x, hxe⟩ : ∃ x : Int, x = cm K[lo] key := ⟨_, rfl⟩
        have HC := Aside0.mk (show Calls Tryd.prog 48 #[.slice A1 K[lo].size c1, .slice At key.size ct] w fun e w' => e = .returned (.int .i64 x) ∧ w = w' from by rw [hxe]; exact HC.out)
        clear hC
        go_wp2_with (go_at_call 48; refine Calls.mono HC.out ?_; rintro e w9 ⟨rfl, rfl⟩)
        go_ret2
        refine ⟨lo, cm K[lo] key == 0, rfl, HJ.out.2.1, HLO.out, HHI.out, ?_, rfl⟩
        rw [beq_iff_eq]
        exact ⟨fun h => ⟨hlK, h⟩, fun ⟨_, h⟩ => h⟩
      · have hlKI : ¬ (lo : Int) < (K.length : Int) := by omega
        go_wp2
        go_ret2
        exact ⟨lo, false, rfl, HJ.out.2.1, HLO.out, HHI.out, ⟨fun h => (Bool.noConfusion h), fun ⟨h, _⟩ => absurd h hlK⟩, rfl⟩

end Go.Proofs.YtobhegbhljbjhaaDoor.Vk
