/- impl.RleWritten: what it writes. -/
import Derived.Test.YtmlfgolmdeignaaRh
import Derived.Test.YtmlfgolmdeignaaRf
import Derived.Test.YtmlfgolmdeignaaRg
namespace Go.Proofs.Ytmlfgolmdeignaa.Pk
open Go.RowKit Go.IntWalk Go.Proofs.YtmlfgolmdeignaaW.PrintWords Go.Proofs.YtmlfgolmdeignaaW.PrintLast Go.Proofs.YtmlfgolmdeignaaW.PrintMore
attribute [local go_sem] max2_int min2_int max_two min_two max_three min_three max_four min_four
set_option linter.unusedVariables false
set_option linter.unusedSimpArgs false
theorem mkN2 (n : Nat) (hn : n ≤ 40000) (W : World) : (Instr.makeSlice 23 (.int .i64 n) (.int .i64 n)).run Try.prog W = .ok (.slice (some ⟨W.heap.size, 0, none⟩) n n) (W.alloc (.cells (rowB (List.replicate n 0)) 5 (0, 0))) := by
  have h := tinfo5
  cases hi : Try.prog.info? 5 with
  | none => rw [hi] at h; cases h
  | some i =>
    rw [hi] at h
    simp only [Option.map_some, Option.some.injEq, Prod.mk.injEq] at h
    obtain ⟨hz, hs, hb⟩ := h
    have := run_makeSlice (P := Try.prog) W 23 5 i (.int .u8 0) Try.underlying23 hi hz .i64 .i64 n n (by omega) (by omega) (by rw [hs]; omega) (by rw [hb]; omega) (by omega)
    rw [this, hs, Int.toNat_natCast]
    have e : madeCells (Value.int .u8 0).cells (n * 1) = rowB (List.replicate n 0) := by
      rw [Nat.mul_one]
      refine Array.ext (by simp [size_madeCells, rowB]) fun i h1 h2 => ?_
      simp [madeCells, rowB, Value.cells, Nat.mod_one]
    rw [e]
theorem no_idle33 (p q : Addr) (w : World) :
    CallsD Try.prog 33 #[.pointer (some p), .pointer (some q)] .returning w fun e u' w' => e = .returned (.tuple #[]) ∧ u' = .returning ∧ w' = w := by
  refine callsD_of_wpS Try.func33 rfl fun c₀ cs hu => ?_
  apply wpS_seq
  apply wpS_region
  simp [wpOpsS, go_sem, recoverD, hu, Try.ntmps33, Exit.thenS]
  refine wpS_cond (t := false) (by simp [Act.eval, Array.replicate]) ?_
  simp only [Bool.false_eq_true, if_false]
  refine wpS_of_wp (wp_skip ?_)
  cases c₀
  simp_all [bodyPostS, results, Try.results33]
theorem encs_bytes (wd : Nat) : ∀ rs : List Run, (∀ r ∈ rs, RunOk wd r) → Bytes (encs wd rs)
  | [], _ => fun x hx => by simp [encs] at hx
  | r :: rest, h => by
    have e : encs wd (r :: rest) = encR wd r ++ encs wd rest := by simp [encs]
    rw [e]
    refine Bytes.append ?_ (encs_bytes wd rest (fun x hx => h x (List.mem_cons_of_mem _ hx)))
    cases r with
    | rep c v => exact repB_bytes wd c v
    | lit vs =>
      have h1 := h (.lit vs) List.mem_cons_self
      intro x hx
      rcases List.mem_cons.1 hx with rfl | hx
      · have := h1.2.2.1
        omega
      · exact pkB_bytes wd vs x hx
theorem info76 : (Try.prog.info? 76).map (fun i => (i.zero, i.size, i.bytes)) = some (some (.int .i16 0), 1, 2) := by kernel_rfl
theorem ES.kept {re bb bw wb d N wd : Nat} {s : St} {w w' : World} {S : Nat → Prop} (h : ES re bb bw wb d N wd s w) (k : Kept w w' S) (h1 : ¬ S re) (h2 : ¬ S bb) (h3 : ¬ S bw) (h4 : ¬ S wb) (h5 : ¬ S d) : ES re bb bw wb d N wd s w' := by
  obtain ⟨⟨ib, e1⟩, e2, e3, e4⟩ := h
  exact ⟨⟨ib, e1.kept k h1⟩, e2.kept k h2, e3.kept k h3 h4 h5, e4⟩
def s0 : St := ⟨[], [], [], 0, 0⟩
theorem s0_ok (wd : Nat) : SI wd s0 := ⟨rfl, by decide, fun v hv => by simp [s0] at hv, fun v hv => by simp [s0] at hv, Nat.two_pow_pos wd, fun h => by simp [s0] at h, fun _ => ⟨by decide, [], rfl⟩, fun r hr => by simp [s0] at hr, by simp [s0, encs, valss]⟩
theorem s0_val : valS s0 = [] := rfl
/-- What is written of a list. -/
def writtenL (wd : Nat) (lv : Bool) (l : List Nat) : List Int := encs wd (finS (if lv = true then batchF l.length s0 l else putAll s0 l))
theorem written_ok {wd : Nat} {lv : Bool} {l : List Nat} (hw : 1 ≤ wd) (hv : ∀ v ∈ l, v < 2 ^ wd) (hn : l.length ≤ 3000) {sF : St} (hs : sF = (if lv = true then batchF l.length s0 l else putAll s0 l)) :
    SI wd sF ∧ valS sF = l ∧ (encs wd (finS sF)).length ≤ capR wd l.length ∧ Bytes (encs wd (finS sF)) := by
  have h : SI wd sF ∧ valS sF = l := by
    rw [hs]
    cases lv with
    | true =>
      rw [if_pos rfl]
      exact batchF_ok hw l.length (s := s0) (l := l) (Nat.le_refl _) (s0_ok wd) hv (by rw [s0_val]; simpa using hn)
    | false =>
      rw [if_neg (by decide)]
      exact putAll_ok hw (s := s0) (l := l) (s0_ok wd) hv (by rw [s0_val]; simpa using hn)
  refine ⟨h.1, h.2, ?_, encs_bytes wd _ (finS_ok h.1 (by rw [h.2]; exact hn)).1⟩
  obtain ⟨-, -, h3⟩ := finS_ok h.1 (by rw [h.2]; exact hn)
  have h4 := capR_ge wd l.length hw
  rw [h.2] at h3
  have h5 : (1 + wd) * l.length ≤ (1 + wd) * (8 * ((l.length + 7) / 8)) := Nat.mul_le_mul_left _ (by omega)
  rw [Nat.mul_left_comm] at h5
  omega
set_option maxHeartbeats 64000000 in
set_option maxRecDepth 100000 in
theorem rleWritten (A : Option Addr) (c : Nat) (l : List Nat) (wd : Nat) (lv : Bool) (w : World) (hit : ∀ W, Below w.heap.size w W → ∀ j (h : j < l.length), ∃ ad, A = some ad ∧ W.cell? (ad.add j) = some (.int .u64 (l[j] : Nat)))
    (hwd0 : 1 ≤ wd) (hwd : wd ≤ 64) (hv : ∀ v ∈ l, v < 2 ^ wd) (hlv : lv = true → wd ≤ 15) (hn : l.length ≤ 3000) :
    Calls Try.prog 11 #[.slice A l.length c, .int .i64 wd, .bool lv] w fun e w' => ∃ v : Value, e = .returned (.tuple #[v, .bool true]) ∧ Kd.R (Kd.int .u8) 5 w' w.heap.size (fun _ => True) v (writtenL wd lv l) ∧ Below w.heap.size w w' := by
  have HIT := Aside0.mk hit
  have HV := Aside0.mk hv
  obtain ⟨n, hcap⟩ : ∃ n, n = capR wd l.length := ⟨_, rfl⟩
  have hn4 : n ≤ 40000 := by rw [hcap]; exact capR_le wd _ hwd hn
  have hmk := mkN2 n hn4
  have H34 := Aside0.mk (fun W => maxRle wd l.length hwd hn W)
  have H35 := Aside0.mk (fun W => minRle wd hwd W)
  obtain ⟨M1, hM1⟩ : ∃ M1, M1 = max ((l.length + 7) / 8 + (l.length + 7) / 8 * wd) ((l.length + 7) / 8 * (1 + (wd + 7) / 8)) := ⟨_, rfl⟩
  obtain ⟨M2, hM2⟩ : ∃ M2, M2 = max (1 + 64 * wd) (5 + (wd + 7) / 8) := ⟨_, rfl⟩
  have hsum : (M1 : Int) + (M2 : Int) = (n : Int) := by rw [hcap, capR, ← hM1, ← hM2]; omega
  have hM1b : M1 ≤ 40000 := by omega
  have hM2b : M2 ≤ 40000 := by omega
  rw [← hM1] at H34
  rw [← hM2] at H35
  have HCAP := Aside0.mk hcap
  obtain ⟨N, hN⟩ : ∃ N, N = w.heap.size := ⟨_, rfl⟩
  have hlI : (l.length : Int) ≤ 3000 := by omega
  clear hit hv hcap hM1 hM2
  go_enter_defers Try.func11, Try.ntmps11
  go_wp2_with (first | (go_at_call 34; refine Calls.mono (H34.out _) ?_; rintro e w1 ⟨rfl, rfl⟩) | (go_at_call 35; refine Calls.mono (H35.out _) ?_; rintro e w1 ⟨rfl, rfl⟩) | (go_at_call 21; refine Calls.mono (newBuf _ _ _ _) ?_; rintro e w1 ⟨rfl, h1⟩; rw [h1]; clear h1))
  simp only [World.size_alloc, ← hN]
  obtain ⟨W0, hW0⟩ : ∃ W0, W0 = (((w.alloc (Obj.cells #[Value.slice (some { block := N + 1 + 1, off := 0 }) n n] 23)).alloc (Obj.cells #[Value.bool false] 4)).alloc (Obj.cells (rowB (List.replicate n 0)) 5)).alloc (Obj.cells #[Value.slice (some { block := N + 1 + 1, off := 0 }) n n] 94) := ⟨_, rfl⟩
  rw [← hW0]
  have q0 : W0.heap[N]? = some (.cells #[.slice (some ⟨N + 1 + 1, 0, none⟩) n n] 23 (0, 0)) := by
    rw [hW0, hN]
    exact blk_alloc (blk_alloc (blk_alloc (blk_new w _) _) _) _
  have q1 : W0.heap[N + 1]? = some (.cells #[.bool false] 4 (0, 0)) := by
    rw [hW0]
    exact blk_alloc (blk_alloc (blk_at (by simp [hN])) _) _
  have q2 : W0.heap[N + 1 + 1]? = some (.cells (rowB (List.replicate n 0)) 5 (0, 0)) := by
    rw [hW0]
    exact blk_alloc (blk_at (by simp [hN])) _
  have q3 : W0.heap[N + 1 + 1 + 1]? = some (.cells #[.slice (some ⟨N + 1 + 1, 0, none⟩) n n] 94 (0, 0)) := by
    rw [hW0]
    exact blk_at (by simp [hN])
  have q4 : W0.heap.size = N + 1 + 1 + 1 + 1 := by rw [hW0]; simp [hN]
  have L0 : Below N w W0 := by
    rw [hW0, hN]
    exact below_alloc (below_alloc (below_alloc (below_alloc (Below.refl _ _) _) _) _) _
  have HN := Aside0.mk hN
  clear hW0 hmk H34 H35 hsum hN
  refine Calls.mono (newEnc _ _ _) ?_
  rintro e w1 ⟨re, bb, bw, rfl, g1, g2, g3, g4, g5, g6, r1, r2, r3, r4⟩
  rw [q4] at g1 g2 g3 r4
  have C : PE re bb bw (N + 1 + 1 + 1) (N + 1 + 1) n N := ⟨⟨by omega, by omega, by omega, by omega, by omega, by omega, by omega⟩, by omega, by omega, by omega, by omega, by omega, by omega, by omega, by omega, by omega⟩
  have t0 := blk_below q0 (by rw [q4]; exact r4)
  have t1 := blk_below q1 (by rw [q4]; exact r4)
  have t2 := blk_below q2 (by rw [q4]; exact r4)
  have t3 := blk_below q3 (by rw [q4]; exact r4)
  have ES0 := Aside0.mk (show ES re bb bw (N + 1 + 1 + 1) (N + 1 + 1) n wd s0 w1 from ⟨⟨0, r3⟩, ⟨[.int .u64 0, .int .u64 0, .int .u64 0, .int .u64 0, .int .u64 0, .int .u64 0, .int .u64 0, .int .u64 0], rfl, r2⟩, ⟨List.replicate n 0, 0, 0, 0, ⟨⟨_, _, by simp, by simp, r1⟩, t3, t2, by simp⟩, ⟨Bytes.zeros n, Nat.zero_le _, by rw [num_zeros]; exact Nat.one_pos, by decide, Nat.one_pos, by rw [num_zeros]; rfl, rfl⟩, Nat.le_refl 0⟩, fun x hx => by simp [LS, encs, litP, s0] at hx⟩)
  have LB := Aside0.mk (show Below N w w1 from L0.trans (r4.mono (by omega)))
  have T0 := Aside0.mk t0
  have T1 := Aside0.mk t1
  clear q0 q1 q2 q3 q4 L0 r1 r2 r3 r4 t0 t1 t2 t3
  obtain ⟨sF, hsF⟩ : ∃ sF, sF = (if lv = true then batchF l.length s0 l else putAll s0 l) := ⟨_, rfl⟩
  obtain ⟨w1i, w2i, w3i, w4i⟩ := written_ok hwd0 HV.out hn hsF
  have HBY := Aside0.mk w4i
  clear w4i
  rw [← HCAP.out] at w3i
  have HSI := Aside0.mk w1i
  have HVL := Aside0.mk w2i
  have HLE := Aside0.mk w3i
  have HWL := Aside0.mk (show writtenL wd lv l = encs wd (finS sF) by rw [hsF]; rfl)
  have HSF := Aside0.mk hsF
  have hcg := capR_ge wd l.length hwd0
  rw [← HCAP.out] at hcg
  have HCG := Aside0.mk (show (1 + wd) * l.length ≤ 8 * n by
    have h5 : (1 + wd) * l.length ≤ (1 + wd) * (8 * ((l.length + 7) / 8)) := Nat.mul_le_mul_left _ (by omega)
    rw [Nat.mul_left_comm] at h5
    omega)
  clear w1i w2i w3i hsF hcg
  cases lv with
  | false =>
    go_wp2
    go_loopg [61] l.length (fun kq v61 w' => ∃ i : Nat, v61 = .int .i64 i ∧ Aside0 (kq + i = l.length) ∧ Aside0 (ES re bb bw (N + 1 + 1 + 1) (N + 1 + 1) n wd (putAll s0 (l.take i)) w') ∧ Aside0 (Below N w w') ∧ Aside0 (w'.heap[N]? = some (.cells #[.slice (some ⟨N + 1 + 1, 0, none⟩) n n] 23 (0, 0))) ∧ Aside0 (w'.heap[N + 1]? = some (.cells #[.bool false] 4 (0, 0))))
    case atStart => exact ⟨0, rfl, ⟨by omega⟩, ES0, LB, T0, T1⟩
    case round =>
      clear ES0 LB T0 T1
      obtain ⟨i, rfl, HJ, HES, HB, T0, T1⟩ := hrel
      have hi0 : i ≤ l.length := by have := HJ.out; omega
      by_cases hi : i < l.length
      · have hiI : (i : Int) < (l.length : Int) := by omega
        obtain ⟨ad, hA, hcell⟩ := HIT.out wr (by have := HB.out; rw [HN.out] at this; exact this) i hi
        subst hA
        obtain ⟨z, hz⟩ : ∃ z, z = l[i] := ⟨_, rfl⟩
        rw [← hz] at hcell
        have hzw : z < 2 ^ wd := by rw [hz]; exact HV.out _ (List.getElem_mem hi)
        have htl : (l.take i).length = i := by rw [List.length_take]; omega
        have hpa := putAll_ok hwd0 (l := l.take i) (s0_ok wd) (fun x hx => HV.out x (List.mem_of_mem_take hx)) (by rw [s0_val, htl]; simp; omega)
        have hvl : (valS (putAll s0 (l.take i))).length = i := by rw [hpa.2, s0_val, List.nil_append, htl]
        have HPUT := Aside0.mk (rlePut C (putAll s0 (l.take i)) HES.out hpa.1 hwd0 hwd z hzw (by rw [hvl]; omega) (by rw [hvl]; exact Nat.le_trans (Nat.mul_le_mul_left _ (by omega)) HCG.out))
        have HSN := Aside0.mk (show putAll s0 (l.take (i + 1)) = putS z (putAll s0 (l.take i)) by rw [List.take_succ_eq_append_getElem hi, ← hz]; simp [putAll])
        clear hz hzw htl hpa hvl
        go_wp2_with (go_at_call 39; refine Calls.mono HPUT.out ?_; rintro e1 w5 ⟨rfl, T1', T2', T3'⟩; have U1 := Aside0.mk T1'; have U2 := Aside0.mk T2'; have U3 := Aside0.mk T3'; clear T1' T2' T3')
        go_roundg (gk - 1)
        case measure => have := HJ.out; omega
        case rel => exact ⟨i + 1, by go_num, ⟨by have := HJ.out; omega⟩, ⟨by rw [HSN.out]; exact U1.out⟩, ⟨HB.out.trans U2.out⟩, ⟨blk_kept T0.out U3.out (by unfold SE; omega)⟩, ⟨blk_kept T1.out U3.out (by unfold SE; omega)⟩⟩
      · have hiI : ¬ (i : Int) < (l.length : Int) := by omega
        have HES2 := Aside0.mk (show ES re bb bw (N + 1 + 1 + 1) (N + 1 + 1) n wd sF wr by
          have h1 := HES.out
          rw [List.take_of_length_le (by omega)] at h1
          have h2 := HSF.out
          rw [if_neg (by decide)] at h2
          rw [h2]
          exact h1)
        have c0 : wr.cell? ⟨N, 0, none⟩ = some (.slice (some ⟨N + 1 + 1, 0, none⟩) n n) := (cell_of_row' T0.out 0).trans rfl
        have c1 : wr.cell? ⟨N + 1, 0, none⟩ = some (.bool false) := (cell_of_row' T1.out 0).trans rfl
        have f0 := blk_frozen' T0.out 0
        have f1 := blk_frozen' T1.out 0
        obtain ⟨k, hk⟩ : ∃ k, k = (encs wd (finS sF)).length := ⟨_, rfl⟩
        have hkn : k ≤ n := by rw [hk]; exact HLE.out
        have HFL := Aside0.mk (show ∀ q, Calls Try.prog 38 #[.pointer (some ⟨re, 0, none⟩)] (wr.drewN q) fun e w' => e = .returned (.int .i64 k) ∧ WF bw (N + 1 + 1 + 1) (N + 1 + 1) n (num (encs wd (finS sF))) (8 * (encs wd (finS sF)).length) w' ∧ Below N (wr.drewN q) w' ∧ Kept (wr.drewN q) w' (SE re bb bw (N + 1 + 1)) from fun q => by
          rw [hk]
          exact rleFlush C sF (HES2.out.below (pw_below_drewN (Below.refl _ _) q)) HSI.out hwd0 hwd (by rw [HVL.out]; exact hn) HLE.out)
        have HKK := Aside0.mk hk
        clear hk
        go_wp2
        refine wp_region_noPanic ?_
        go_region_with (go_at_call 38; (first | refine Calls.mono (HFL.out 0) ?_ | refine Calls.mono (HFL.out _) ?_); rintro e w6 ⟨rfl, P1, P2, P3⟩; have X0 := blk_kept (show (wr.drewN _).heap[N]? = _ from T0.out) P3 (by unfold SE; omega); have X1 := blk_kept (show (wr.drewN _).heap[N + 1]? = _ from T1.out) P3 (by unfold SE; omega); have z0 : w6.cell? ⟨N, 0, none⟩ = some (.slice (some ⟨N + 1 + 1, 0, none⟩) n n) := (cell_of_row' X0 0).trans rfl; have z1 : w6.cell? ⟨N + 1, 0, none⟩ = some (.bool false) := (cell_of_row' X1 0).trans rfl; have v0 := blk_frozen' X0 0; have v1 := blk_frozen' X1 0; have P1' := Aside0.mk P1; have P2' := Aside0.mk (show Below N w w6 from HB.out.trans ((show Below N wr (wr.drewN _) from pw_below_drewN (Below.refl _ _) _).trans P2)); have X0' := Aside0.mk X0; have X1' := Aside0.mk X1; clear P1 P2 P3 X0 X1)
        all_goals
          refine NoPanic.normal ?_
          go_wp2
          refine leaves_cons (f := 33) (args := #[.pointer (some ⟨N, 0, none⟩), .pointer (some ⟨N + 1, 0, none⟩)]) (by simp) (by simp [go_sem]) ?_
          refine (no_idle33 ⟨N, 0, none⟩ ⟨N + 1, 0, none⟩ _).mono ?_
          rintro e u' w'' ⟨rfl, rfl, rfl⟩
          obtain ⟨D, o, t, B, hwr, hby, hnum, -⟩ := P1'.out
          have k0 := blk_far (p := ⟨N + 1, 0, none⟩) (blk_put (cs := #[.slice (some ⟨N + 1 + 1, 0, none⟩) n n]) X0'.out 0 (.slice (some ⟨N + 1 + 1, 0, none⟩) k n) rfl) (show N ≠ N + 1 by omega) (.bool true)
          have k1 := blk_put (cs := #[.bool false]) (blk_far (p := ⟨N, 0, none⟩) X1'.out (show N + 1 ≠ N by omega) (.slice (some ⟨N + 1 + 1, 0, none⟩) k n)) 0 (.bool true) rfl
          have k2 := blk_far (p := ⟨N + 1, 0, none⟩) (blk_far (p := ⟨N, 0, none⟩) hwr.R (show N + 1 + 1 ≠ N by omega) (.slice (some ⟨N + 1 + 1, 0, none⟩) k n)) (show N + 1 + 1 ≠ N + 1 by omega) (.bool true)
          have e0 := (cell_of_row' k0 0).trans rfl
          have e1 := (cell_of_row' k1 0).trans rfl
          have hD := is_over hby HBY.out (by rw [hwr.len]; exact HLE.out) hnum
          have HR := Aside0.mk (Kd.R_take (m := k) (rowB_R k2 (base := N) (by omega) hwr.len (by omega)) (by rw [hwr.len]; exact hkn))
          have HT := Aside0.mk (show D.take k = writtenL wd _ l by rw [hD, HWL.out, HKK.out, List.take_left'  rfl])
          have HBL := Aside0.mk (Below.setCell (p := ⟨N + 1, 0, none⟩) (Below.setCell (p := ⟨N, 0, none⟩) P2'.out (Nat.le_refl N) (.slice (some ⟨N + 1 + 1, 0, none⟩) k n)) (show N ≤ N + 1 by omega) (.bool true))
          clear k0 k1 k2
          simp [Leaves, settle, results, Try.results11, go_sem, e0, e1]
          rw [← HN.out, ← HT.out]
          exact ⟨HR.out, HBL.out⟩
  | true =>
    have hw15 : wd ≤ 15 := hlv rfl
    obtain ⟨P, hP⟩ : ∃ P : Nat → Prop, P = fun k => k ≠ re ∧ k ≠ bb ∧ k ≠ bw ∧ k ≠ N + 1 + 1 + 1 ∧ k ≠ N + 1 + 1 ∧ k ≠ N ∧ k ≠ N + 1 := ⟨_, rfl⟩
    have HP := Aside0.mk hP
    clear hP
    go_wp2
    go_loopg [9, 31] l.length (fun kq v9 v31 w' => ∃ i : Nat, v31 = .int .i64 i ∧ Aside0 (kq + i = l.length) ∧ Aside0 (Kd.R (Kd.int .i16) 76 w' N P v9 ((l.take i).map (fun x : Nat => (x : Int)))) ∧ Aside0 (ES re bb bw (N + 1 + 1 + 1) (N + 1 + 1) n wd s0 w') ∧ Aside0 (Below N w w') ∧ Aside0 (w'.heap[N]? = some (.cells #[.slice (some ⟨N + 1 + 1, 0, none⟩) n n] 23 (0, 0))) ∧ Aside0 (w'.heap[N + 1]? = some (.cells #[.bool false] 4 (0, 0))))
    case atStart => exact ⟨0, rfl, ⟨by omega⟩, ⟨Kd.R_nil _ _ _ _ _⟩, ES0, LB, T0, T1⟩
    case round =>
      clear ES0 LB T0 T1
      obtain ⟨i, rfl, HJ, HR9, HES, HB, T0, T1⟩ := hrel
      have hi0 : i ≤ l.length := by have := HJ.out; omega
      obtain ⟨A9, c9, e9⟩ := Kd.R_slice HR9.out
      rw [List.length_map, List.length_take, Nat.min_eq_left hi0] at e9
      subst e9
      by_cases hi : i < l.length
      · have hiI : (i : Int) < (l.length : Int) := by omega
        obtain ⟨ad, hA, hcell⟩ := HIT.out wr (by have := HB.out; rw [HN.out] at this; exact this) i hi
        subst hA
        obtain ⟨z, hz⟩ : ∃ z, z = l[i] := ⟨_, rfl⟩
        rw [← hz] at hcell
        have hzw : z < 32768 := by rw [hz]; exact Nat.lt_of_lt_of_le (HV.out _ (List.getElem_mem hi)) (Nat.le_trans (Nat.pow_le_pow_right (show 0 < 2 by decide) hw15) (by decide))
        have hzI : (z : Int) < 32768 := by omega
        have HSN := Aside0.mk (show (l.take (i + 1)).map (fun x : Nat => (x : Int)) = (l.take i).map (fun x : Nat => (x : Int)) ++ [(z : Int)] by rw [List.take_succ_eq_append_getElem hi, ← hz, List.map_append]; rfl)
        have htl : ((l.take i).map (fun x : Nat => (x : Int))).length = i := by rw [List.length_map, List.length_take]; omega
        have hbz : N + 1 + 1 + 1 + 1 ≤ wr.heap.size ∧ re < wr.heap.size ∧ bb < wr.heap.size ∧ bw < wr.heap.size := by
          obtain ⟨⟨ib, hE⟩, ⟨T, -, hF⟩, ⟨D, o, t, B, ⟨⟨R, U, -, -, hW⟩, hWV, hRw, -⟩, -, -⟩, -⟩ := HES.out
          have := blk_lt hE
          have := blk_lt hF
          have := blk_lt hW
          omega
        clear hz
        go_wp2_with ((with_reducible refine gate_builtin (b := .append) (xs := #[.tmp 35, .tmp 38]) rfl ?_); go_loud (at_builtin; refine Kd.R_append (Kd.int .i16) (w0 := w) N rfl (.tmp 35) (.tmp 38) 75 76 (.int .i16 0) 2 rfl Try.underlying75 info76 rfl (by decide) (by omega) (.slice A9 i c9) ((l.take i).map (fun x : Nat => (x : Int))) (z : Int) [.int .i16 z] P (fun _ => False) rfl rfl ?aP (fun _ hk => hk.elim) ?aF ?aO ?aB ?aS ?aL ?_; (case aP => exact rfl); (case aB => exact HB.out); (case aF => exact (fun k_ hk_ => by rw [HP.out]; omega)); (case aO => exact HR9.out); (case aS => omega); (case aL => rw [htl]; omega); intro v1 w1 ho hb hg hat; rw [← HSN.out] at ho; have HK9 := Kept.of_grown hg (Kept.refl wr (fun k => some k = (Value.slice A9 i c9).ownBlock)) (fun k hk => .inl hk.symm); have HNE : ∀ k, ¬ P k → ¬ (some k = (Value.slice A9 i c9).ownBlock) := (fun k hk he => hk (HR9.out.1 k he.symm)); have HO1 := Aside0.mk ho; have HB1 := Aside0.mk hb; have HES1 := Aside0.mk (ES.kept HES.out HK9 (HNE _ (by rw [HP.out]; omega)) (HNE _ (by rw [HP.out]; omega)) (HNE _ (by rw [HP.out]; omega)) (HNE _ (by rw [HP.out]; omega)) (HNE _ (by rw [HP.out]; omega))); have T0' := Aside0.mk (blk_kept T0.out HK9 (HNE _ (by rw [HP.out]; omega))); have T1' := Aside0.mk (blk_kept T1.out HK9 (HNE _ (by rw [HP.out]; omega))); clear ho hb hg hat HK9 HNE))
        go_roundg (gk - 1)
        case measure => have := HJ.out; omega
        case rel => exact ⟨i + 1, by go_num, ⟨by have := HJ.out; omega⟩, HO1, HES1, HB1, T0', T1'⟩
      · have hiI : ¬ (i : Int) < (l.length : Int) := by omega
        have hil : i = l.length := by omega
        subst hil
        have HSH := Aside0.mk (show Kd.R (Kd.int .i16) 76 wr N P (.slice A9 l.length c9) (l.map (fun x : Nat => (x : Int))) by have := HR9.out; rw [List.take_length] at this; exact this)
        have HBT := Aside0.mk (rleBatch C s0 HES.out (s0_ok wd) hwd0 hwd A9 c9 l (fun W hW j hj => by
          have h1 := Kd.C_kept_own (S := SE re bb bw (N + 1 + 1)) HSH.out (fun k hk => by rw [HP.out] at hk; unfold SE; omega) W hW
          obtain ⟨ad2, cs, e1, e2, e3, e4⟩ := Kd.C_get h1 0 (j : Int) (Int.natCast_nonneg _) (by omega)
          rw [Int.toNat_natCast] at e3 e4
          refine ⟨ad2, e1, ?_⟩
          have e5 : cs = [.int .i16 (l[j] : Nat)] := by
            have h5 : (l.map (fun x : Nat => (x : Int))).getD j 0 = ((l[j] : Nat) : Int) := by
              rw [List.getD_eq_getElem?_getD, List.getElem?_map, List.getElem?_eq_getElem hj]
              rfl
            rw [h5] at e3
            exact e3
          have := e4 0 (.int .i16 (l[j] : Nat)) (by rw [e5]; rfl)
          rw [Nat.add_zero] at this
          have h1s : (Kd.int .i16).sz = 1 := rfl
          rw [h1s, Nat.mul_one] at this
          exact this) HV.out (fun v hv => Nat.lt_of_lt_of_le (HV.out v hv) (Nat.le_trans (Nat.pow_le_pow_right (show 0 < 2 by decide) hw15) (by decide))) (by rw [s0_val]; simpa using hn) (by rw [s0_val, List.length_nil, Nat.zero_add]; exact HCG.out))
        have hsf : batchF l.length s0 l = sF := by
          have h2 := HSF.out
          rw [if_pos trivial] at h2
          exact h2.symm
        rw [hsf] at HBT
        clear hsf
        obtain ⟨wq, rfl⟩ : ∃ wq : World, wq = wr := ⟨_, rfl⟩
        go_wp2_with (go_at_call 37; refine Calls.mono HBT.out ?_; rintro e1 wr ⟨rfl, U1', U2', U3'⟩; have HES2 := Aside0.mk U1'; have U2 := Aside0.mk U2'; have U3 := Aside0.mk U3'; clear U1' U2' U3')
        have T0 := Aside0.mk (blk_kept T0.out U3.out (by unfold SE; omega))
        have T1 := Aside0.mk (blk_kept T1.out U3.out (by unfold SE; omega))
        have HB := Aside0.mk (HB.out.trans U2.out)
        have c0 : wr.cell? ⟨N, 0, none⟩ = some (.slice (some ⟨N + 1 + 1, 0, none⟩) n n) := (cell_of_row' T0.out 0).trans rfl
        have c1 : wr.cell? ⟨N + 1, 0, none⟩ = some (.bool false) := (cell_of_row' T1.out 0).trans rfl
        have f0 := blk_frozen' T0.out 0
        have f1 := blk_frozen' T1.out 0
        obtain ⟨k, hk⟩ : ∃ k, k = (encs wd (finS sF)).length := ⟨_, rfl⟩
        have hkn : k ≤ n := by rw [hk]; exact HLE.out
        have HFL := Aside0.mk (show ∀ q, Calls Try.prog 38 #[.pointer (some ⟨re, 0, none⟩)] (wr.drewN q) fun e w' => e = .returned (.int .i64 k) ∧ WF bw (N + 1 + 1 + 1) (N + 1 + 1) n (num (encs wd (finS sF))) (8 * (encs wd (finS sF)).length) w' ∧ Below N (wr.drewN q) w' ∧ Kept (wr.drewN q) w' (SE re bb bw (N + 1 + 1)) from fun q => by
          rw [hk]
          exact rleFlush C sF (HES2.out.below (pw_below_drewN (Below.refl _ _) q)) HSI.out hwd0 hwd (by rw [HVL.out]; exact hn) HLE.out)
        have HKK := Aside0.mk hk
        clear hk
        go_wp2
        refine wp_region_noPanic ?_
        go_region_with (go_at_call 38; (first | refine Calls.mono (HFL.out 0) ?_ | refine Calls.mono (HFL.out _) ?_); rintro e w6 ⟨rfl, P1, P2, P3⟩; have X0 := blk_kept (show (wr.drewN _).heap[N]? = _ from T0.out) P3 (by unfold SE; omega); have X1 := blk_kept (show (wr.drewN _).heap[N + 1]? = _ from T1.out) P3 (by unfold SE; omega); have z0 : w6.cell? ⟨N, 0, none⟩ = some (.slice (some ⟨N + 1 + 1, 0, none⟩) n n) := (cell_of_row' X0 0).trans rfl; have z1 : w6.cell? ⟨N + 1, 0, none⟩ = some (.bool false) := (cell_of_row' X1 0).trans rfl; have v0 := blk_frozen' X0 0; have v1 := blk_frozen' X1 0; have P1' := Aside0.mk P1; have P2' := Aside0.mk (show Below N w w6 from HB.out.trans ((show Below N wr (wr.drewN _) from pw_below_drewN (Below.refl _ _) _).trans P2)); have X0' := Aside0.mk X0; have X1' := Aside0.mk X1; clear P1 P2 P3 X0 X1)
        all_goals
          refine NoPanic.normal ?_
          go_wp2
          refine leaves_cons (f := 33) (args := #[.pointer (some ⟨N, 0, none⟩), .pointer (some ⟨N + 1, 0, none⟩)]) (by simp) (by simp [go_sem]) ?_
          refine (no_idle33 ⟨N, 0, none⟩ ⟨N + 1, 0, none⟩ _).mono ?_
          rintro e u' w'' ⟨rfl, rfl, rfl⟩
          obtain ⟨D, o, t, B, hwr, hby, hnum, -⟩ := P1'.out
          have k0 := blk_far (p := ⟨N + 1, 0, none⟩) (blk_put (cs := #[.slice (some ⟨N + 1 + 1, 0, none⟩) n n]) X0'.out 0 (.slice (some ⟨N + 1 + 1, 0, none⟩) k n) rfl) (show N ≠ N + 1 by omega) (.bool true)
          have k1 := blk_put (cs := #[.bool false]) (blk_far (p := ⟨N, 0, none⟩) X1'.out (show N + 1 ≠ N by omega) (.slice (some ⟨N + 1 + 1, 0, none⟩) k n)) 0 (.bool true) rfl
          have k2 := blk_far (p := ⟨N + 1, 0, none⟩) (blk_far (p := ⟨N, 0, none⟩) hwr.R (show N + 1 + 1 ≠ N by omega) (.slice (some ⟨N + 1 + 1, 0, none⟩) k n)) (show N + 1 + 1 ≠ N + 1 by omega) (.bool true)
          have e0 := (cell_of_row' k0 0).trans rfl
          have e1 := (cell_of_row' k1 0).trans rfl
          have hD := is_over hby HBY.out (by rw [hwr.len]; exact HLE.out) hnum
          have HR := Aside0.mk (Kd.R_take (m := k) (rowB_R k2 (base := N) (by omega) hwr.len (by omega)) (by rw [hwr.len]; exact hkn))
          have HT := Aside0.mk (show D.take k = writtenL wd _ l by rw [hD, HWL.out, HKK.out, List.take_left'  rfl])
          have HBL := Aside0.mk (Below.setCell (p := ⟨N + 1, 0, none⟩) (Below.setCell (p := ⟨N, 0, none⟩) P2'.out (Nat.le_refl N) (.slice (some ⟨N + 1 + 1, 0, none⟩) k n)) (show N ≤ N + 1 by omega) (.bool true))
          clear k0 k1 k2
          simp [Leaves, settle, results, Try.results11, go_sem, e0, e1]
          rw [← HN.out, ← HT.out]
          exact ⟨HR.out, HBL.out⟩

end Go.Proofs.Ytmlfgolmdeignaa.Pk
