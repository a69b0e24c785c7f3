/- impl.LevelsWritten: what it writes. -/
import Derived.Test.YtmlfgolmdeignaaRk
import Derived.Test.YtmlfgolmdeignaaRj
namespace Go.Proofs.Ytmlfgolmdeignaa.Pk
open Go.RowKit Go.IntWalk Go.Proofs.YtmlfgolmdeignaaW.PrintWords Go.Proofs.YtmlfgolmdeignaaW.PrintLast Go.Proofs.YtmlfgolmdeignaaW.PrintMore
attribute [local go_sem] max2_int min2_int max_two min_two max_three min_three max_four min_four
set_option linter.unusedVariables false
set_option linter.unusedSimpArgs false
theorem kept_heap {w0 w W : World} {S : Nat → Prop} {N : Nat} (h : Below N w0 w) (k : Kept w W S) (hS : ∀ k, S k → N ≤ k) (hN : N ≤ w.heap.size) : Below N w0 { w0 with heap := W.heap } :=
  ⟨rfl, rfl, rfl, Nat.le_trans h.size k.1, fun i hi => (k.2 i (by omega) (fun h => by have := hS i h; omega)).trans (h.block i hi)⟩
set_option maxHeartbeats 64000000 in
set_option maxRecDepth 100000 in
theorem levelsWritten (A : Option Addr) (c : Nat) (ps : List (List Nat)) (g wd : Nat) (w : World)
    (hit : ∀ W, Below w.heap.size w W → ∀ j (h : j < ps.length), ∃ ad A1 c1, A = some ad ∧ W.cell? (ad.add j) = some (.slice A1 ps[j].length c1) ∧ ∀ W', Below w.heap.size w W' → ∀ i (hi : i < ps[j].length), ∃ ad1, A1 = some ad1 ∧ W'.cell? (ad1.add i) = some (.int .i16 (ps[j][i] : Nat)))
    (hg : g ≤ 16384) (hw : Lib.bitLen g = wd) (hwd0 : 1 ≤ wd) (hwd : wd ≤ 15) (hv : ∀ l ∈ ps, ∀ v ∈ l, v < 2 ^ wd) (hn : ps.flatten.length ≤ 3000) (hpl : ps.length ≤ 3000) :
    Calls Try.prog 17 #[.bool true, .int .i64 g, .slice A ps.length c] w fun e w' => ∃ v : Value, e = .returned (.tuple #[v, .bool true]) ∧ Kd.R (Kd.int .u8) 5 w' w.heap.size (fun _ => True) v (lvWritten wd ps) ∧ Below w.heap.size w w' := by
  have HIT := Aside0.mk hit
  have HV := Aside0.mk hv
  obtain ⟨L, hL⟩ : ∃ L, L = ps.flatten.length := ⟨_, rfl⟩
  rw [← hL] at hn
  obtain ⟨n, hcap⟩ : ∃ n, n = capR wd L := ⟨_, rfl⟩
  have hn4 : n ≤ 40000 := by rw [hcap]; exact capR_le wd _ (by omega) hn
  have hmk := mkN2 n hn4
  have H43 := Aside0.mk (fun W => maxLv g wd L hg hw (by omega) hn W)
  rw [← hcap] at H43
  have H44 := Aside0.mk levelsCode
  have HCAP := Aside0.mk hcap
  have H44s := Aside0.mk (fun W => Calls.mono (levelsCode W) (fun e w' h => (⟨h.1, h.2.symm⟩ : e = .returned (.int .i64 3) ∧ w' = W)))
  have HW := Aside0.mk hw
  have HLL := Aside0.mk hL
  obtain ⟨N, hN⟩ : ∃ N, N = w.heap.size := ⟨_, rfl⟩
  have hlI : (L : Int) ≤ 3000 := by omega
  have hgI : (g : Int) ≤ 16384 := by omega
  have hpI : (ps.length : Int) ≤ 3000 := by omega
  have HN := Aside0.mk hN
  have HB0 := Aside0.mk (show Below N w ((w.alloc (Obj.cells #[.slice none 0 0] 23)).alloc (Obj.cells #[.bool false] 4)) by rw [hN]; exact below_alloc (below_alloc (Below.refl _ _) _) _)
  clear hit hv hcap hw hL
  go_enter_defers Try.func17, Try.ntmps17
  go_wp2
  obtain ⟨W1, hW1⟩ : ∃ W1, W1 = (w.alloc (Obj.cells #[.slice none 0 0] 23)).alloc (Obj.cells #[.bool false] 4) := ⟨_, rfl⟩
  simp only [World.size_alloc, ← hN]
  rw [← hW1] at HB0
  rw [← hW1]
  have Q0 := Aside0.mk (show W1.heap[N]? = some (.cells #[.slice none 0 0] 23 (0, 0)) by rw [hW1, hN]; exact blk_alloc (blk_new w _) _)
  have Q1 := Aside0.mk (show W1.heap[N + 1]? = some (.cells #[.bool false] 4 (0, 0)) by rw [hW1]; exact blk_at (by simp [hN]))
  have QS := Aside0.mk (show W1.heap.size = N + 1 + 1 by rw [hW1]; simp [hN])
  clear hW1 hN
  go_loopg [8, 18] ps.length (fun kq v8 v18 w' => ∃ i : Nat, v18 = .int .i64 i ∧ v8 = .int .i64 ((ps.take i).flatten.length : Nat) ∧ Aside0 (kq + i = ps.length) ∧ w' = W1)
  case atStart => exact ⟨0, rfl, rfl, ⟨by omega⟩, rfl⟩
  case round =>
    obtain ⟨i, rfl, rfl, HJ, rfl⟩ := hrel
    have hi0 : i ≤ ps.length := by have := HJ.out; omega
    obtain ⟨x, hx⟩ : ∃ x, x = (ps.take i).flatten.length := ⟨_, rfl⟩
    have hxL : x ≤ L := by rw [hx, HLL.out]; exact flat_take_le ps i
    rw [← hx]
    by_cases hi : i < ps.length
    · have hiI : (i : Int) < (ps.length : Int) := by omega
      obtain ⟨ad, A1, c1, hA, hcell, -⟩ := HIT.out wr (by have := HB0.out; rw [HN.out] at this; exact this) i hi
      subst hA
      obtain ⟨y, hy⟩ : ∃ y, y = ps[i].length := ⟨_, rfl⟩
      rw [← hy] at hcell
      have hxy : (ps.take (i + 1)).flatten.length = x + y := by rw [flat_take hi, ← hx, ← hy]
      have hxy2 : x + y ≤ L := by rw [← hxy, HLL.out]; exact flat_take_le ps (i + 1)
      have HXY := Aside0.mk hxy
      clear hx hy hxy
      go_wp2
      go_roundg (gk - 1)
      case measure => have := HJ.out; omega
      case rel => exact ⟨i + 1, by go_num, by rw [HXY.out]; go_num, ⟨by have := HJ.out; omega⟩, rfl⟩
    · have hiI : ¬ (i : Int) < (ps.length : Int) := by omega
      have hxL2 : x = L := by rw [hx, HLL.out, List.take_of_length_le (by omega)]
      clear hx hxL
      subst hxL2
      have hmk2 := hmk wr
      obtain ⟨W2, hW2⟩ : ∃ W2, W2 = wr.alloc (.cells (rowB (List.replicate n 0)) 5 (0, 0)) := ⟨_, rfl⟩
      rw [← hW2, QS.out] at hmk2
      have q0 := show W2.heap[N]? = some (.cells #[.slice none 0 0] 23 (0, 0)) by rw [hW2]; exact blk_alloc Q0.out _
      have q1 := show W2.heap[N + 1]? = some (.cells #[.bool false] 4 (0, 0)) by rw [hW2]; exact blk_alloc Q1.out _
      have q2 := show W2.heap[N + 1 + 1]? = some (.cells (rowB (List.replicate n 0)) 5 (0, 0)) by rw [hW2]; exact blk_at QS.out.symm
      have qs : W2.heap.size = N + 1 + 1 + 1 := by rw [hW2]; simp [QS.out]
      have qb : Below N w W2 := by rw [hW2]; exact HB0.out.trans ((below_alloc (Below.refl wr.heap.size wr) _).mono (by rw [QS.out]; omega))
      clear hmk hW2
      have a0 : W2.cell? ⟨N, 0, none⟩ = some (.slice none 0 0) := (cell_of_row' q0 0).trans rfl
      have f0 := blk_frozen' q0 0
      have X0 := Aside0.mk q0
      have X1 := Aside0.mk q1
      have X2 := Aside0.mk q2
      have XB := Aside0.mk qb
      have XS := Aside0.mk qs
      clear q0 q1 q2 qb qs
      go_upto_region 10 with (first | (go_at_call 44; refine Calls.mono (H44.out _) ?_; rintro e w1 ⟨rfl, rfl⟩) | (go_at_call 43; refine Calls.mono (H43.out _) ?_; rintro e w1 ⟨rfl, rfl⟩))
      obtain ⟨W3, hW3⟩ : ∃ W3, W3 = (W2.setCell ⟨N, 0, none⟩ (.slice (some ⟨N + 1 + 1, 0, none⟩) n n)).alloc (.cells #[.int .i64 0, .int .i64 0, .int .i64 0, .pointer none, .pointer none] 86 (0, 0)) := ⟨_, rfl⟩
      rw [← hW3, XS.out]
      have Y0 := Aside0.mk (show W3.heap[N]? = some (.cells #[.slice (some ⟨N + 1 + 1, 0, none⟩) n n] 23 (0, 0)) by rw [hW3]; exact blk_alloc (blk_put (cs := #[.slice none 0 0]) X0.out 0 _ rfl) _)
      have Y1 := Aside0.mk (show W3.heap[N + 1]? = some (.cells #[.bool false] 4 (0, 0)) by rw [hW3]; exact blk_alloc (blk_far (p := ⟨N, 0, none⟩) X1.out (show N + 1 ≠ N by omega) _) _)
      have Y2 := Aside0.mk (show W3.heap[N + 1 + 1]? = some (.cells (rowB (List.replicate n 0)) 5 (0, 0)) by rw [hW3]; exact blk_alloc (blk_far (p := ⟨N, 0, none⟩) X2.out (show N + 1 + 1 ≠ N by omega) _) _)
      have Y3 := Aside0.mk (show W3.heap[N + 1 + 1 + 1]? = some (.cells #[.int .i64 0, .int .i64 0, .int .i64 0, .pointer none, .pointer none] 86 (0, 0)) by rw [hW3]; exact blk_at (by simp [XS.out]))
      have YS := Aside0.mk (show W3.heap.size = N + 1 + 1 + 1 + 1 by rw [hW3]; simp [XS.out])
      have YB := Aside0.mk (show Below N w W3 by rw [hW3]; exact (XB.out.setCell (p := ⟨N, 0, none⟩) (Nat.le_refl N) _).trans ((below_alloc (Below.refl _ _) _).mono (by simp [XS.out]; omega)))
      clear hW3 a0 f0 X0 X1 X2 XB XS hmk2
      have y0 : W3.cell? ⟨N, 0, none⟩ = some (.slice (some ⟨N + 1 + 1, 0, none⟩) n n) := (cell_of_row' Y0.out 0).trans rfl
      have H45 := Aside0.mk (show Calls Try.prog 45 #[.pointer (some ⟨N + 1 + 1 + 1, 0, none⟩), .int .i64 3, .int .i16 g, .iface 92 (.pointer (some ⟨N + 1 + 1 + 1 + 1, 0, none⟩))] ((W3.alloc (.cells #[.slice (some ⟨N + 1 + 1, 0, none⟩) n n] 94 (0, 0))).drew) (fun e wx => e = .returned (.tuple #[]) ∧ (∃ re bb bw : Nat, N + 1 + 1 + 1 + 1 + 1 ≤ re ∧ N + 1 + 1 + 1 + 1 + 1 ≤ bb ∧ N + 1 + 1 + 1 + 1 + 1 ≤ bw ∧ re ≠ bb ∧ re ≠ bw ∧ bb ≠ bw ∧ Aside0 (ES re bb bw (N + 1 + 1 + 1 + 1) (N + 1 + 1) n wd s0 wx) ∧ Aside0 (LE (N + 1 + 1 + 1) re wd 0 wx) ∧ Aside0 (Below N w wx) ∧ Aside0 (wx.heap[N]? = some (.cells #[.slice (some ⟨N + 1 + 1, 0, none⟩) n n] 23 (0, 0))) ∧ Aside0 (wx.heap[N + 1]? = some (.cells #[.bool false] 4 (0, 0))))) by
        have s3 : ((W3.alloc (.cells #[.slice (some ⟨N + 1 + 1, 0, none⟩) n n] 94 (0, 0))).drew).heap.size = N + 1 + 1 + 1 + 1 + 1 := by
          show (W3.alloc _).heap.size = _
          rw [World.size_alloc, YS.out]
        refine Calls.mono (lvInit (N + 1 + 1 + 1) (N + 1 + 1 + 1 + 1) g wd hg HW.out ((W3.alloc (.cells #[.slice (some ⟨N + 1 + 1, 0, none⟩) n n] 94 (0, 0))).drew) (show (W3.alloc _).heap[_]? = _ from blk_alloc Y3.out _)) ?_
        rintro e w1 ⟨rfl, re, bb, bw, g1, g2, g3, g4, g5, g6, r1, r2, r3, r4, r5, r6⟩
        rw [s3] at g1 g2 g3
        have t0 := blk_kept (show ((W3.alloc (.cells #[.slice (some ⟨N + 1 + 1, 0, none⟩) n n] 94 (0, 0))).drew).heap[N]? = _ from blk_alloc Y0.out _) r5 (by omega)
        have t1 := blk_kept (show ((W3.alloc (.cells #[.slice (some ⟨N + 1 + 1, 0, none⟩) n n] 94 (0, 0))).drew).heap[N + 1]? = _ from blk_alloc Y1.out _) r5 (by omega)
        have t2 := blk_kept (show ((W3.alloc (.cells #[.slice (some ⟨N + 1 + 1, 0, none⟩) n n] 94 (0, 0))).drew).heap[N + 1 + 1]? = _ from blk_alloc Y2.out _) r5 (by omega)
        have t3 : w1.heap[N + 1 + 1 + 1 + 1]? = some (.cells #[.slice (some ⟨N + 1 + 1, 0, none⟩) n n] 94 (0, 0)) := blk_kept (show ((W3.alloc (.cells #[.slice (some ⟨N + 1 + 1, 0, none⟩) n n] 94 (0, 0))).drew).heap[N + 1 + 1 + 1 + 1]? = _ from blk_at YS.out.symm) r5 (by omega)
        refine ⟨rfl, re, bb, bw, g1, g2, g3, g4, g5, g6, ⟨⟨⟨0, r3⟩, ⟨[.int .u64 0, .int .u64 0, .int .u64 0, .int .u64 0, .int .u64 0, .int .u64 0, .int .u64 0, .int .u64 0], rfl, r2⟩, ⟨List.replicate n 0, 0, 0, 0, ⟨⟨_, _, by simp, by simp, r1⟩, t3, t2, by simp⟩, ⟨Bytes.zeros n, Nat.zero_le _, by rw [num_zeros]; exact Nat.one_pos, by decide, Nat.one_pos, by rw [num_zeros]; rfl, rfl⟩, Nat.le_refl 0⟩, fun x hx => by simp [LS, encs, litP, s0] at hx⟩⟩, ⟨r4⟩, ⟨?_⟩, ⟨t0⟩, ⟨t1⟩⟩
        exact ((YB.out.alloc (show N ≤ W3.heap.size by rw [YS.out]; omega) _).drew).trans (r6.mono (by omega)))
      obtain ⟨CUT, hCUT⟩ : ∃ C : World → Prop, C = (fun wx => ∃ re bb bw : Nat, N + 1 + 1 + 1 + 1 + 1 ≤ re ∧ N + 1 + 1 + 1 + 1 + 1 ≤ bb ∧ N + 1 + 1 + 1 + 1 + 1 ≤ bw ∧ re ≠ bb ∧ re ≠ bw ∧ bb ≠ bw ∧ Aside0 (ES re bb bw (N + 1 + 1 + 1 + 1) (N + 1 + 1) n wd s0 wx) ∧ Aside0 (LE (N + 1 + 1 + 1) re wd 0 wx) ∧ Aside0 (Below N w wx) ∧ Aside0 (wx.heap[N]? = some (.cells #[.slice (some ⟨N + 1 + 1, 0, none⟩) n n] 23 (0, 0))) ∧ Aside0 (wx.heap[N + 1]? = some (.cells #[.bool false] 4 (0, 0)))) := ⟨_, rfl⟩
      have H45' : Aside0 (Calls Try.prog 45 #[.pointer (some ⟨N + 1 + 1 + 1, 0, none⟩), .int .i64 3, .int .i16 g, .iface 92 (.pointer (some ⟨N + 1 + 1 + 1 + 1, 0, none⟩))] ((W3.alloc (.cells #[.slice (some ⟨N + 1 + 1, 0, none⟩) n n] 94 (0, 0))).drew) (fun e wx => e = .returned (.tuple #[]) ∧ CUT wx)) := by rw [hCUT]; exact H45
      have HCUT := Aside0.mk hCUT
      clear H45 hCUT
      go_cut [] from 34 to 40 (fun wx => CUT wx)
      case first =>
        have y1 : ((W3.alloc (.cells #[.slice (some ⟨N + 1 + 1, 0, none⟩) n n] 94 (0, 0))).drew).cell? ⟨N, 0, none⟩ = some (.slice (some ⟨N + 1 + 1, 0, none⟩) n n) := (cell_of_row' (show ((W3.alloc _).drew).heap[N]? = _ from blk_alloc Y0.out _) 0).trans rfl
        have ys : W3.heap.size = N + 1 + 1 + 1 + 1 := YS.out
        have y0' : W3.drew.cell? ⟨N, 0, none⟩ = some (.slice (some ⟨N + 1 + 1, 0, none⟩) n n) := y0
        have hw16 : IntKind.i16.wrap (g : Int) = g := by simp only [IntKind.wrap, IntKind.bits, IntKind.signed]; simp; omega
        have HC2 := Aside0.mk (show ∀ wx, CUT wx → wx.cell? ⟨N, 0, none⟩ = some (.slice (some ⟨N + 1 + 1, 0, none⟩) n n) from fun wx h => by
          rw [HCUT.out] at h
          obtain ⟨re, bb, bw, -, -, -, -, -, -, -, -, -, h1, -⟩ := h
          exact (cell_of_row' h1.out 0).trans rfl)
        have H21 := Aside0.mk (show Calls Try.prog 21 #[.slice (some ⟨N + 1 + 1, 0, none⟩) n n] W3.drew (fun e w' => e = .returned (.iface 92 (.pointer (some ⟨N + 1 + 1 + 1 + 1, 0, none⟩))) ∧ w' = W3.drew.alloc (.cells #[.slice (some ⟨N + 1 + 1, 0, none⟩) n n] 94 (0, 0))) from by
          have := newBuf (some ⟨N + 1 + 1, 0, none⟩) n n W3.drew
          rw [show W3.drew.heap.size = N + 1 + 1 + 1 + 1 from YS.out] at this
          exact this)
        clear HIT HV HCAP HB0 HN Q0 Q1 QS Y0 Y1 Y2 Y3 YB YS HLL HW H44s H43 HCUT
        go_region_held3 (fun w' => w'.cell? ⟨N, 0, none⟩ = some (.slice (some ⟨N + 1 + 1, 0, none⟩) n n)) (first | exact y0' | exact y1 | exact y2) (first | (go_at_call 44; refine Calls.mono (H44.out _) ?_; rintro e w1 ⟨rfl, rfl⟩) | (go_at_call 21; refine Calls.mono H21.out ?_; rintro e w1 ⟨rfl, rfl⟩) | (go_at_call 45; refine Calls.mono H45'.out ?_; rintro e w1 ⟨rfl, hc⟩; have y2 : w1.cell? ⟨N, 0, none⟩ = some (.slice (some ⟨N + 1 + 1, 0, none⟩) n n) := HC2.out w1 hc))
        go_wp2
        go_meet
        exact hc
      case rest =>
        rw [HCUT.out] at hcut
        obtain ⟨re, bb, bw, g1, g2, g3, g4, g5, g6, ES0, LE0, LB, T0, T1⟩ := hcut
        have C : PE re bb bw (N + 1 + 1 + 1 + 1) (N + 1 + 1) n N := ⟨⟨by omega, by omega, by omega, by omega, by omega, by omega, by omega⟩, by omega, by omega, by omega, by omega, by omega, by omega, by omega, by omega, by omega⟩
        obtain ⟨sF, hsF⟩ : ∃ sF, sF = lvF s0 ps := ⟨_, rfl⟩
        obtain ⟨w1i, w2i, w3i, w4i⟩ := lv_ok hwd0 HV.out (by rw [← HLL.out]; exact hn) hsF
        rw [← HLL.out, ← HCAP.out] at w3i
        have HBY := Aside0.mk w4i
        have HSI := Aside0.mk w1i
        have HVL := Aside0.mk w2i
        have HLE := Aside0.mk w3i
        have HSF := Aside0.mk hsF
        have hcg := capR_ge wd x hwd0
        rw [← HCAP.out] at hcg
        have HCG := Aside0.mk (show (1 + wd) * x ≤ 8 * n by
          have h5 : (1 + wd) * x ≤ (1 + wd) * (8 * ((x + 7) / 8)) := Nat.mul_le_mul_left _ (by omega)
          rw [Nat.mul_left_comm] at h5
          omega)
        clear w1i w2i w3i w4i hsF hcg
        go_wp2
        go_loopg [43] ps.length (fun kq v43 w' => ∃ i : Nat, v43 = .int .i64 i ∧ Aside0 (kq + i = ps.length) ∧ Aside0 (ES re bb bw (N + 1 + 1 + 1 + 1) (N + 1 + 1) n wd (lvF s0 (ps.take i)) w') ∧ Aside0 (LE (N + 1 + 1 + 1) re wd 0 w') ∧ Aside0 (Below N w w') ∧ Aside0 (w'.heap[N]? = some (.cells #[.slice (some ⟨N + 1 + 1, 0, none⟩) n n] 23 (0, 0))) ∧ Aside0 (w'.heap[N + 1]? = some (.cells #[.bool false] 4 (0, 0))))
        case atStart => exact ⟨0, rfl, ⟨by omega⟩, ES0, LE0, LB, T0, T1⟩
        case round =>
          clear ES0 LE0 LB T0 T1
          obtain ⟨i, rfl, HJ, HES, HLV, HB, T0, T1⟩ := hrel
          have hi0 : i ≤ ps.length := by have := HJ.out; omega
          by_cases hi : i < ps.length
          · have hiI : (i : Int) < (ps.length : Int) := by omega
            obtain ⟨ad, A1, c1, hA, hcell, hrow⟩ := HIT.out wr (by have := HB.out; rw [HN.out] at this; exact this) i hi
            subst hA
            have HSN := Aside0.mk (lvF_take (s := s0) hi)
            obtain ⟨l, hl⟩ : ∃ l, l = ps[i] := ⟨_, rfl⟩
            have hfl : (ps.take i).flatten.length + l.length ≤ x := by rw [hl, ← flat_take hi, HLL.out]; exact flat_take_le ps (i + 1)
            have hvl := HV.out l (by rw [hl]; exact List.getElem_mem hi)
            have hok := lvF_ok hwd0 (ps.take i) (s0_ok wd) (fun y hy => HV.out y (List.mem_of_mem_take hy)) (by rw [s0_val, List.length_nil]; omega)
            rw [s0_val, List.nil_append] at hok
            have hsz : N ≤ wr.heap.size := by have := blk_lt T0.out; omega
            have HBT := Aside0.mk (lvBatch C (N + 1 + 1 + 1) 0 (lvF s0 (ps.take i)) HES.out HLV.out hok.1 hwd0 (by omega) A1 c1 l (fun W hW j hj => by
              obtain ⟨ad1, e1, e2⟩ := hrow { w with heap := W.heap } (by
                rw [← HN.out]
                exact kept_heap HB.out hW (fun k hk => by unfold SE at hk; omega) hsz) j (by rw [← hl]; exact hj)
              refine ⟨ad1, e1, ?_⟩
              have e3 : W.cell? (ad1.add j) = _ := e2
              rw [e3]
              simp only [hl]) hvl (fun v hv => Nat.lt_of_lt_of_le (hvl v hv) (Nat.le_trans (Nat.pow_le_pow_right (show 0 < 2 by decide) hwd) (by decide))) (by rw [hok.2]; omega) (by rw [hok.2]; exact Nat.le_trans (Nat.mul_le_mul_left _ hfl) HCG.out))
            rw [← hl] at hcell HSN
            rw [← HSN.out] at HBT
            have hll : (l.length : Int) ≤ 3000 := by omega
            clear hl hfl hvl hok hsz HSN hrow
            go_wp2_with (go_at_call 46; refine Calls.mono HBT.out ?_; rintro e1 w5 ⟨rfl, T1', T2', T3'⟩; have U1 := Aside0.mk T1'; have U2 := Aside0.mk T2'; have U3 := Aside0.mk T3'; clear T1' T2' T3')
            go_roundg (gk - 1)
            case measure => have := HJ.out; omega
            case rel => exact ⟨i + 1, by go_num, ⟨by have := HJ.out; omega⟩, U1, ⟨blk_kept HLV.out U3.out (by unfold SE; omega)⟩, ⟨HB.out.trans U2.out⟩, ⟨blk_kept T0.out U3.out (by unfold SE; omega)⟩, ⟨blk_kept T1.out U3.out (by unfold SE; omega)⟩⟩
          · have hiI : ¬ (i : Int) < (ps.length : Int) := by omega
            have HES2 := Aside0.mk (show ES re bb bw (N + 1 + 1 + 1 + 1) (N + 1 + 1) n wd sF wr by
              have h1 := HES.out
              rw [List.take_of_length_le (by omega), ← HSF.out] at h1
              exact h1)
            have c0 : wr.cell? ⟨N, 0, none⟩ = some (.slice (some ⟨N + 1 + 1, 0, none⟩) n n) := (cell_of_row' T0.out 0).trans rfl
            have c1 : wr.cell? ⟨N + 1, 0, none⟩ = some (.bool false) := (cell_of_row' T1.out 0).trans rfl
            have f0 := blk_frozen' T0.out 0
            have f1 := blk_frozen' T1.out 0
            obtain ⟨k, hk⟩ : ∃ k, k = (encs wd (finS sF)).length := ⟨_, rfl⟩
            have hkn : k ≤ n := by rw [hk]; exact HLE.out
            have HFL := Aside0.mk (lvFlush C (N + 1 + 1 + 1) (by omega) 0 sF HES2.out HLV.out HSI.out hwd0 (by omega) (by rw [HVL.out, ← HLL.out]; exact hn) HLE.out)
            rw [← hk] at HFL
            have HKK := Aside0.mk hk
            clear hk
            go_wp2_with (go_at_call 47; refine Calls.mono HFL.out ?_; rintro e w6 ⟨rfl, P1, P2, P3, P4⟩; have X0 := blk_kept T0.out P4 (by unfold SE; omega); have X1 := blk_kept T1.out P4 (by unfold SE; omega); have z0 : w6.cell? ⟨N, 0, none⟩ = some (.slice (some ⟨N + 1 + 1, 0, none⟩) n n) := (cell_of_row' X0 0).trans rfl; have z1 : w6.cell? ⟨N + 1, 0, none⟩ = some (.bool false) := (cell_of_row' X1 0).trans rfl; have v0 := blk_frozen' X0 0; have v1 := blk_frozen' X1 0; have P1' := Aside0.mk P1; have P2' := Aside0.mk P2; have P3' := Aside0.mk (HB.out.trans P3); have X0' := Aside0.mk X0; have X1' := Aside0.mk X1; clear P1 P2 P3 P4 X0 X1)
            have HLN := Aside0.mk (fun q => Calls.mono (lvLen (N + 1 + 1 + 1) re wd k (w6.drewN q) P2'.out) (fun e w' h => (⟨h.1, h.2.symm⟩ : e = .returned (.int .i64 k) ∧ w' = w6.drewN q)))
            go_still_tail 3, (by kernel_rfl)
            still_call (HLN.out 1)
            have hknI : (k : Int) ≤ (n : Int) := by omega
            have hknN : (k : Int).toNat ≤ n := by omega
            still_step
            refine wpStill_nil ?_
            change wpList _ _ _ _ _ w6.drew
            go_wp2
            refine leaves_cons (f := 33) (args := #[.pointer (some ⟨N, 0, none⟩), .pointer (some ⟨N + 1, 0, none⟩)]) (by simp) (by simp [go_sem]) ?_
            refine (no_idle33 ⟨N, 0, none⟩ ⟨N + 1, 0, none⟩ _).mono ?_
            rintro e u' w'' ⟨rfl, rfl, rfl⟩
            obtain ⟨D, o, t, B, hwr, hby, hnum, -⟩ := P1'.out
            have j0 := blk_put (cs := #[.slice (some ⟨N + 1 + 1, 0, none⟩) n n]) X0'.out 0 (.slice (some ⟨N + 1 + 1, 0, none⟩) k n) rfl
            have k0 := blk_far (p := ⟨N + 1, 0, none⟩) (blk_put (cs := #[.slice (some ⟨N + 1 + 1, 0, none⟩) k n]) j0 0 (.slice (some ⟨N + 1 + 1, 0, none⟩) k n) rfl) (show N ≠ N + 1 by omega) (.bool true)
            have k1 := blk_put (cs := #[.bool false]) (blk_far (p := ⟨N, 0, none⟩) (blk_far (p := ⟨N, 0, none⟩) X1'.out (show N + 1 ≠ N by omega) (.slice (some ⟨N + 1 + 1, 0, none⟩) k n)) (show N + 1 ≠ N by omega) (.slice (some ⟨N + 1 + 1, 0, none⟩) k n)) 0 (.bool true) rfl
            have k2 := blk_far (p := ⟨N + 1, 0, none⟩) (blk_far (p := ⟨N, 0, none⟩) (blk_far (p := ⟨N, 0, none⟩) hwr.R (show N + 1 + 1 ≠ N by omega) (.slice (some ⟨N + 1 + 1, 0, none⟩) k n)) (show N + 1 + 1 ≠ N by omega) (.slice (some ⟨N + 1 + 1, 0, none⟩) k n)) (show N + 1 + 1 ≠ N + 1 by omega) (.bool true)
            have e0 := (cell_of_row' k0 0).trans rfl
            have e1 := (cell_of_row' k1 0).trans rfl
            have hD := is_over hby HBY.out (by rw [hwr.len]; exact HLE.out) hnum
            have HR := Aside0.mk (Kd.R_take (m := k) (rowB_R k2 (base := N) (by omega) hwr.len (by omega)) (by rw [hwr.len]; exact hkn))
            have HT := Aside0.mk (show D.take k = lvWritten wd ps by rw [hD, lvWritten, ← HSF.out, HKK.out, List.take_left' rfl])
            have HBL := Aside0.mk (Below.setCell (p := ⟨N + 1, 0, none⟩) (Below.setCell (p := ⟨N, 0, none⟩) (Below.setCell (p := ⟨N, 0, none⟩) P3'.out (Nat.le_refl N) (.slice (some ⟨N + 1 + 1, 0, none⟩) k n)) (Nat.le_refl N) (.slice (some ⟨N + 1 + 1, 0, none⟩) k n)) (show N ≤ N + 1 by omega) (.bool true))
            clear j0 k0 k1 k2
            simp [Leaves, settle, results, Try.results17, go_sem, e0, e1]
            rw [← HN.out, ← HT.out]
            exact ⟨HR.out, Below.drew HBL.out⟩

end Go.Proofs.Ytmlfgolmdeignaa.Pk
