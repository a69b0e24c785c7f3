/- impl.Packed: its steps, one by one. -/
import Derived.Test.YtmlfgolmdeignaaPy
import Derived.Test.YtmlfgolmdeignaaPv
namespace Go.Proofs.Ytmlfgolmdeignaa.Pk
open Go.RowKit Go.IntWalk Go.Proofs.YtmlfgolmdeignaaW.PrintWords Go.Proofs.YtmlfgolmdeignaaW.PrintLast Go.Proofs.YtmlfgolmdeignaaW.PrintMore
attribute [local go_sem] max2_int min2_int max_two min_two max_three min_three max_four min_four
set_option linter.unusedVariables false
set_option linter.unusedSimpArgs false
structure Ps where
  D : List Int
  o : Nat
  t : Nat
  B : Nat
def Ps.fl (s : Ps) : Ps := ⟨over s.D s.o (low ((s.t + 7) / 8) s.B), s.o + (s.t + 7) / 8, 0, 0⟩
/-- What one step does to a writer over n bytes; none where it does not fit. -/
def stepF (n : Nat) (s : Ps) (op num wd : Int) : Option Ps :=
  if op = 0 then (if 0 ≤ wd ∧ wd ≤ 64 ∧ 0 ≤ num ∧ num.toNat < 2 ^ wd.toNat then (if s.t + wd.toNat < 64 then some ⟨s.D, s.o, s.t + wd.toNat, s.B + num.toNat * 2 ^ s.t⟩ else if s.o + 8 ≤ n then some ⟨over s.D s.o (low 8 ((s.B + num.toNat * 2 ^ s.t) % 2 ^ 64)), s.o + 8, s.t + wd.toNat - 64, num.toNat / 2 ^ (64 - s.t)⟩ else none) else none)
  else if op = 1 then (if 0 < wd ∧ wd ≤ 8 ∧ 0 ≤ num ∧ num < 18446744073709551616 ∧ s.fl.o + wd.toNat ≤ n then some ⟨over s.fl.D s.fl.o (low wd.toNat num.toNat), s.fl.o + wd.toNat, 0, 0⟩ else none)
  else if op = 2 then (if 0 ≤ num ∧ num < 18446744073709551616 ∧ s.fl.o + (uv num.toNat).length ≤ n then some ⟨over s.fl.D s.fl.o (uv num.toNat), s.fl.o + (uv num.toNat).length, 0, 0⟩ else none)
  else if op = 3 then (if s.fl.o + (uv (zz (wrap64 num)).toNat).length ≤ n then some ⟨over s.fl.D s.fl.o (uv (zz (wrap64 num)).toNat), s.fl.o + (uv (zz (wrap64 num)).toNat).length, 0, 0⟩ else none)
  else if op = 4 then (if s.fl.o ≤ n then some s.fl else none)
  else if op = 5 then (if 0 ≤ wd ∧ s.fl.o + wd.toNat ≤ n then some ⟨s.fl.D, s.fl.o + wd.toNat, 0, 0⟩ else none)
  else none
def Ps.ok (s : Ps) (n : Nat) : Prop := s.t < 64 ∧ s.B < 2 ^ s.t ∧ s.D.length = n ∧ s.o ≤ n
def foldF (n : Nat) : Ps → List (Int × Int × Int) → Option Ps
  | s, [] => some s
  | s, x :: r => (stepF n s x.1 x.2.1 x.2.2).bind fun s' => foldF n s' r
theorem zz_range (i : Int) : 0 ≤ zz i ∧ zz i < 18446744073709551616 := by
  unfold zz
  rw [IntKind.wrap_u64]
  omega
theorem tinfo5 : (Try.prog.info? 5).map (fun i => (i.zero, i.size, i.bytes)) = some (some (.int .u8 0), 1, 1) := by kernel_rfl
theorem mkN (n : Nat) (hn : n ≤ 4096) (W : World) : (Instr.makeSlice 23 (.int .i64 n) (.int .i64 n)).run Try.prog W = .ok (.slice (some ⟨W.heap.size, 0, none⟩) n n) (W.alloc (.cells (rowB (List.replicate n 0)) 5 (0, 0))) := by
  have h := tinfo5
  cases hi : Try.prog.info? 5 with
  | none => rw [hi] at h; cases h
  | some i =>
    rw [hi] at h
    simp only [Option.map_some, Option.some.injEq, Prod.mk.injEq] at h
    obtain ⟨hz, hs, hb⟩ := h
    have := run_makeSlice (P := Try.prog) W 23 5 i (.int .u8 0) Try.underlying23 hi hz .i64 .i64 n n (by omega) (by omega) (by rw [hs]; omega) (by rw [hb]; omega) (by omega)
    rw [this, hs, Int.toNat_natCast]
    have e : madeCells (Value.int .u8 0).cells (n * 1) = rowB (List.replicate n 0) := by
      rw [Nat.mul_one]
      refine Array.ext (by simp [size_madeCells, rowB]) fun i h1 h2 => ?_
      simp [madeCells, rowB, Value.cells, Nat.mod_one]
    rw [e]
theorem newBuf (a : Option Addr) (n c : Nat) (w : World) : Calls Try.prog 21 #[.slice a n c] w fun e w' => e = .returned (.iface 92 (.pointer (some ⟨w.heap.size, 0, none⟩))) ∧ w' = w.alloc (.cells #[.slice a n c] 94 (0, 0)) := by
  go_enter Try.func21, Try.ntmps21
  go_wp2
  go_ret
  exact ⟨rfl, rfl⟩
theorem newBW (wb : Nat) (w : World) : Calls Try.prog 20 #[.iface 92 (.pointer (some ⟨wb, 0, none⟩))] w fun e w' => e = .returned (.pointer (some ⟨w.heap.size, 0, none⟩)) ∧ w' = w.alloc (.cells (bwl wb ((0 : Nat) : Int) ((0 : Nat) : Int) ((0 : Nat) : Int) (List.replicate 8 (.int .u8 0)) (List.replicate 10 (.int .u8 0))).toArray 91 (0, 0)) := by
  go_enter Try.func20, Try.ntmps20
  go_wp2
  go_ret
  exact ⟨rfl, rfl⟩
theorem foldF_drop {n : Nat} {s s' : Ps} {l : List (Int × Int × Int)} {i : Nat} {x : Int × Int × Int} (h : foldF n s' (l.drop i) = some s) (hx : l[i]? = some x) : ∃ s'', stepF n s' x.1 x.2.1 x.2.2 = some s'' ∧ foldF n s'' (l.drop (i + 1)) = some s := by
  have hlt := (List.getElem?_eq_some_iff.1 hx).1
  rw [List.drop_eq_getElem_cons hlt, (List.getElem?_eq_some_iff.1 hx).2] at h
  exact Option.bind_eq_some_iff.1 h
theorem len_fl {s : Ps} {n : Nat} (h : s.D.length = n) (hf : s.fl.o ≤ n) : s.fl.D.length = n := by
  show (over s.D s.o (low ((s.t + 7) / 8) s.B)).length = n
  rw [over_len (by rw [low_len, h]; exact hf)]
  exact h
theorem Wr.below {bw wb d n : Nat} {D : List Int} {o t B : Nat} {w w' : World} (S : Wr bw wb d n D o t B w) (h : Below w.heap.size w w') : Wr bw wb d n D o t B w' := by
  obtain ⟨⟨R, U, hR, hU, hW⟩, hV, hRow, hlen⟩ := S
  exact ⟨⟨R, U, hR, hU, blk_below hW h⟩, blk_below hV h, blk_below hRow h, hlen⟩
theorem no_idle19 (p q r : Addr) (w : World) :
    CallsD Try.prog 19 #[.pointer (some p), .pointer (some q), .pointer (some r)] .returning w fun e u' w' => e = .returned (.tuple #[]) ∧ u' = .returning ∧ w' = w := by
  refine callsD_of_wpS Try.func19 rfl fun c₀ cs hu => ?_
  apply wpS_seq
  apply wpS_region
  simp [wpOpsS, go_sem, recoverD, hu, Try.ntmps19, Exit.thenS]
  refine wpS_cond (t := false) (by simp [Act.eval, Array.replicate]) ?_
  simp only [Bool.false_eq_true, if_false]
  refine wpS_of_wp (wp_skip ?_)
  cases c₀
  simp_all [bodyPostS, results, Try.results19]
/-- A block of bytes is a row of the call's own. -/
theorem rowB_R {w : World} {base g n : Nat} {L : List Int} (h : w.heap[g]? = some (.cells (rowB L) 5 (0, 0))) (hb : base ≤ g) (hl : L.length = n) (hm : n ≤ 100000) : Kd.R (Kd.int .u8) 5 w base (fun _ => True) (.slice (some ⟨g, 0, none⟩) n n) L := by
  refine ⟨fun _ _ => trivial, L.map (Value.int .u8), ⟨?_, .inr ⟨g, n, rowB L, ?_, hb, h, ?_, ?_, ?_, ?_⟩⟩, ?_, ?_⟩
  · rw [List.length_map]
    exact (Nat.mul_one _).symm
  · rw [hl]
  · omega
  · exact Nat.le_trans hm (by decide)
  · unfold rowB
    rw [List.size_toArray, List.length_map, hl]
    exact (Nat.mul_one _).symm
  · unfold rowB
    rw [List.take_of_length_le (by simp [Kd.int, Kd.scalar])]
  · rw [List.length_map]
    exact (Nat.mul_one _).symm
  · intro j p hj
    have hlt := (List.getElem?_eq_some_iff.1 hj).1
    have hj' : (L.map (Value.int .u8))[j]? = some (.int .u8 p) := by rw [List.getElem?_map, hj]; rfl
    have hlt' : j < (L.map (Value.int .u8)).length := by rw [List.length_map]; exact hlt
    rw [List.getElem?_eq_getElem hlt'] at hj'
    injection hj' with hj'
    show Kd.M (Kd.int .u8) _ _ _ p (((L.map (Value.int .u8)).drop (j * 1)).take 1)
    rw [Nat.mul_one, List.drop_eq_getElem_cons hlt', hj']
    rfl
theorem stepF_ok {n : Nat} {s s' : Ps} {op num wd : Int} (h : s.ok n) (e : stepF n s op num wd = some s') : s'.ok n := by
  obtain ⟨h1, h2, h3, h4⟩ := h
  have hlay : ∀ (P : List Int) (k : Nat), P.length = k → s.fl.o + k ≤ n → (Ps.mk (over s.fl.D s.fl.o P) (s.fl.o + k) 0 0).ok n := fun P k hP hk => by
    refine ⟨by show (0 : Nat) < 64; decide, by show (0 : Nat) < 2 ^ 0; decide, ?_, hk⟩
    show (over s.fl.D s.fl.o P).length = n
    have hl := len_fl h3 (by omega)
    rw [over_len (by rw [hP, hl]; exact hk)]
    exact hl
  unfold stepF at e
  split at e
  · split at e
    · rename_i hc
      split at e
      · rename_i ht
        injection e with e
        subst e
        refine ⟨ht, ?_, h3, h4⟩
        show s.B + num.toNat * 2 ^ s.t < 2 ^ (s.t + wd.toNat)
        have h5 : num.toNat * 2 ^ s.t + 2 ^ s.t ≤ 2 ^ wd.toNat * 2 ^ s.t := by
          rw [← Nat.succ_mul]
          exact Nat.mul_le_mul_right _ hc.2.2.2
        rw [Nat.add_comm s.t, Nat.pow_add]
        omega
      · split at e
        · rename_i ht ho
          injection e with e
          subst e
          have hk : wd.toNat ≤ 64 := by omega
          refine ⟨by show s.t + wd.toNat - 64 < 64; omega, ?_, ?_, ho⟩
          · show num.toNat / 2 ^ (64 - s.t) < 2 ^ (s.t + wd.toNat - 64)
            rw [Nat.div_lt_iff_lt_mul (Nat.two_pow_pos _), ← Nat.pow_add, show s.t + wd.toNat - 64 + (64 - s.t) = wd.toNat by omega]
            exact hc.2.2.2
          · show (over s.D s.o (low 8 _)).length = n
            rw [over_len (by rw [low_len, h3]; exact ho)]
            exact h3
        · cases e
    · cases e
  · split at e
    · split at e
      · rename_i hc
        injection e with e
        subst e
        exact hlay _ _ (low_len _ _) hc.2.2.2.2
      · cases e
    · split at e
      · split at e
        · rename_i hc
          injection e with e
          subst e
          exact hlay _ _ rfl hc.2.2
        · cases e
      · split at e
        · split at e
          · rename_i hc
            injection e with e
            subst e
            exact hlay _ _ rfl hc
          · cases e
        · split at e
          · split at e
            · rename_i hc
              injection e with e
              subst e
              exact ⟨by show (0 : Nat) < 64; decide, by show (0 : Nat) < 2 ^ 0; decide, len_fl h3 hc, hc⟩
            · cases e
          · split at e
            · split at e
              · rename_i hc
                injection e with e
                subst e
                exact ⟨by show (0 : Nat) < 64; decide, by show (0 : Nat) < 2 ^ 0; decide, len_fl h3 (by omega), hc.2⟩
              · cases e
            · cases e
set_option maxHeartbeats 16000000 in
set_option maxRecDepth 100000 in
theorem packed (A : Option Addr) (c : Nat) (l : List (Int × Int × Int)) (n : Nat) (hn : n ≤ 4096) (hl : l.length ≤ 1000000) (w : World)
    (hit : ∀ W, Below w.heap.size w W → ∀ j : Nat, j < l.length → ∃ ad x, A = some ad ∧ l[j]? = some x ∧ W.cell? (ad.add (j * 3)) = some (.int .i64 x.1) ∧ W.cell? ⟨(ad.add (j * 3)).block, (ad.add (j * 3)).off + 1, none⟩ = some (.int .u64 x.2.1) ∧ W.cell? ⟨(ad.add (j * 3)).block, (ad.add (j * 3)).off + 2, none⟩ = some (.int .i64 x.2.2))
    (s : Ps) (hs : foldF n ⟨List.replicate n 0, 0, 0, 0⟩ l = some s) (hf : s.fl.o ≤ n) :
    Calls Try.prog 6 #[.slice A l.length c, .int .i64 n] w fun e w' => ∃ v : Value, e = .returned (.tuple #[v, .int .i64 s.fl.o, .bool true]) ∧ Kd.R (Kd.int .u8) 5 w' w.heap.size (fun _ => True) v s.fl.D ∧ Below w.heap.size w w' := by
  have HIT := Aside0.mk hit
  have HS := Aside0.mk hs
  clear hit hs
  have hmk := mkN n hn
  obtain ⟨N, hN⟩ : ∃ N, N = w.heap.size := ⟨_, rfl⟩
  have C : Pl (N + 1 + 1 + 1 + 1 + 1) (N + 1 + 1 + 1 + 1) (N + 1 + 1 + 1) n N := ⟨by omega, by omega, by omega, by omega, by omega, by omega, by omega⟩
  go_enter_defers Try.func6, Try.ntmps6
  go_wp2_with (first | (go_at_call 21; refine Calls.mono (newBuf _ _ _ _) ?_; rintro e w1 ⟨rfl, h1⟩; rw [h1]; clear h1) | (go_at_call 20; refine Calls.mono (newBW _ _) ?_; rintro e w1 ⟨rfl, h1⟩; rw [h1]; clear h1))
  simp only [World.size_alloc, ← hN]
  obtain ⟨W0, hW0⟩ : ∃ W0, W0 = ((((((w.alloc (Obj.cells #[Value.slice (some { block := N + 1 + 1 + 1, off := 0 }) n n] 23)).alloc (Obj.cells #[Value.int IntKind.i64 0] 3)).alloc (Obj.cells #[Value.bool false] 4)).alloc (Obj.cells (rowB (List.replicate n 0)) 5)).alloc (Obj.cells #[Value.slice (some { block := N + 1 + 1 + 1, off := 0 }) n n] 94)).alloc (Obj.cells (bwl (N + 1 + 1 + 1 + 1) 0 0 0 [.int .u8 0, .int .u8 0, .int .u8 0, .int .u8 0, .int .u8 0, .int .u8 0, .int .u8 0, .int .u8 0] [.int .u8 0, .int .u8 0, .int .u8 0, .int .u8 0, .int .u8 0, .int .u8 0, .int .u8 0, .int .u8 0, .int .u8 0, .int .u8 0]).toArray 91)) := ⟨_, rfl⟩
  rw [← hW0]
  have z1 : N + 1 = (w.alloc (Obj.cells #[Value.slice (some { block := N + 1 + 1 + 1, off := 0 }) n n] 23)).heap.size := by rw [World.size_alloc, hN]
  have q0 : W0.heap[N]? = some (.cells #[.slice (some ⟨N + 1 + 1 + 1, 0, none⟩) n n] 23 (0, 0)) := by
    rw [hW0, hN]
    exact blk_alloc (blk_alloc (blk_alloc (blk_alloc (blk_alloc (blk_new w _) _) _) _) _) _
  have qs : ∀ (W : World) (o : Obj) (g : Nat), g = W.heap.size → (W.alloc o).heap[g]? = some o := fun W o g h => by rw [h]; exact blk_new W o
  have q1 : W0.heap[N + 1]? = some (.cells #[.int .i64 0] 3 (0, 0)) := by
    rw [hW0]
    exact blk_alloc (blk_alloc (blk_alloc (blk_alloc (qs _ _ _ (by simp [hN])) _) _) _) _
  have q2 : W0.heap[N + 1 + 1]? = some (.cells #[.bool false] 4 (0, 0)) := by
    rw [hW0]
    exact blk_alloc (blk_alloc (blk_alloc (qs _ _ _ (by simp [hN])) _) _) _
  have S0 : Wr (N + 1 + 1 + 1 + 1 + 1) (N + 1 + 1 + 1 + 1) (N + 1 + 1 + 1) n (List.replicate n 0) 0 0 0 W0 := by
    refine ⟨⟨[.int .u8 0, .int .u8 0, .int .u8 0, .int .u8 0, .int .u8 0, .int .u8 0, .int .u8 0, .int .u8 0], [.int .u8 0, .int .u8 0, .int .u8 0, .int .u8 0, .int .u8 0, .int .u8 0, .int .u8 0, .int .u8 0, .int .u8 0, .int .u8 0], rfl, rfl, ?_⟩, ?_, ?_, by simp⟩
    · rw [hW0]
      exact qs _ _ _ (by simp [hN])
    · rw [hW0]
      exact blk_alloc (qs _ _ _ (by simp [hN])) _
    · rw [hW0]
      exact blk_alloc (blk_alloc (qs _ _ _ (by simp [hN])) _) _
  have L0 : Below N w W0 := by
    rw [hW0, hN]
    exact below_alloc (below_alloc (below_alloc (below_alloc (below_alloc (below_alloc (Below.refl _ _) _) _) _) _) _) _
  clear hW0 z1 qs hmk
  have Q0 := Aside0.mk q0
  have Q1 := Aside0.mk q1
  have Q2 := Aside0.mk q2
  have S0 := Aside0.mk S0
  have L0 := Aside0.mk L0
  have HN := Aside0.mk hN
  clear q0 q1 q2 hN
  go_loopg [21] l.length (fun kq v21 w' => ∃ (i : Nat) (s' : Ps), v21 = .int .i64 i ∧ Aside0 (kq + i = l.length) ∧ Aside0 (s'.ok n) ∧ Aside0 (foldF n s' (l.drop i) = some s) ∧ Aside0 (Wr (N + 1 + 1 + 1 + 1 + 1) (N + 1 + 1 + 1 + 1) (N + 1 + 1 + 1) n s'.D s'.o s'.t s'.B w') ∧ Aside0 (Below N w w') ∧ Aside0 (w'.heap[N]? = some (.cells #[.slice (some ⟨N + 1 + 1 + 1, 0, none⟩) n n] 23 (0, 0))) ∧ Aside0 (w'.heap[N + 1]? = some (.cells #[.int .i64 0] 3 (0, 0))) ∧ Aside0 (w'.heap[N + 1 + 1]? = some (.cells #[.bool false] 4 (0, 0))))
  case atStart => exact ⟨0, ⟨List.replicate n 0, 0, 0, 0⟩, rfl, ⟨by omega⟩, ⟨by simp [Ps.ok]⟩, HS, S0, L0, Q0, Q1, Q2⟩
  case round =>
    obtain ⟨i, s', rfl, HM, HO, HF, HW, HB, H0, H1, H2⟩ := hrel
    by_cases hi : i < l.length
    · have hi' : (i : Int) < (l.length : Int) := by omega
      obtain ⟨ad, x, hA, hx, x0, x1, x2⟩ := HIT.out wr (by have := HB.out; rw [HN.out] at this; exact this) i hi
      obtain ⟨s'', hst, hfo⟩ := foldF_drop HF.out hx
      subst hA
      obtain ⟨op, num, wd⟩ := x
      simp only at x0 x1 x2 hst
      have HFO := Aside0.mk hfo
      clear hfo hx
      have hok := Aside0.mk (stepF_ok HO.out hst)
      have SA : ∀ o', Wr (N + 1 + 1 + 1 + 1 + 1) (N + 1 + 1 + 1 + 1) (N + 1 + 1 + 1) n s'.D s'.o s'.t s'.B (wr.alloc o') := fun o' => Wr.below HW.out (below_alloc (Below.refl _ _) _)
      have ht := HO.out.1
      have hB := HO.out.2.1
      have hB64 : s'.B < 18446744073709551616 := Nat.lt_of_lt_of_le hB (Nat.le_trans (Nat.pow_le_pow_right (by decide) (show s'.t ≤ 64 by omega)) (by decide))
      by_cases o0 : op = 0
      · subst o0
        unfold stepF at hst
        rw [if_pos rfl] at hst
        have hwd : 0 ≤ wd ∧ wd ≤ 64 := by
          split at hst
          · rename_i hc
            exact ⟨hc.1, hc.2.1⟩
          · cases hst
        have hwd0 := hwd.1
        have hwd1 := hwd.2
        have hwrap : IntKind.u64.wrap wd = wd := by rw [IntKind.wrap_u64]; omega
        have HC := Aside0.mk (show ∀ o', Calls Try.prog 22 #[.pointer (some ⟨N + 1 + 1 + 1 + 1 + 1, 0, none⟩), .int .u64 num, .int .u64 wd] (wr.alloc o') fun e w2 => e = .returned (.nilIface) ∧ Wr (N + 1 + 1 + 1 + 1 + 1) (N + 1 + 1 + 1 + 1) (N + 1 + 1 + 1) n s''.D s''.o s''.t s''.B w2 ∧ Below N (wr.alloc o') w2 ∧ Kept (wr.alloc o') w2 (fun k => k = N + 1 + 1 + 1 + 1 + 1 ∨ k = N + 1 + 1 + 1) from fun o' => by
          split at hst
          · rename_i hc
            have e1 : ((num.toNat : Nat) : Int) = num := Int.toNat_of_nonneg hc.2.2.1
            have e2 : ((wd.toNat : Nat) : Int) = wd := Int.toNat_of_nonneg hc.1
            split at hst
            · rename_i hlt
              injection hst with hst
              subst hst
              have h := value_stay C (SA o') num.toNat wd.toNat ht hB hc.2.2.2 hlt
              rw [e1, e2] at h
              exact h
            · rename_i hlt
              split at hst
              · rename_i ho
                injection hst with hst
                subst hst
                have hk64 : wd.toNat ≤ 64 := by omega
                have h := value_full C (SA o') num.toNat wd.toNat ht hB (Nat.lt_of_lt_of_le hc.2.2.2 (Nat.le_trans (Nat.pow_le_pow_right (by decide) hk64) (by decide))) hk64 (by omega) ho
                rw [e1, e2] at h
                exact h
              · cases hst
          · cases hst)
        clear hst
        go_wp2_with (go_at_call 22; refine Calls.mono (HC.out _) ?_; rintro e w2 ⟨rfl, S2, b2, k2⟩; have S2 := Aside0.mk S2; have b2 := Aside0.mk b2; have k2 := Aside0.mk k2)
        have HB2 := Aside0.mk ((show Below N w (wr.alloc _) from Below.alloc HB.out (by have := blk_lt H0.out; omega) _).trans b2.out)
        have G0 := Aside0.mk (blk_kept (blk_alloc H0.out _) k2.out (by omega))
        have G1 := Aside0.mk (blk_kept (blk_alloc H1.out _) k2.out (by omega))
        have G2 := Aside0.mk (blk_kept (blk_alloc H2.out _) k2.out (by omega))
        go_roundg (gk - 1)
        case measure => have := HM.out; omega
        case rel => exact ⟨i + 1, s'', rfl, ⟨by have := HM.out; omega⟩, hok, HFO, S2, HB2, G0, G1, G2⟩
      by_cases o1 : op = 1
      · subst o1
        unfold stepF at hst
        rw [if_neg (by decide), if_pos rfl] at hst
        have HC := Aside0.mk (show ∀ o', Calls Try.prog 23 #[.pointer (some ⟨N + 1 + 1 + 1 + 1 + 1, 0, none⟩), .int .u64 num, .int .i64 wd] (wr.alloc o') fun e w2 => e = .returned (.bool true) ∧ Wr (N + 1 + 1 + 1 + 1 + 1) (N + 1 + 1 + 1 + 1) (N + 1 + 1 + 1) n s''.D s''.o s''.t s''.B w2 ∧ Below N (wr.alloc o') w2 ∧ Kept (wr.alloc o') w2 (fun k => k = N + 1 + 1 + 1 + 1 + 1 ∨ k = N + 1 + 1 + 1) from fun o' => by
          split at hst
          · rename_i hc
            have e1 : ((num.toNat : Nat) : Int) = num := Int.toNat_of_nonneg hc.2.2.1
            have e2 : ((wd.toNat : Nat) : Int) = wd := Int.toNat_of_nonneg (by omega)
            injection hst with hst
            subst hst
            have h := aligned C (SA o') num.toNat wd.toNat ht hB64 (by omega) (by omega) (by omega) s'.fl.D s'.fl.o rfl rfl hc.2.2.2.2
            rw [e1, e2] at h
            exact h
          · cases hst)
        clear hst
        go_wp2_with (go_at_call 23; refine Calls.mono (HC.out _) ?_; rintro e w2 ⟨rfl, S2, b2, k2⟩; have S2 := Aside0.mk S2; have b2 := Aside0.mk b2; have k2 := Aside0.mk k2)
        have HB2 := Aside0.mk ((show Below N w (wr.alloc _) from Below.alloc HB.out (by have := blk_lt H0.out; omega) _).trans b2.out)
        have G0 := Aside0.mk (blk_kept (blk_alloc H0.out _) k2.out (by omega))
        have G1 := Aside0.mk (blk_kept (blk_alloc H1.out _) k2.out (by omega))
        have G2 := Aside0.mk (blk_kept (blk_alloc H2.out _) k2.out (by omega))
        go_roundg (gk - 1)
        case measure => have := HM.out; omega
        case rel => exact ⟨i + 1, s'', rfl, ⟨by have := HM.out; omega⟩, hok, HFO, S2, HB2, G0, G1, G2⟩
      by_cases o2 : op = 2
      · subst o2
        unfold stepF at hst
        rw [if_neg (by decide), if_neg (by decide), if_pos rfl] at hst
        have HC := Aside0.mk (show ∀ o', Calls Try.prog 24 #[.pointer (some ⟨N + 1 + 1 + 1 + 1 + 1, 0, none⟩), .int .u64 num] (wr.alloc o') fun e w2 => e = .returned (.bool true) ∧ Wr (N + 1 + 1 + 1 + 1 + 1) (N + 1 + 1 + 1 + 1) (N + 1 + 1 + 1) n s''.D s''.o s''.t s''.B w2 ∧ Below N (wr.alloc o') w2 ∧ Kept (wr.alloc o') w2 (fun k => k = N + 1 + 1 + 1 + 1 + 1 ∨ k = N + 1 + 1 + 1) from fun o' => by
          split at hst
          · rename_i hc
            have e1 : ((num.toNat : Nat) : Int) = num := Int.toNat_of_nonneg hc.1
            injection hst with hst
            subst hst
            have h := vlq C (SA o') num.toNat ht hB64 (by omega) s'.fl.D s'.fl.o rfl rfl hc.2.2
            rw [e1] at h
            exact h
          · cases hst)
        clear hst
        go_wp2_with (go_at_call 24; refine Calls.mono (HC.out _) ?_; rintro e w2 ⟨rfl, S2, b2, k2⟩; have S2 := Aside0.mk S2; have b2 := Aside0.mk b2; have k2 := Aside0.mk k2)
        have HB2 := Aside0.mk ((show Below N w (wr.alloc _) from Below.alloc HB.out (by have := blk_lt H0.out; omega) _).trans b2.out)
        have G0 := Aside0.mk (blk_kept (blk_alloc H0.out _) k2.out (by omega))
        have G1 := Aside0.mk (blk_kept (blk_alloc H1.out _) k2.out (by omega))
        have G2 := Aside0.mk (blk_kept (blk_alloc H2.out _) k2.out (by omega))
        go_roundg (gk - 1)
        case measure => have := HM.out; omega
        case rel => exact ⟨i + 1, s'', rfl, ⟨by have := HM.out; omega⟩, hok, HFO, S2, HB2, G0, G1, G2⟩
      by_cases o3 : op = 3
      · subst o3
        unfold stepF at hst
        rw [if_neg (by decide), if_neg (by decide), if_neg (by decide), if_pos rfl] at hst
        have hwr : IntKind.i64.wrap num = wrap64 num := by rw [IntKind.wrap_i64]; unfold wrap64; rfl
        have HC := Aside0.mk (show ∀ o', Calls Try.prog 25 #[.pointer (some ⟨N + 1 + 1 + 1 + 1 + 1, 0, none⟩), .int .i64 (wrap64 num)] (wr.alloc o') fun e w2 => e = .returned (.bool true) ∧ Wr (N + 1 + 1 + 1 + 1 + 1) (N + 1 + 1 + 1 + 1) (N + 1 + 1 + 1) n s''.D s''.o s''.t s''.B w2 ∧ Below N (wr.alloc o') w2 ∧ Kept (wr.alloc o') w2 (fun k => k = N + 1 + 1 + 1 + 1 + 1 ∨ k = N + 1 + 1 + 1) from fun o' => by
          split at hst
          · rename_i hc
            have hz := zz_range (wrap64 num)
            injection hst with hst
            subst hst
            exact zigzag C (SA o') (wrap64 num) (zz (wrap64 num)).toNat (Int.toNat_of_nonneg hz.1).symm ht hB64 (by omega) s'.fl.D s'.fl.o rfl rfl hc
          · cases hst)
        clear hst
        go_wp2_with (go_at_call 25; refine Calls.mono (HC.out _) ?_; rintro e w2 ⟨rfl, S2, b2, k2⟩; have S2 := Aside0.mk S2; have b2 := Aside0.mk b2; have k2 := Aside0.mk k2)
        have HB2 := Aside0.mk ((show Below N w (wr.alloc _) from Below.alloc HB.out (by have := blk_lt H0.out; omega) _).trans b2.out)
        have G0 := Aside0.mk (blk_kept (blk_alloc H0.out _) k2.out (by omega))
        have G1 := Aside0.mk (blk_kept (blk_alloc H1.out _) k2.out (by omega))
        have G2 := Aside0.mk (blk_kept (blk_alloc H2.out _) k2.out (by omega))
        go_roundg (gk - 1)
        case measure => have := HM.out; omega
        case rel => exact ⟨i + 1, s'', rfl, ⟨by have := HM.out; omega⟩, hok, HFO, S2, HB2, G0, G1, G2⟩
      by_cases o4 : op = 4
      · subst o4
        unfold stepF at hst
        rw [if_neg (by decide), if_neg (by decide), if_neg (by decide), if_neg (by decide), if_pos rfl] at hst
        have HC := Aside0.mk (show ∀ o', Calls Try.prog 26 #[.pointer (some ⟨N + 1 + 1 + 1 + 1 + 1, 0, none⟩), .bool true] (wr.alloc o') fun e w2 => e = .returned (.tuple #[]) ∧ Wr (N + 1 + 1 + 1 + 1 + 1) (N + 1 + 1 + 1 + 1) (N + 1 + 1 + 1) n s''.D s''.o s''.t s''.B w2 ∧ Below N (wr.alloc o') w2 ∧ Kept (wr.alloc o') w2 (fun k => k = N + 1 + 1 + 1 + 1 + 1 ∨ k = N + 1 + 1 + 1) from fun o' => by
          split at hst
          · rename_i hc
            injection hst with hst
            subst hst
            exact flush C (SA o') ht hB64 hc
          · cases hst)
        clear hst
        go_wp2_with (go_at_call 26; refine Calls.mono (HC.out _) ?_; rintro e w2 ⟨rfl, S2, b2, k2⟩; have S2 := Aside0.mk S2; have b2 := Aside0.mk b2; have k2 := Aside0.mk k2)
        have HB2 := Aside0.mk ((show Below N w (wr.alloc _) from Below.alloc HB.out (by have := blk_lt H0.out; omega) _).trans b2.out)
        have G0 := Aside0.mk (blk_kept (blk_alloc H0.out _) k2.out (by omega))
        have G1 := Aside0.mk (blk_kept (blk_alloc H1.out _) k2.out (by omega))
        have G2 := Aside0.mk (blk_kept (blk_alloc H2.out _) k2.out (by omega))
        go_roundg (gk - 1)
        case measure => have := HM.out; omega
        case rel => exact ⟨i + 1, s'', rfl, ⟨by have := HM.out; omega⟩, hok, HFO, S2, HB2, G0, G1, G2⟩
      by_cases o5 : op = 5
      · subst o5
        unfold stepF at hst
        rw [if_neg (by decide), if_neg (by decide), if_neg (by decide), if_neg (by decide), if_neg (by decide), if_pos rfl] at hst
        have HC := Aside0.mk (show ∀ o', Calls Try.prog 27 #[.pointer (some ⟨N + 1 + 1 + 1 + 1 + 1, 0, none⟩), .int .i64 wd] (wr.alloc o') fun e w2 => e = .returned (.tuple #[.int .i64 s'.fl.o, .nilIface]) ∧ Wr (N + 1 + 1 + 1 + 1 + 1) (N + 1 + 1 + 1 + 1) (N + 1 + 1 + 1) n s''.D s''.o s''.t s''.B w2 ∧ Below N (wr.alloc o') w2 ∧ Kept (wr.alloc o') w2 (fun k => k = N + 1 + 1 + 1 + 1 + 1 ∨ k = N + 1 + 1 + 1) from fun o' => by
          split at hst
          · rename_i hc
            have e2 : ((wd.toNat : Nat) : Int) = wd := Int.toNat_of_nonneg hc.1
            injection hst with hst
            subst hst
            have h := skip C (SA o') wd.toNat ht hB64 s'.fl.D s'.fl.o rfl rfl hc.2
            rw [e2] at h
            exact h
          · cases hst)
        clear hst
        go_wp2_with (go_at_call 27; refine Calls.mono (HC.out _) ?_; rintro e w2 ⟨rfl, S2, b2, k2⟩; have S2 := Aside0.mk S2; have b2 := Aside0.mk b2; have k2 := Aside0.mk k2)
        have HB2 := Aside0.mk ((show Below N w (wr.alloc _) from Below.alloc HB.out (by have := blk_lt H0.out; omega) _).trans b2.out)
        have G0 := Aside0.mk (blk_kept (blk_alloc H0.out _) k2.out (by omega))
        have G1 := Aside0.mk (blk_kept (blk_alloc H1.out _) k2.out (by omega))
        have G2 := Aside0.mk (blk_kept (blk_alloc H2.out _) k2.out (by omega))
        go_roundg (gk - 1)
        case measure => have := HM.out; omega
        case rel => exact ⟨i + 1, s'', rfl, ⟨by have := HM.out; omega⟩, hok, HFO, S2, HB2, G0, G1, G2⟩
      exfalso
      unfold stepF at hst
      rw [if_neg o0, if_neg o1, if_neg o2, if_neg o3, if_neg o4, if_neg o5] at hst
      cases hst
    · have hi' : ¬ (i : Int) < (l.length : Int) := by omega
      have e : l.drop i = [] := List.drop_of_length_le (by omega)
      have hs := HF.out
      rw [e] at hs
      injection hs with hs
      subst hs
      have ht := HO.out.1
      have hB := HO.out.2.1
      have hB64 : s'.B < 18446744073709551616 := Nat.lt_of_lt_of_le hB (Nat.le_trans (Nat.pow_le_pow_right (by decide) (show s'.t ≤ 64 by omega)) (by decide))
      have HC := Aside0.mk (flush C HW.out ht hB64 hf)
      go_wp2_with (go_at_call 26; refine Calls.mono HC.out ?_; rintro e w2 ⟨rfl, S2, b2, k2⟩; have S2 := Aside0.mk S2; have b2 := Aside0.mk b2; have k2 := Aside0.mk k2)
      have G0 := blk_kept H0.out k2.out (by omega)
      have G1 := blk_kept H1.out k2.out (by omega)
      have G2 := blk_kept H2.out k2.out (by omega)
      have c0 : w2.cell? ⟨N, 0, none⟩ = some (.slice (some ⟨N + 1 + 1 + 1, 0, none⟩) n n) := (cell_of_row' G0 0).trans rfl
      have f0 := blk_frozen' G0 0
      have f1 := blk_frozen' G1 0
      have f2 := blk_frozen' G2 0
      have hn4 : s'.fl.o + 8 ≤ 1000000 := by omega
      have HWr := Aside0.mk (show ∀ q, Calls Try.prog 28 #[.pointer (some ⟨N + 1 + 1 + 1 + 1 + 1, 0, none⟩)] (w2.drewN q) fun e w' => e = .returned (.int .i64 s'.fl.o) ∧ ∃ m, w' = (w2.drewN q).drewN m from fun q =>
        written (o := s'.fl.o) (t := 0) (B := 0) (D := s'.fl.D) C (Wr.below S2.out (pw_below_drewN (Below.refl _ _) q)) (by decide) hn4)
      have GG0 := Aside0.mk G0
      have GG1 := Aside0.mk G1
      have GG2 := Aside0.mk G2
      clear G0 G1 G2
      go_wp2
      refine wp_region_noPanic ?_
      go_region_with (go_at_call 28; (first | refine Calls.mono (HWr.out 0) ?_ | refine Calls.mono (HWr.out _) ?_); rintro e w3 ⟨rfl, m3, hw3⟩; have X0 : w3.heap[N]? = some (.cells #[.slice (some ⟨N + 1 + 1 + 1, 0, none⟩) n n] 23 (0, 0)) := (by rw [hw3]; exact GG0.out); have X1 : w3.heap[N + 1]? = some (.cells #[.int .i64 0] 3 (0, 0)) := (by rw [hw3]; exact GG1.out); have X2 : w3.heap[N + 1 + 1]? = some (.cells #[.bool false] 4 (0, 0)) := (by rw [hw3]; exact GG2.out); have XS := Aside0.mk (show Wr (N + 1 + 1 + 1 + 1 + 1) (N + 1 + 1 + 1 + 1) (N + 1 + 1 + 1) n s'.fl.D s'.fl.o 0 0 w3 from by rw [hw3]; exact Wr.below S2.out (pw_below_drewN (pw_below_drewN (Below.refl _ _) _) _)); have XB := Aside0.mk (show Below N w w3 from by rw [hw3]; exact pw_below_drewN (pw_below_drewN (HB.out.trans b2.out) _) _); have y0 : w3.cell? ⟨N, 0, none⟩ = some (.slice (some ⟨N + 1 + 1 + 1, 0, none⟩) n n) := (cell_of_row' X0 0).trans rfl; have y1 : w3.cell? ⟨N + 1, 0, none⟩ = some (.int .i64 0) := (cell_of_row' X1 0).trans rfl; have y2 : w3.cell? ⟨N + 1 + 1, 0, none⟩ = some (.bool false) := (cell_of_row' X2 0).trans rfl; have g0 := blk_frozen' X0 0; have g1 := blk_frozen' X1 0; have g2 := blk_frozen' X2 0; have XX0 := Aside0.mk X0; have XX1 := Aside0.mk X1; have XX2 := Aside0.mk X2; clear X0 X1 X2 hw3)
      all_goals
        refine NoPanic.normal ?_
        go_wp2
        refine leaves_cons (f := 19) (args := #[.pointer (some ⟨N, 0, none⟩), .pointer (some ⟨N + 1, 0, none⟩), .pointer (some ⟨N + 1 + 1, 0, none⟩)]) (by simp) (by simp [go_sem]) ?_
        refine (no_idle19 ⟨N, 0, none⟩ ⟨N + 1, 0, none⟩ ⟨N + 1 + 1, 0, none⟩ _).mono ?_
        rintro e u' w'' ⟨rfl, rfl, rfl⟩
        have t0 := blk_far (p := ⟨N + 1 + 1, 0, none⟩) (blk_far (p := ⟨N + 1, 0, none⟩) (blk_put (cs := #[.slice (some ⟨N + 1 + 1 + 1, 0, none⟩) n n]) XX0.out 0 (.slice (some ⟨N + 1 + 1 + 1, 0, none⟩) n n) rfl) (show N ≠ N + 1 by omega) (.int .i64 s'.fl.o)) (show N ≠ N + 1 + 1 by omega) (.bool true)
        have t1 := blk_far (p := ⟨N + 1 + 1, 0, none⟩) (blk_put (cs := #[.int .i64 0]) (blk_far (p := ⟨N, 0, none⟩) XX1.out (show N + 1 ≠ N by omega) (.slice (some ⟨N + 1 + 1 + 1, 0, none⟩) n n)) 0 (.int .i64 s'.fl.o) rfl) (show N + 1 ≠ N + 1 + 1 by omega) (.bool true)
        have t2 := blk_put (cs := #[.bool false]) (blk_far (p := ⟨N + 1, 0, none⟩) (blk_far (p := ⟨N, 0, none⟩) XX2.out (show N + 1 + 1 ≠ N by omega) (.slice (some ⟨N + 1 + 1 + 1, 0, none⟩) n n)) (show N + 1 + 1 ≠ N + 1 by omega) (.int .i64 s'.fl.o)) 0 (.bool true) rfl
        have t3 := blk_far (p := ⟨N + 1 + 1, 0, none⟩) (blk_far (p := ⟨N + 1, 0, none⟩) (blk_far (p := ⟨N, 0, none⟩) XS.out.R (show N + 1 + 1 + 1 ≠ N by omega) (.slice (some ⟨N + 1 + 1 + 1, 0, none⟩) n n)) (show N + 1 + 1 + 1 ≠ N + 1 by omega) (.int .i64 s'.fl.o)) (show N + 1 + 1 + 1 ≠ N + 1 + 1 by omega) (.bool true)
        have c3 := (cell_of_row' t0 0).trans rfl
        have d3 := (cell_of_row' t1 0).trans rfl
        have e3 := (cell_of_row' t2 0).trans rfl
        have HR := Aside0.mk (rowB_R t3 (base := N) (by omega) XS.out.len (by omega))
        have HBL := Aside0.mk (Below.setCell (p := ⟨N + 1 + 1, 0, none⟩) (Below.setCell (p := ⟨N + 1, 0, none⟩) (Below.setCell (p := ⟨N, 0, none⟩) XB.out (Nat.le_refl N) (.slice (some ⟨N + 1 + 1 + 1, 0, none⟩) n n)) (show N ≤ N + 1 by omega) (.int .i64 s'.fl.o)) (show N ≤ N + 1 + 1 by omega) (.bool true))
        clear t0 t1 t2 t3
        simp [Leaves, settle, results, Try.results6, go_sem, c3, d3, e3]
        rw [← HN.out]
        exact ⟨HR.out, HBL.out⟩

end Go.Proofs.Ytmlfgolmdeignaa.Pk
