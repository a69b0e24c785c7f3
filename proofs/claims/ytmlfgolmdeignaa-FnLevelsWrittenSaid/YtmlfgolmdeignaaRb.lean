/- The encoder of runs in memory: a literal run is laid. -/
import Derived.Test.YtmlfgolmdeignaaRa
namespace Go.Proofs.Ytmlfgolmdeignaa.Pk
open Go.RowKit Go.IntWalk Go.Proofs.YtmlfgolmdeignaaW.PrintWords Go.Proofs.YtmlfgolmdeignaaW.PrintLast Go.Proofs.YtmlfgolmdeignaaW.PrintMore
attribute [local go_sem] max2_int min2_int max_two min_two max_three min_three max_four min_four
set_option linter.unusedVariables false
set_option linter.unusedSimpArgs false
/-- The cells of an encoder. -/
def rel (bw bb len : Nat) (wd cur rep lc lo ib : Int) : List Value := [.pointer (some ⟨bw, 0, none⟩), .slice (some ⟨bb, 0, none⟩) len 8, .int .i64 wd, .int .u64 cur, .int .i32 rep, .int .i32 lc, .int .i64 lo, .int .u8 ib]
structure PE (re bb bw wb d N Bs : Nat) : Prop where
  P : Pl bw wb d N Bs
  e1 : re ≠ bw
  e2 : re ≠ wb
  e3 : re ≠ d
  e4 : re ≠ bb
  f1 : bb ≠ bw
  f2 : bb ≠ wb
  f3 : bb ≠ d
  b1 : Bs ≤ re
  b2 : Bs ≤ bb
/-- What an encoder may write. -/
def SE (re bb bw d : Nat) (k : Nat) : Prop := k = re ∨ k = bb ∨ k = bw ∨ k = d
def bufV (buf : List Nat) : List Value := buf.map (fun x : Nat => Value.int .u64 x)
def BF (bb : Nat) (buf : List Nat) (w : World) : Prop := ∃ T : List Value, buf.length + T.length = 8 ∧ w.heap[bb]? = some (.cells (bufV buf ++ T).toArray 26 (0, 0))
def EC (re bw bb len : Nat) (wd cur rep lc lo ib : Int) (w : World) : Prop := w.heap[re]? = some (.cells (rel bw bb len wd cur rep lc lo ib).toArray 104 (0, 0))
/-- An encoder in memory. -/
structure En (re bb bw wb d N wd : Nat) (L : List Int) (buf : List Nat) (cur rep lc : Nat) (lo : Int) (w : World) : Prop where
  E : ∃ ib : Int, EC re bw bb buf.length wd cur rep lc lo ib w
  F : BF bb buf w
  W : WR bw wb d N (lo + 1).toNat (num L) (8 * L.length) w
  B : Bytes L
/-- Numbers of a width as one. -/
def pk (wd : Nat) : List Nat → Nat
  | [] => 0
  | v :: r => v + 2 ^ wd * pk wd r
theorem pk_append (wd : Nat) (a b : List Nat) : pk wd (a ++ b) = pk wd a + 2 ^ (wd * a.length) * pk wd b := by
  induction a with
  | nil => simp [pk]
  | cons v r ih =>
    rw [List.cons_append, pk, pk, ih, List.length_cons, Nat.mul_succ, Nat.add_comm (wd * r.length) wd, Nat.pow_add, Nat.mul_add, Nat.mul_assoc, Nat.add_assoc]
theorem pk_take {wd : Nat} {l : List Nat} {j : Nat} (hj : j < l.length) : pk wd (l.take (j + 1)) = pk wd (l.take j) + l[j] * 2 ^ (wd * j) := by
  rw [List.take_succ_eq_append_getElem hj, pk_append, List.length_take, Nat.min_eq_left (Nat.le_of_lt hj), Nat.mul_comm l[j]]
  simp [pk]
theorem pk_lt {wd : Nat} {l : List Nat} (h : ∀ v ∈ l, v < 2 ^ wd) : pk wd l < 2 ^ (wd * l.length) := by
  induction l with
  | nil => simp [pk]
  | cons v r ih =>
    have h1 := h v List.mem_cons_self
    have h2 := ih (fun x hx => h x (List.mem_cons_of_mem _ hx))
    rw [pk, List.length_cons, Nat.mul_succ, Nat.add_comm, Nat.add_comm (wd * r.length) wd, Nat.pow_add]
    have h3 := Nat.mul_le_mul_left (2 ^ wd) (show pk wd r + 1 ≤ 2 ^ (wd * r.length) from h2)
    rw [Nat.mul_add] at h3
    omega
/-- The bytes of numbers that fill whole ones. -/
def pkB (wd : Nat) (l : List Nat) : List Int := low (wd * l.length / 8) (pk wd l)
theorem num_pkB {wd : Nat} {l : List Nat} (h : ∀ v ∈ l, v < 2 ^ wd) (h8 : l.length = 0 ∨ l.length = 8) (L : List Int) : num L + pk wd l * 2 ^ (8 * L.length) = num (L ++ pkB wd l) ∧ 8 * L.length + wd * l.length = 8 * (L ++ pkB wd l).length := by
  have hl : 8 * (wd * l.length / 8) = wd * l.length := by rcases h8 with h | h <;> rw [h] <;> omega
  have hlt := pk_lt h
  constructor
  · rw [num_append, pkB, num_low, p256, p256, hl, Nat.mod_eq_of_lt hlt, Nat.mul_comm (2 ^ _)]
  · rw [List.length_append, pkB, low_len, Nat.mul_add, hl]
theorem pkB_bytes (wd : Nat) (l : List Nat) : Bytes (pkB wd l) := low_bytes _ _
theorem wh_whole (n : Nat) : wh (8 * n) = 8 * n := by unfold wh; omega
theorem or_one (g : Nat) (hg : g < 1000) : bits .or .i32 ((2 * g : Nat) : Int) 1 = ((2 * g + 1 : Nat) : Int) := by
  have h : 2 * g ||| 1 = 2 * g + 1 := by
    have := Nat.two_pow_add_eq_or_of_lt (i := 1) (b := 1) (by decide) g
    simpa using this.symm
  show IntKind.i32.wrap ((BitVec.ofInt 32 ((2 * g : Nat) : Int) ||| BitVec.ofInt 32 1).toNat : Int) = _
  rw [BitVec.toNat_or, BitVec.ofInt_natCast, BitVec.toNat_ofNat, show (BitVec.ofInt 32 1).toNat = 1 from rfl, Nat.mod_eq_of_lt (by omega), h]
  simp [IntKind.wrap, IntKind.bits, IntKind.signed]
  omega
theorem EC.kept {re bw bb len : Nat} {wd cur rep lc lo ib : Int} {w w' : World} {S : Nat → Prop} (h : EC re bw bb len wd cur rep lc lo ib w) (k : Kept w w' S) (h1 : ¬ S re) : EC re bw bb len wd cur rep lc lo ib w' := blk_kept h k h1
theorem BF.kept {bb : Nat} {buf : List Nat} {w w' : World} {S : Nat → Prop} (h : BF bb buf w) (k : Kept w w' S) (h1 : ¬ S bb) : BF bb buf w' := by
  obtain ⟨T, h2, h3⟩ := h
  exact ⟨T, h2, blk_kept h3 k h1⟩
theorem BF.far {bb : Nat} {buf : List Nat} {w : World} (h : BF bb buf w) {p : Addr} (h1 : bb ≠ p.block) (u : Value) : BF bb buf (w.setCell p u) := by
  obtain ⟨T, h2, h3⟩ := h
  exact ⟨T, h2, blk_far h3 h1 u⟩
theorem BF.clear {bb : Nat} {buf : List Nat} {w : World} (h : BF bb buf w) : BF bb [] w := by
  obtain ⟨T, h2, h3⟩ := h
  exact ⟨bufV buf ++ T, by simp [bufV]; omega, h3⟩
theorem WR.far {bw wb d N m X n : Nat} {w : World} (h : WR bw wb d N m X n w) {p : Addr} (h1 : bw ≠ p.block) (h2 : wb ≠ p.block) (h3 : d ≠ p.block) (u : Value) : WR bw wb d N m X n (w.setCell p u) := by
  obtain ⟨D, o, t, B, ⟨⟨R, U, hR, hU, hW⟩, hV, hRow, hlen⟩, e2, e3⟩ := h
  exact ⟨D, o, t, B, ⟨⟨R, U, hR, hU, blk_far hW h1 u⟩, blk_far hV h2 u, blk_far hRow h3 u, hlen⟩, e2, e3⟩
theorem BF.cell {bb : Nat} {buf : List Nat} {w : World} (h : BF bb buf w) {j : Nat} (hj : j < buf.length) : w.cell? ⟨bb, j, none⟩ = some (.int .u64 (buf[j] : Nat)) := by
  obtain ⟨T, h2, h3⟩ := h
  rw [cell_of_row' h3, List.getElem?_toArray, List.getElem?_append_left (by simpa [bufV] using hj)]
  simp [bufV, hj]
theorem fitj {wd j len b N : Nat} (h8 : b = 0 ∨ b = 8) (hj : j < b) (hf : len + wd * b / 8 ≤ N) : (8 * len + wd * j + wd + 7) / 8 ≤ N := by
  have hb : b = 8 := by omega
  subst hb
  have h := Nat.mul_le_mul_left wd (show j + 1 ≤ 8 from hj)
  rw [Nat.mul_succ] at h
  omega
theorem WR.drewN {bw wb d N m X n : Nat} {w : World} (S : WR bw wb d N m X n w) (q : Nat) : WR bw wb d N m X n (w.drewN q) := S.below (pw_below_drewN (Below.refl _ _) q)
section
variable {re bb bw wb d N Bs wd : Nat} {w : World}
/-- What flushLiteral leaves. -/
def FL (re bb bw wb d N wd : Nat) (L1 : List Int) (lo1 : Nat) (buf : List Nat) (cur rep lc : Nat) (upd : Bool) (w' : World) : Prop :=
  if upd = true then En re bb bw wb d N wd ((L1 ++ pkB wd buf).set lo1 ((2 * (lc / 8) + 1 : Nat) : Int)) [] cur rep 0 (-1) w' else En re bb bw wb d N wd (L1 ++ pkB wd buf) [] cur rep lc lo1 w'
set_option maxHeartbeats 16000000 in
set_option maxRecDepth 100000 in
theorem flushLit (C : PE re bb bw wb d N Bs) (L : List Int) (buf : List Nat) (cur rep lc : Nat) (lo : Int) (S : En re bb bw wb d N wd L buf cur rep lc lo w) (upd : Bool) (L1 : List Int) (lo1 : Nat)
    (hlo : (lo = -1 ∧ L1 = L ++ [0] ∧ lo1 = L.length) ∨ (lo = lo1 ∧ L1 = L ∧ ∃ h : lo1 < L.length, L[lo1] = 0)) (hwd : wd ≤ 64) (hbuf : ∀ v ∈ buf, v < 2 ^ wd) (h8 : buf.length = 0 ∨ buf.length = 8) (hlc : lc < 600)
    (hfit : (L1 ++ pkB wd buf).length ≤ N) :
    Calls Try.prog 54 #[.pointer (some ⟨re, 0, none⟩), .bool upd] w fun e w' => e = .returned .nilIface ∧ FL re bb bw wb d N wd L1 lo1 buf cur rep lc upd w' ∧ Below Bs w w' ∧ Kept w w' (SE re bb bw d) := by
  obtain ⟨⟨ib, hE⟩, hF, hW, hB⟩ := S
  have hfit0 : L1.length ≤ N := by rw [List.length_append] at hfit; omega
  have c0 : w.cell? ⟨re, 0, none⟩ = some (.pointer (some ⟨bw, 0, none⟩)) := (cell_of_row' hE 0).trans rfl
  have c6 : w.cell? ⟨re, 6, none⟩ = some (.int .i64 lo) := (cell_of_row' hE 6).trans rfl
  rcases hlo with ⟨rfl, hL1, hlo1⟩ | ⟨rfl, hL1, hz, hz0⟩
  · have HSK := Aside0.mk (show Calls Try.prog 27 #[.pointer (some ⟨bw, 0, none⟩), .int .i64 1] w fun e w' => e = .returned (.tuple #[.int .i64 (lo1 : Int), .nilIface]) ∧ WR bw wb d N (lo1 + 1) (num L1) (8 * L1.length) w' ∧ Below Bs w w' ∧ Kept w w' (fun k => k = bw ∨ k = d) by
      have h := WR.skip1 C.P hW (by rw [wh_whole]; rw [hL1, List.length_append] at hfit0; simp at hfit0; omega)
      have e1 : wh (8 * L.length) / 8 = lo1 := by rw [wh_whole, hlo1]; omega
      have e2 : wh (8 * L.length) + 8 = 8 * L1.length := by rw [wh_whole, hL1, List.length_append]; simp; omega
      have e3 : num L1 = num L := by rw [hL1, num_append]; simp [num]
      rw [e1, e2] at h
      rw [e3]
      exact h)
    have hz0 : ∃ h : lo1 < L1.length, L1[lo1] = 0 := ⟨by rw [hL1, hlo1]; simp, by simp [hL1, hlo1]⟩
    have hB1 : Bytes L1 := by rw [hL1]; exact hB.append (Bytes.zeros 1)
    have HEA := Aside0.mk hE
    have HFA := Aside0.mk hF
    have hz := Aside0.mk hz0
    clear hz0 hL1 hlo1 hW hB hE hF
    go_enter Try.func54, Try.ntmps54
    go_wp2_with (go_at_call 27; refine Calls.mono HSK.out ?_; rintro e w1 ⟨rfl, h1, h2, h3⟩; have k6 : w1.cell? ⟨re, 6, none⟩ = some (.int .i64 (-1)) := (cell_of_row' (EC.kept HEA.out h3 (by have := C.e1; have := C.e3; omega)) 6).trans rfl; have k1 : w1.cell? ⟨re, 1, none⟩ = some (.slice (some ⟨bb, 0, none⟩) buf.length 8) := (cell_of_row' (EC.kept HEA.out h3 (by have := C.e1; have := C.e3; omega)) 1).trans rfl; have k6f := blk_frozen' (EC.kept HEA.out h3 (by have := C.e1; have := C.e3; omega)) 6; have h1 := Aside0.mk h1; have h2 := Aside0.mk h2; have h3 := Aside0.mk h3)
    generalize hW0 : w1.setCell ⟨re, 6, none⟩ (.int .i64 (lo1 : Int)) = W0
    have HE0 := Aside0.mk (show EC re bw bb buf.length wd cur rep lc lo1 ib W0 by rw [← hW0]; exact blk_put' (EC.kept HEA.out h3.out (by have := C.e1; have := C.e3; omega)) 6 _)
    have HK0 := Aside0.mk (show Kept w W0 (SE re bb bw d) by rw [← hW0]; exact Kept.setCell (Kept.mono h3.out (fun k hk => by unfold SE; omega)) (.inl (.inl rfl)) _)
    have HF0 := Aside0.mk (show BF bb buf W0 by rw [← hW0]; exact BF.far (BF.kept HFA.out h3.out (by have := C.f1; have := C.f3; omega)) C.e4.symm _)
    have HW0 := Aside0.mk (show WR bw wb d N (lo1 + 1) (num L1) (8 * L1.length) W0 by rw [← hW0]; exact WR.far h1.out C.e1.symm C.e2.symm C.e3.symm _)
    have HB0 := Aside0.mk (show Below Bs w W0 by rw [← hW0]; exact h2.out.setCell C.b1 _)
    clear h1 h2 h3 hW0 k6 k6f k1 HSK c6
    go_loopg [4, 31] buf.length (fun kq v4 v31 w' => ∃ j : Nat, v4 = .nilIface ∧ v31 = .int .i64 j ∧ Aside0 (kq + j = buf.length) ∧ Aside0 (EC re bw bb buf.length wd cur rep lc lo1 ib w') ∧ Aside0 (BF bb buf w') ∧ Aside0 (WR bw wb d N (lo1 + 1) (num L1 + pk wd (buf.take j) * 2 ^ (8 * L1.length)) (8 * L1.length + wd * j) w') ∧ Aside0 (Below Bs w w') ∧ Aside0 (Kept w w' (SE re bb bw d)))
    case atStart => exact ⟨0, rfl, rfl, ⟨by omega⟩, HE0, HF0, ⟨by simpa [pk] using HW0.out⟩, HB0, HK0⟩
    case round =>
      clear HE0 HF0 HW0 HB0 HK0
      obtain ⟨j, rfl, rfl, HJ, HE, HF, HW, HB, HK⟩ := hrel
      have hj0 : j ≤ buf.length := by have := HJ.out; omega
      by_cases hj : j < buf.length
      · have hj' : (j : Int) < (buf.length : Int) := by omega
        obtain ⟨v, hv⟩ : ∃ v, v = buf[j] := ⟨_, rfl⟩
        have hv2 : v < 2 ^ wd := by rw [hv]; exact hbuf _ (List.getElem_mem hj)
        have y0 : wr.cell? ⟨bb, j, none⟩ = some (.int .u64 v) := by rw [hv]; exact HF.out.cell hj
        have y1 : wr.cell? ⟨re, 0, none⟩ = some (.pointer (some ⟨bw, 0, none⟩)) := (cell_of_row' HE.out 0).trans rfl
        have y2 : wr.cell? ⟨re, 2, none⟩ = some (.int .i64 wd) := (cell_of_row' HE.out 2).trans rfl
        have hfj := fitj (wd := wd) (len := L1.length) h8 hj (by rw [List.length_append, pkB, low_len] at hfit; exact hfit)
        have HC := Aside0.mk (WR.value C.P (HW.out.below (below_drew (Below.refl _ _))) v wd hv2 hwd hfj)
        have HVJ := Aside0.mk hv
        clear hv hv2 hfj
        go_wp2
        go_still_tail 10, (by kernel_rfl)
        change wpList _ _ _ _ _ wr.drew
        go_wp2_with (go_at_call 22; refine Calls.mono HC.out ?_; rintro e w2 ⟨rfl, S2, b2, k2⟩; have S2 := Aside0.mk S2; have b2 := Aside0.mk b2; have k2 := Aside0.mk k2)
        have K2 := Aside0.mk (Kept.then_ HK.out (show Kept wr w2 _ from k2.out) (fun k hk => .inl (by unfold SE; omega)))
        have B2 := Aside0.mk (HB.out.trans ((show Below Bs wr wr.drew from below_drew (Below.refl _ _)).trans b2.out))
        have E2 := Aside0.mk (EC.kept HE.out (show Kept wr w2 _ from k2.out) (by have := C.e1; have := C.e3; omega))
        have F2 := Aside0.mk (BF.kept HF.out (show Kept wr w2 _ from k2.out) (by have := C.f1; have := C.f3; omega))
        go_roundg (gk - 1)
        case measure => have := HJ.out; omega
        case rel => exact ⟨j + 1, rfl, rfl, ⟨by have := HJ.out; omega⟩, E2, F2, ⟨by have := S2.out; rw [pk_take hj, ← HVJ.out, Nat.add_mul, Nat.mul_assoc v, ← Nat.pow_add, Nat.add_comm (wd * j), ← Nat.add_assoc, Nat.mul_succ, ← Nat.add_assoc]; exact this⟩, B2, K2⟩
      · have hj' : ¬ (j : Int) < (buf.length : Int) := by omega
        have hjk : j = buf.length := by omega
        obtain ⟨n1, n2⟩ := num_pkB hbuf h8 L1
        have W2 := HW.out
        rw [hjk, List.take_length, n1, n2] at W2
        have W2 := Aside0.mk W2
        clear hjk n1 n2
        have y1 : wr.cell? ⟨re, 1, none⟩ = some (.slice (some ⟨bb, 0, none⟩) buf.length 8) := (cell_of_row' HE.out 1).trans rfl
        have z1 := blk_frozen' HE.out 1
        cases upd with
        | false =>
          go_wp2
          go_ret
          refine ⟨rfl, ?_, HB.out.setCell C.b1 _, Kept.setCell HK.out (.inl (.inl rfl)) _⟩
          unfold FL
          rw [if_neg (by decide)]
          exact ⟨⟨ib, blk_put' HE.out 1 _⟩, BF.clear (BF.far HF.out C.e4.symm _), by rw [show ((lo1 : Int) + 1).toNat = lo1 + 1 by omega]; exact WR.far W2.out C.e1.symm C.e2.symm C.e3.symm _, hB1.append (pkB_bytes _ _)⟩
        | true =>
          obtain ⟨g, hg⟩ : ∃ g, g = lc / 8 := ⟨_, rfl⟩
          have hgi : (lc : Int) / 8 = (g : Int) := by omega
          have hgb : g < 80 := by omega
          have y5 : wr.cell? ⟨re, 5, none⟩ = some (.int .i32 lc) := (cell_of_row' HE.out 5).trans rfl
          have y0 : wr.cell? ⟨re, 0, none⟩ = some (.pointer (some ⟨bw, 0, none⟩)) := (cell_of_row' HE.out 0).trans rfl
          have y6 : wr.cell? ⟨re, 6, none⟩ = some (.int .i64 lo1) := (cell_of_row' HE.out 6).trans rfl
          have y7 : wr.cell? ⟨re, 7, none⟩ = some (.int .u8 ib) := (cell_of_row' HE.out 7).trans rfl
          have z7 := blk_frozen' HE.out 7
          have HG := Aside0.mk hg
          clear hg
          have hor : bits BinOp.or IntKind.i32 ((g : Int) * 2) 1 % 256 = ((2 * g + 1 : Nat) : Int) := by
            have := or_one g (by omega)
            rw [show (g : Int) * 2 = ((2 * g : Nat) : Int) by omega, this]
            omega
          have hor := Aside0.mk hor
          obtain ⟨L2, hL2⟩ : ∃ L2, L2 = L1 ++ pkB wd buf := ⟨_, rfl⟩
          have hz2 : ∃ h : lo1 < L2.length, L2[lo1] = 0 := by
            obtain ⟨h, e⟩ := hz.out
            subst hL2
            exact ⟨by rw [List.length_append]; omega, by rw [List.getElem_append_left h]; exact e⟩
          have hB2 : Bytes L2 := by rw [hL2]; exact hB1.append (pkB_bytes _ _)
          have W2 := Aside0.mk (hL2 ▸ W2.out)
          have HL2 := Aside0.mk hL2
          obtain ⟨hzl, hze⟩ := hz2
          have hz3 := num_get hB2 hzl
          rw [hze] at hz3
          have hns := num_set hzl ((2 * g + 1 : Nat) : Int)
          rw [hze, show (0 : Int).toNat = 0 from rfl, Nat.zero_mul, Nat.add_zero] at hns
          have hns := Aside0.mk hns
          have hz3 := Aside0.mk hz3
          clear hL2 hze
          go_wp2
          rw [show (2 * (g : Int) + 1) = ((2 * g + 1 : Nat) : Int) by omega]
          obtain ⟨W1, hW1⟩ : ∃ W1, W1 = (wr.setCell ⟨re, 1, none⟩ (.slice (some ⟨bb, 0, none⟩) 0 8)).setCell ⟨re, 7, none⟩ (.int .u8 ((2 * g + 1 : Nat) : Int)) := ⟨_, rfl⟩
          have HE1 := Aside0.mk (show EC re bw bb 0 wd cur rep lc lo1 ((2 * g + 1 : Nat) : Int) W1 by rw [hW1]; exact blk_put' (blk_put' HE.out 1 _) 7 _)
          have HF1 := Aside0.mk (show BF bb [] W1 by rw [hW1]; exact BF.clear (BF.far (BF.far HF.out C.e4.symm _) C.e4.symm _))
          have HW1 := Aside0.mk (show WR bw wb d N (lo1 + 1) (num L2) (8 * L2.length) W1 by rw [hW1]; exact WR.far (WR.far W2.out C.e1.symm C.e2.symm C.e3.symm _) C.e1.symm C.e2.symm C.e3.symm _)
          have HB1 := Aside0.mk (show Below Bs w W1 by rw [hW1]; exact (HB.out.setCell C.b1 _).setCell C.b1 _)
          have HK1 := Aside0.mk (show Kept w W1 (SE re bb bw d) by rw [hW1]; exact Kept.setCell (Kept.setCell HK.out (.inl (.inl rfl)) _) (.inl (.inl rfl)) _)
          rw [← hW1]
          clear hW1 y5 y0 y6 y7 z7 y1 z1 HE HF HB HK HW W2
          have y0 : W1.cell? ⟨re, 0, none⟩ = some (.pointer (some ⟨bw, 0, none⟩)) := (cell_of_row' HE1.out 0).trans rfl
          have y6 : W1.cell? ⟨re, 6, none⟩ = some (.int .i64 lo1) := (cell_of_row' HE1.out 6).trans rfl
          have HC := Aside0.mk (fun q => bwWriteAt C.P (HW1.out.drewN q) ⟨re, 7, none⟩ lo1 ((2 * g + 1 : Nat) : Int) (by omega) (by omega) (by omega) hz3.out ((cell_of_row' (show (W1.drewN q).heap[re]? = _ from HE1.out) 7).trans rfl) C.e3)
          go_region_with (go_at_call 57; (first | refine Calls.mono (HC.out 0) ?_ | refine Calls.mono (HC.out _) ?_); rintro e w3 ⟨rfl, S3, b3, k3⟩; have E3 := EC.kept HE1.out (show Kept W1 w3 _ from k3) (by have := C.e3; omega); have z5 : w3.cell? ⟨re, 5, none⟩ = some (.int .i32 lc) := (cell_of_row' E3 5).trans rfl; have z6 : w3.cell? ⟨re, 6, none⟩ = some (.int .i64 lo1) := (cell_of_row' E3 6).trans rfl; have x5 := blk_frozen' E3 5; have x6 := blk_frozen' E3 6; have E3' := Aside0.mk E3; have S3' := Aside0.mk S3; have b3' := Aside0.mk b3; have k3' := Aside0.mk k3; clear E3 S3 b3 k3)
          all_goals
            go_wp2
            go_ret
            refine ⟨rfl, ?_, ((HB1.out.trans ((show Below Bs W1 (W1.drewN _) from pw_below_drewN (Below.refl _ _) _).trans b3'.out)).setCell C.b1 _).setCell C.b1 _, Kept.setCell (Kept.setCell (Kept.then_ HK1.out (show Kept W1 w3 _ from k3'.out) (fun k hk => .inl (by unfold SE; omega))) (.inl (.inl rfl)) _) (.inl (.inl rfl)) _⟩
            unfold FL
            rw [if_pos rfl, ← HG.out, ← HL2.out]
            refine ⟨⟨((2 * g + 1 : Nat) : Int), blk_put' (blk_put' E3'.out 6 _) 5 _⟩, BF.far (BF.far (BF.kept HF1.out (show Kept W1 w3 _ from k3'.out) (by have := C.f3; omega)) C.e4.symm _) C.e4.symm _, ?_, hB2.set _ (by omega) (by omega)⟩
            rw [List.length_set, hns.out, show ((-1 : Int) + 1).toNat = 0 from rfl]
            exact WR.less (WR.far (WR.far S3'.out C.e1.symm C.e2.symm C.e3.symm _) C.e1.symm C.e2.symm C.e3.symm _) (Nat.zero_le _)
  · have HE0 := Aside0.mk hE
    have HK0 := Aside0.mk (Kept.refl w (SE re bb bw d))
    have HF0 := Aside0.mk hF
    have HW0 := Aside0.mk (show WR bw wb d N (lo1 + 1) (num L1) (8 * L1.length) w by rw [hL1]; have := hW; rw [show ((lo1 : Int) + 1).toNat = lo1 + 1 by omega] at this; exact this)
    have HB0 := Aside0.mk (Below.refl Bs w)
    have hB1 : Bytes L1 := by rw [hL1]; exact hB
    have hz := Aside0.mk (show ∃ h : lo1 < L1.length, L1[lo1] = 0 by subst hL1; exact ⟨hz, hz0⟩)
    have hlo : ((lo1 : Int) == -1) = false := by simp
    clear hz0 hL1 hW hB hE hF
    have c1 : w.cell? ⟨re, 1, none⟩ = some (.slice (some ⟨bb, 0, none⟩) buf.length 8) := (cell_of_row' HE0.out 1).trans rfl
    go_enter Try.func54, Try.ntmps54
    go_wp2
    clear c1 c6 hlo
    go_loopg [4, 31] buf.length (fun kq v4 v31 w' => ∃ j : Nat, v4 = .nilIface ∧ v31 = .int .i64 j ∧ Aside0 (kq + j = buf.length) ∧ Aside0 (EC re bw bb buf.length wd cur rep lc lo1 ib w') ∧ Aside0 (BF bb buf w') ∧ Aside0 (WR bw wb d N (lo1 + 1) (num L1 + pk wd (buf.take j) * 2 ^ (8 * L1.length)) (8 * L1.length + wd * j) w') ∧ Aside0 (Below Bs w w') ∧ Aside0 (Kept w w' (SE re bb bw d)))
    case atStart => exact ⟨0, rfl, rfl, ⟨by omega⟩, HE0, HF0, ⟨by simpa [pk] using HW0.out⟩, HB0, HK0⟩
    case round =>
      clear HE0 HF0 HW0 HB0 HK0
      obtain ⟨j, rfl, rfl, HJ, HE, HF, HW, HB, HK⟩ := hrel
      have hj0 : j ≤ buf.length := by have := HJ.out; omega
      by_cases hj : j < buf.length
      · have hj' : (j : Int) < (buf.length : Int) := by omega
        obtain ⟨v, hv⟩ : ∃ v, v = buf[j] := ⟨_, rfl⟩
        have hv2 : v < 2 ^ wd := by rw [hv]; exact hbuf _ (List.getElem_mem hj)
        have y0 : wr.cell? ⟨bb, j, none⟩ = some (.int .u64 v) := by rw [hv]; exact HF.out.cell hj
        have y1 : wr.cell? ⟨re, 0, none⟩ = some (.pointer (some ⟨bw, 0, none⟩)) := (cell_of_row' HE.out 0).trans rfl
        have y2 : wr.cell? ⟨re, 2, none⟩ = some (.int .i64 wd) := (cell_of_row' HE.out 2).trans rfl
        have hfj := fitj (wd := wd) (len := L1.length) h8 hj (by rw [List.length_append, pkB, low_len] at hfit; exact hfit)
        have HC := Aside0.mk (WR.value C.P (HW.out.below (below_drew (Below.refl _ _))) v wd hv2 hwd hfj)
        have HVJ := Aside0.mk hv
        clear hv hv2 hfj
        go_wp2
        go_still_tail 10, (by kernel_rfl)
        change wpList _ _ _ _ _ wr.drew
        go_wp2_with (go_at_call 22; refine Calls.mono HC.out ?_; rintro e w2 ⟨rfl, S2, b2, k2⟩; have S2 := Aside0.mk S2; have b2 := Aside0.mk b2; have k2 := Aside0.mk k2)
        have K2 := Aside0.mk (Kept.then_ HK.out (show Kept wr w2 _ from k2.out) (fun k hk => .inl (by unfold SE; omega)))
        have B2 := Aside0.mk (HB.out.trans ((show Below Bs wr wr.drew from below_drew (Below.refl _ _)).trans b2.out))
        have E2 := Aside0.mk (EC.kept HE.out (show Kept wr w2 _ from k2.out) (by have := C.e1; have := C.e3; omega))
        have F2 := Aside0.mk (BF.kept HF.out (show Kept wr w2 _ from k2.out) (by have := C.f1; have := C.f3; omega))
        go_roundg (gk - 1)
        case measure => have := HJ.out; omega
        case rel => exact ⟨j + 1, rfl, rfl, ⟨by have := HJ.out; omega⟩, E2, F2, ⟨by have := S2.out; rw [pk_take hj, ← HVJ.out, Nat.add_mul, Nat.mul_assoc v, ← Nat.pow_add, Nat.add_comm (wd * j), ← Nat.add_assoc, Nat.mul_succ, ← Nat.add_assoc]; exact this⟩, B2, K2⟩
      · have hj' : ¬ (j : Int) < (buf.length : Int) := by omega
        have hjk : j = buf.length := by omega
        obtain ⟨n1, n2⟩ := num_pkB hbuf h8 L1
        have W2 := HW.out
        rw [hjk, List.take_length, n1, n2] at W2
        have W2 := Aside0.mk W2
        clear hjk n1 n2
        have y1 : wr.cell? ⟨re, 1, none⟩ = some (.slice (some ⟨bb, 0, none⟩) buf.length 8) := (cell_of_row' HE.out 1).trans rfl
        have z1 := blk_frozen' HE.out 1
        cases upd with
        | false =>
          go_wp2
          go_ret
          refine ⟨rfl, ?_, HB.out.setCell C.b1 _, Kept.setCell HK.out (.inl (.inl rfl)) _⟩
          unfold FL
          rw [if_neg (by decide)]
          exact ⟨⟨ib, blk_put' HE.out 1 _⟩, BF.clear (BF.far HF.out C.e4.symm _), by rw [show ((lo1 : Int) + 1).toNat = lo1 + 1 by omega]; exact WR.far W2.out C.e1.symm C.e2.symm C.e3.symm _, hB1.append (pkB_bytes _ _)⟩
        | true =>
          obtain ⟨g, hg⟩ : ∃ g, g = lc / 8 := ⟨_, rfl⟩
          have hgi : (lc : Int) / 8 = (g : Int) := by omega
          have hgb : g < 80 := by omega
          have y5 : wr.cell? ⟨re, 5, none⟩ = some (.int .i32 lc) := (cell_of_row' HE.out 5).trans rfl
          have y0 : wr.cell? ⟨re, 0, none⟩ = some (.pointer (some ⟨bw, 0, none⟩)) := (cell_of_row' HE.out 0).trans rfl
          have y6 : wr.cell? ⟨re, 6, none⟩ = some (.int .i64 lo1) := (cell_of_row' HE.out 6).trans rfl
          have y7 : wr.cell? ⟨re, 7, none⟩ = some (.int .u8 ib) := (cell_of_row' HE.out 7).trans rfl
          have z7 := blk_frozen' HE.out 7
          have HG := Aside0.mk hg
          clear hg
          have hor : bits BinOp.or IntKind.i32 ((g : Int) * 2) 1 % 256 = ((2 * g + 1 : Nat) : Int) := by
            have := or_one g (by omega)
            rw [show (g : Int) * 2 = ((2 * g : Nat) : Int) by omega, this]
            omega
          have hor := Aside0.mk hor
          obtain ⟨L2, hL2⟩ : ∃ L2, L2 = L1 ++ pkB wd buf := ⟨_, rfl⟩
          have hz2 : ∃ h : lo1 < L2.length, L2[lo1] = 0 := by
            obtain ⟨h, e⟩ := hz.out
            subst hL2
            exact ⟨by rw [List.length_append]; omega, by rw [List.getElem_append_left h]; exact e⟩
          have hB2 : Bytes L2 := by rw [hL2]; exact hB1.append (pkB_bytes _ _)
          have W2 := Aside0.mk (hL2 ▸ W2.out)
          have HL2 := Aside0.mk hL2
          obtain ⟨hzl, hze⟩ := hz2
          have hz3 := num_get hB2 hzl
          rw [hze] at hz3
          have hns := num_set hzl ((2 * g + 1 : Nat) : Int)
          rw [hze, show (0 : Int).toNat = 0 from rfl, Nat.zero_mul, Nat.add_zero] at hns
          have hns := Aside0.mk hns
          have hz3 := Aside0.mk hz3
          clear hL2 hze
          go_wp2
          rw [show (2 * (g : Int) + 1) = ((2 * g + 1 : Nat) : Int) by omega]
          obtain ⟨W1, hW1⟩ : ∃ W1, W1 = (wr.setCell ⟨re, 1, none⟩ (.slice (some ⟨bb, 0, none⟩) 0 8)).setCell ⟨re, 7, none⟩ (.int .u8 ((2 * g + 1 : Nat) : Int)) := ⟨_, rfl⟩
          have HE1 := Aside0.mk (show EC re bw bb 0 wd cur rep lc lo1 ((2 * g + 1 : Nat) : Int) W1 by rw [hW1]; exact blk_put' (blk_put' HE.out 1 _) 7 _)
          have HF1 := Aside0.mk (show BF bb [] W1 by rw [hW1]; exact BF.clear (BF.far (BF.far HF.out C.e4.symm _) C.e4.symm _))
          have HW1 := Aside0.mk (show WR bw wb d N (lo1 + 1) (num L2) (8 * L2.length) W1 by rw [hW1]; exact WR.far (WR.far W2.out C.e1.symm C.e2.symm C.e3.symm _) C.e1.symm C.e2.symm C.e3.symm _)
          have HB1 := Aside0.mk (show Below Bs w W1 by rw [hW1]; exact (HB.out.setCell C.b1 _).setCell C.b1 _)
          have HK1 := Aside0.mk (show Kept w W1 (SE re bb bw d) by rw [hW1]; exact Kept.setCell (Kept.setCell HK.out (.inl (.inl rfl)) _) (.inl (.inl rfl)) _)
          rw [← hW1]
          clear hW1 y5 y0 y6 y7 z7 y1 z1 HE HF HB HK HW W2
          have y0 : W1.cell? ⟨re, 0, none⟩ = some (.pointer (some ⟨bw, 0, none⟩)) := (cell_of_row' HE1.out 0).trans rfl
          have y6 : W1.cell? ⟨re, 6, none⟩ = some (.int .i64 lo1) := (cell_of_row' HE1.out 6).trans rfl
          have HC := Aside0.mk (fun q => bwWriteAt C.P (HW1.out.drewN q) ⟨re, 7, none⟩ lo1 ((2 * g + 1 : Nat) : Int) (by omega) (by omega) (by omega) hz3.out ((cell_of_row' (show (W1.drewN q).heap[re]? = _ from HE1.out) 7).trans rfl) C.e3)
          go_region_with (go_at_call 57; (first | refine Calls.mono (HC.out 0) ?_ | refine Calls.mono (HC.out _) ?_); rintro e w3 ⟨rfl, S3, b3, k3⟩; have E3 := EC.kept HE1.out (show Kept W1 w3 _ from k3) (by have := C.e3; omega); have z5 : w3.cell? ⟨re, 5, none⟩ = some (.int .i32 lc) := (cell_of_row' E3 5).trans rfl; have z6 : w3.cell? ⟨re, 6, none⟩ = some (.int .i64 lo1) := (cell_of_row' E3 6).trans rfl; have x5 := blk_frozen' E3 5; have x6 := blk_frozen' E3 6; have E3' := Aside0.mk E3; have S3' := Aside0.mk S3; have b3' := Aside0.mk b3; have k3' := Aside0.mk k3; clear E3 S3 b3 k3)
          all_goals
            go_wp2
            go_ret
            refine ⟨rfl, ?_, ((HB1.out.trans ((show Below Bs W1 (W1.drewN _) from pw_below_drewN (Below.refl _ _) _).trans b3'.out)).setCell C.b1 _).setCell C.b1 _, Kept.setCell (Kept.setCell (Kept.then_ HK1.out (show Kept W1 w3 _ from k3'.out) (fun k hk => .inl (by unfold SE; omega))) (.inl (.inl rfl)) _) (.inl (.inl rfl)) _⟩
            unfold FL
            rw [if_pos rfl, ← HG.out, ← HL2.out]
            refine ⟨⟨((2 * g + 1 : Nat) : Int), blk_put' (blk_put' E3'.out 6 _) 5 _⟩, BF.far (BF.far (BF.kept HF1.out (show Kept W1 w3 _ from k3'.out) (by have := C.f3; omega)) C.e4.symm _) C.e4.symm _, ?_, hB2.set _ (by omega) (by omega)⟩
            rw [List.length_set, hns.out, show ((-1 : Int) + 1).toNat = 0 from rfl]
            exact WR.less (WR.far (WR.far S3'.out C.e1.symm C.e2.symm C.e3.symm _) C.e1.symm C.e2.symm C.e3.symm _) (Nat.zero_le _)
end

end Go.Proofs.Ytmlfgolmdeignaa.Pk
