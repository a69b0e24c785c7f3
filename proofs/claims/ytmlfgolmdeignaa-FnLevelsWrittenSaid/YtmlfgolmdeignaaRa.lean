/- The writer of bits, told by the number that its bits are. -/
import Derived.Test.YtmlfgolmdeignaaPg
namespace Go.Proofs.Ytmlfgolmdeignaa.Pk
open Go.RowKit Go.IntWalk Go.Proofs.YtmlfgolmdeignaaW.PrintWords Go.Proofs.YtmlfgolmdeignaaW.PrintLast Go.Proofs.YtmlfgolmdeignaaW.PrintMore
attribute [local go_sem] max2_int min2_int max_two min_two max_three min_three max_four min_four
set_option linter.unusedVariables false
set_option linter.unusedSimpArgs false
theorem num_get : ∀ {l : List Int}, Bytes l → ∀ {p : Nat} (hp : p < l.length), num l / 256 ^ p % 256 = l[p].toNat
  | [], _, p, hp => by simp at hp
  | x :: r, h, 0, _ => by
    have hx := h x List.mem_cons_self
    rw [num_cons, Nat.pow_zero, Nat.div_one, List.getElem_cons_zero]
    omega
  | x :: r, h, p + 1, hp => by
    have hx := h x List.mem_cons_self
    have ih := num_get h.tail (p := p) (by simpa using hp)
    rw [num_cons, List.getElem_cons_succ, Nat.pow_succ, Nat.mul_comm (256 ^ p) 256, ← Nat.div_div_eq_div_mul, show (x.toNat + 256 * num r) / 256 = num r by omega]
    exact ih
theorem num_set : ∀ {l : List Int} {p : Nat} (hp : p < l.length) (b : Int), num (l.set p b) + l[p].toNat * 256 ^ p = num l + b.toNat * 256 ^ p
  | [], p, hp, _ => by simp at hp
  | x :: r, 0, _, b => by
    rw [List.set_cons_zero, num_cons, num_cons, List.getElem_cons_zero, Nat.pow_zero]
    omega
  | x :: r, p + 1, hp, b => by
    have ih := num_set (l := r) (p := p) (by simpa using hp) b
    rw [List.set_cons_succ, num_cons, num_cons, List.getElem_cons_succ, Nat.pow_succ, Nat.mul_comm (256 ^ p) 256, Nat.mul_left_comm, Nat.mul_left_comm b.toNat]
    omega
theorem over_set {D : List Int} {p : Nat} (hp : p < D.length) (b : Int) : over D p [b] = D.set p b := by
  unfold over
  rw [List.set_eq_take_append_cons_drop, if_pos hp]
  simp
theorem Bytes.set {l : List Int} (h : Bytes l) (p : Nat) {b : Int} (h0 : 0 ≤ b) (h1 : b < 256) : Bytes (l.set p b) := fun x hx => by
  rcases List.mem_or_eq_of_mem_set hx with h2 | rfl
  · exact h x h2
  · exact ⟨h0, h1⟩
/-- A writer in memory whose bits are the number X of n; m bytes of them at least are laid. -/
def WR (bw wb d N m X n : Nat) (w : World) : Prop := ∃ D o t B, Wr bw wb d N D o t B w ∧ Rel D o t B X n ∧ m ≤ o
theorem WR.below {bw wb d N m X n : Nat} {w w' : World} (S : WR bw wb d N m X n w) (h : Below w.heap.size w w') : WR bw wb d N m X n w' := by
  obtain ⟨D, o, t, B, h1, h2, h3⟩ := S
  exact ⟨D, o, t, B, Wr.below h1 h, h2, h3⟩
theorem WR.less {bw wb d N m m' X n : Nat} {w : World} (S : WR bw wb d N m X n w) (h : m' ≤ m) : WR bw wb d N m' X n w := by
  obtain ⟨D, o, t, B, h1, h2, h3⟩ := S
  exact ⟨D, o, t, B, h1, h2, Nat.le_trans h h3⟩
theorem Wr.kept {bw wb d n : Nat} {D : List Int} {o t B : Nat} {w w' : World} {S : Nat → Prop} (h : Wr bw wb d n D o t B w) (k : Kept w w' S) (h1 : ¬ S bw) (h2 : ¬ S wb) (h3 : ¬ S d) : Wr bw wb d n D o t B w' := by
  obtain ⟨⟨R, U, hR, hU, hW⟩, hV, hRow, hlen⟩ := h
  exact ⟨⟨R, U, hR, hU, blk_kept hW k h1⟩, blk_kept hV k h2, blk_kept hRow k h3, hlen⟩
theorem WR.kept {bw wb d N m X n : Nat} {w w' : World} {S : Nat → Prop} (h : WR bw wb d N m X n w) (k : Kept w w' S) (h1 : ¬ S bw) (h2 : ¬ S wb) (h3 : ¬ S d) : WR bw wb d N m X n w' := by
  obtain ⟨D, o, t, B, e1, e2, e3⟩ := h
  exact ⟨D, o, t, B, e1.kept k h1 h2 h3, e2, e3⟩
theorem lt64 {t B : Nat} (h : B < 2 ^ t) (ht : t < 64) : B < 18446744073709551616 := Nat.lt_of_lt_of_le h (Nat.le_trans (Nat.pow_le_pow_right (by decide) (Nat.le_of_lt ht)) (by decide))
section
variable {bw wb d N Bs m X n : Nat} {w : World}
theorem WR.value (C : Pl bw wb d N Bs) (S : WR bw wb d N m X n w) (v k : Nat) (hv : v < 2 ^ k) (hk : k ≤ 64) (hfit : (n + k + 7) / 8 ≤ N) :
    Calls Try.prog 22 #[.pointer (some ⟨bw, 0, none⟩), .int .u64 v, .int .u64 k] w fun e w' => e = .returned (.nilIface) ∧ WR bw wb d N m (X + v * 2 ^ n) (n + k) w' ∧ Below Bs w w' ∧ Kept w w' (fun k => k = bw ∨ k = d) := by
  obtain ⟨D, o, t, B, h1, h2, h3⟩ := S
  have ha := h2.at_
  by_cases ht : t + k < 64
  · exact (value_stay C h1 v k h2.bits h2.buf hv ht).mono fun e w' ⟨a, b, c, f⟩ => ⟨a, ⟨D, o, _, _, b, h2.stay v k hv ht, h3⟩, c, f⟩
  · have ho : o + 8 ≤ N := by omega
    exact (value_full C h1 v k h2.bits h2.buf (Nat.lt_of_lt_of_le hv (Nat.le_trans (Nat.pow_le_pow_right (by decide) hk) (by decide))) hk (by omega) ho).mono fun e w' ⟨a, b, c, f⟩ =>
      ⟨a, ⟨_, _, _, _, b, h2.full v k hv hk (by omega) (by rw [h1.len]; exact ho), Nat.le_trans h3 (Nat.le_add_right _ _)⟩, c, f⟩
theorem wh8 {o t n : Nat} (h : n = 8 * o + t) : 8 * (o + (t + 7) / 8) = wh n := by unfold wh; omega
theorem WR.aligned (C : Pl bw wb d N Bs) (S : WR bw wb d N m X n w) (v k : Nat) (hv : v < 2 ^ (8 * k)) (hk0 : 0 < k) (hk : k ≤ 8) (hfit : wh n + 8 * k ≤ 8 * N) :
    Calls Try.prog 23 #[.pointer (some ⟨bw, 0, none⟩), .int .u64 v, .int .i64 k] w fun e w' => e = .returned (.bool true) ∧ WR bw wb d N m (X + v * 2 ^ wh n) (wh n + 8 * k) w' ∧ Below Bs w w' ∧ Kept w w' (fun k => k = bw ∨ k = d) := by
  obtain ⟨D, o, t, B, h1, h2, h3⟩ := S
  have e := wh8 h2.at_
  have hf := h2.flush (by rw [h1.len]; omega)
  have hl : (over D o (low ((t + 7) / 8) B)).length = N := by rw [over_len (by rw [low_len, h1.len]; omega), h1.len]
  have h4 := hf.lay (P := low k v) (low_bytes _ _) (by rw [low_len, hl]; omega)
  rw [low_len, num_low, Nat.mod_eq_of_lt (by rw [p256]; exact hv), e] at h4
  exact (Pk.aligned C h1 v k h2.bits (lt64 h2.buf h2.bits) (Nat.lt_of_lt_of_le hv (Nat.le_trans (Nat.pow_le_pow_right (by decide) (show 8 * k ≤ 64 by omega)) (by decide))) hk0 hk _ _ rfl rfl (by omega)).mono fun _ _ ⟨a, b, c, f⟩ => ⟨a, ⟨_, _, _, _, b, h4, by omega⟩, c, f⟩
theorem WR.vlq (C : Pl bw wb d N Bs) (S : WR bw wb d N m X n w) (x : Nat) (hx : x < 18446744073709551616) (hfit : wh n + 8 * (uv x).length ≤ 8 * N) :
    Calls Try.prog 24 #[.pointer (some ⟨bw, 0, none⟩), .int .u64 x] w fun e w' => e = .returned (.bool true) ∧ WR bw wb d N m (X + num (uv x) * 2 ^ wh n) (wh n + 8 * (uv x).length) w' ∧ Below Bs w w' ∧ Kept w w' (fun k => k = bw ∨ k = d) := by
  obtain ⟨D, o, t, B, h1, h2, h3⟩ := S
  have e := wh8 h2.at_
  have hf := h2.flush (by rw [h1.len]; omega)
  have hl : (over D o (low ((t + 7) / 8) B)).length = N := by rw [over_len (by rw [low_len, h1.len]; omega), h1.len]
  have h4 := hf.lay (P := uv x) (uv_bytes _) (by rw [hl]; omega)
  rw [e] at h4
  exact (Pk.vlq C h1 x h2.bits (lt64 h2.buf h2.bits) hx _ _ rfl rfl (by omega)).mono fun _ _ ⟨a, b, c, f⟩ => ⟨a, ⟨_, _, _, _, b, h4, by omega⟩, c, f⟩
theorem WR.skip1 (C : Pl bw wb d N Bs) (S : WR bw wb d N m X n w) (hfit : wh n + 8 ≤ 8 * N) :
    Calls Try.prog 27 #[.pointer (some ⟨bw, 0, none⟩), .int .i64 1] w fun e w' => e = .returned (.tuple #[.int .i64 ((wh n / 8 : Nat) : Int), .nilIface]) ∧ WR bw wb d N (wh n / 8 + 1) X (wh n + 8) w' ∧ Below Bs w w' ∧ Kept w w' (fun k => k = bw ∨ k = d) := by
  obtain ⟨D, o, t, B, h1, h2, h3⟩ := S
  have e := wh8 h2.at_
  have e2 : o + (t + 7) / 8 = wh n / 8 := by omega
  have hf := h2.flush (by rw [h1.len]; omega)
  have hl : (over D o (low ((t + 7) / 8) B)).length = N := by rw [over_len (by rw [low_len, h1.len]; omega), h1.len]
  have h4 := hf.skip 1 (by rw [hl]; omega)
  rw [e, e2] at h4
  have h5 := Pk.skip C h1 1 h2.bits (lt64 h2.buf h2.bits) _ _ rfl e2.symm (by omega)
  exact h5.mono fun _ _ ⟨a, b, c, f⟩ => ⟨a, ⟨_, _, _, _, b, h4, Nat.le_refl _⟩, c, f⟩
/-- A byte that was left out is laid. -/
theorem Rel.at {D : List Int} {o t B X n : Nat} (h : Rel D o t B X n) {p : Nat} (hp : p < o) {b : Int} (h0 : 0 ≤ b) (h1 : b < 256) (hz : X / 256 ^ p % 256 = 0) : Rel (over D p [b]) o t B (X + b.toNat * 256 ^ p) n := by
  have hpl : p < D.length := Nat.lt_of_lt_of_le hp h.room
  have hd : D[p].toNat = 0 := by
    rw [← num_get h.bytes hpl, ← hz, h.all]
    obtain ⟨q, rfl⟩ : ∃ q, o = p + 1 + q := ⟨o - p - 1, by omega⟩
    rw [Nat.pow_add, Nat.pow_succ, Nat.mul_assoc, Nat.mul_assoc, Nat.add_mul_div_left _ _ (Nat.pow_pos (by decide)), Nat.mul_comm 256, Nat.add_mul_mod_self_right]
  have hs := num_set hpl b
  rw [hd, Nat.zero_mul, Nat.add_zero] at hs
  rw [over_set hpl]
  refine ⟨h.bytes.set p h0 h1, by rw [List.length_set]; exact h.room, ?_, h.bits, h.buf, by rw [hs, h.all]; omega, h.at_⟩
  have e := num_split (D.set p b) o (by rw [List.length_set]; exact h.room)
  have e2 := num_split D o h.room
  rw [List.drop_set_of_lt hp] at e
  have h3 : num (D.drop o) = 0 := by
    rcases Nat.eq_zero_or_pos (num (D.drop o)) with hh | hh
    · exact hh
    · have := Nat.mul_le_mul_left (256 ^ o) hh
      have := h.zero
      omega
  rw [h3, Nat.mul_zero, Nat.add_zero] at e
  rw [e]
  have hb : Bytes ((D.set p b).take o) := (h.bytes.set p h0 h1).take o
  have := num_lt hb
  rw [List.length_take, List.length_set, Nat.min_eq_left h.room] at this
  exact this
set_option maxHeartbeats 8000000 in
set_option maxRecDepth 100000 in
theorem bwWriteAt (C : Pl bw wb d N Bs) (S : WR bw wb d N m X n w) (A : Addr) (p : Nat) (b : Int) (h0 : 0 ≤ b) (h1 : b < 256) (hp : p < m) (hz : X / 256 ^ p % 256 = 0) (hc : w.cell? A = some (.int .u8 b)) (hAd : A.block ≠ d) :
    Calls Try.prog 57 #[.pointer (some ⟨bw, 0, none⟩), .slice (some A) 1 1, .int .i64 p] w fun e w' => e = .returned (.tuple #[.int .i64 1, .nilIface]) ∧ WR bw wb d N m (X + b.toNat * 256 ^ p) n w' ∧ Below Bs w w' ∧ Kept w w' (fun k => k = d) := by
  obtain ⟨D, o, t, B, hw, hr, hm⟩ := S
  have hroom := hr.room
  have hr2 := hr.at (p := p) (by omega) h0 h1 hz
  have hlen := hw.len
  obtain ⟨⟨R, U, hR, hU, hW⟩, hV, hRow, -⟩ := hw
  have c0 : w.cell? ⟨bw, 0, none⟩ = some (.iface 92 (.pointer (some ⟨wb, 0, none⟩))) := (cell_of_row' hW 0).trans rfl
  have na := nil_writeAt
  have ma := method_writeAt
  have HA := Aside0.mk (writeAt wb d N A 1 1 p D [b] w hV hRow hlen C.n4 rfl (by decide) (by omega) (Nat.le_refl 1) (fun j hj => by
    have : j = 0 := by omega
    subst this
    rw [Addr.add_zero']
    exact hc) hAd C.n3 Bs C.b3)
  have HL := Aside0.mk (show (over D p [b]).length = N by rw [over_len (by rw [hlen]; show p + 1 ≤ N; omega), hlen])
  have HR2 := Aside0.mk hr2
  have HW := Aside0.mk hW
  have HV := Aside0.mk hV
  clear hr hr2 hW hV hRow hlen hz hc
  go_enter Try.func57, Try.ntmps57
  go_wp2_with (go_at_call 77; refine Calls.mono HA.out ?_; rintro e w1 ⟨rfl, h1, h2, h3⟩; have h1 := Aside0.mk h1; have h2 := Aside0.mk h2; have h3 := Aside0.mk h3)
  go_ret2
  exact ⟨rfl, ⟨_, o, t, B, ⟨⟨R, U, hR, hU, blk_kept HW.out h3.out C.n2⟩, blk_kept HV.out h3.out C.n3, h1.out, HL.out⟩, HR2.out, hm⟩, h2.out, h3.out⟩
/-- A writer that is flushed: its bytes are the number X. -/
def WF (bw wb d N X n : Nat) (w : World) : Prop := ∃ D o t B, Wr bw wb d N D o t B w ∧ Bytes D ∧ num D = X ∧ n = 8 * o + t ∧ t < 64 ∧ o ≤ N
set_option maxHeartbeats 8000000 in
set_option maxRecDepth 100000 in
theorem flushF (C : Pl bw wb d N Bs) (S : WR bw wb d N m X n w) (hfit : (n + 7) / 8 ≤ N) :
    Calls Try.prog 26 #[.pointer (some ⟨bw, 0, none⟩), .bool false] w fun e w' => e = .returned (.tuple #[]) ∧ WF bw wb d N X n w' ∧ Below Bs w w' ∧ Kept w w' (fun k => k = bw ∨ k = d) := by
  obtain ⟨D, o, t, B, hw, hr, hm⟩ := S
  have ha := hr.at_
  have hw0 := Aside0.mk hw
  have hlen0 := hw.len
  have hfl := hr.flush (by rw [hlen0]; omega)
  have HL := Aside0.mk (show (over D o (low ((t + 7) / 8) B)).length = N by rw [over_len (by rw [low_len, hlen0]; omega), hlen0])
  have HX := Aside0.mk (show num (over D o (low ((t + 7) / 8) B)) = X by have := hfl.all; rw [Nat.mul_zero, Nat.add_zero] at this; exact this.symm)
  have HBy := Aside0.mk hfl.bytes
  have HA := Aside0.mk ha
  have ht := hr.bits
  have hB := lt64 hr.buf hr.bits
  have hfit2 : o + (t + 7) / 8 ≤ N := by omega
  obtain ⟨⟨R, U, hR, hU, hW⟩, hV, hRow, hlen⟩ := hw
  have c3 : w.cell? ⟨bw, 3, none⟩ = some (.int .u64 t) := (cell_of_row' hW 3).trans rfl
  clear hfl hr ha hlen0 hfit
  by_cases h0 : t = 0
  · have h1 : ¬ (0 : Int) < (t : Int) := by omega
    have HX0 := Aside0.mk (show num D = X by
      have := HX.out
      rw [h0] at this
      unfold over low at this
      simpa using this)
    have HBy0 := Aside0.mk (show Bytes D by
      have := HBy.out
      rw [h0] at this
      unfold over low at this
      simpa using this)
    have H0 := Aside0.mk h0
    clear h0 hW hV hRow hlen
    go_enter Try.func26, Try.ntmps26
    go_wp2
    exact ⟨rfl, .tuple #[], by simp [results, Try.results26, go_sem], rfl, ⟨D, o, t, B, hw0.out, HBy0.out, HX0.out, HA.out, ht, by omega⟩, Below.refl _ _, Kept.refl _ _⟩
  · have h1 : (0 : Int) < (t : Int) := by omega
    have c0 : w.cell? ⟨bw, 0, none⟩ = some (.iface 92 (.pointer (some ⟨wb, 0, none⟩))) := (cell_of_row' hW 0).trans rfl
    have c1 : w.cell? ⟨bw, 1, none⟩ = some (.int .u64 B) := (cell_of_row' hW 1).trans rfl
    have c2 : w.cell? ⟨bw, 2, none⟩ = some (.int .i64 o) := (cell_of_row' hW 2).trans rfl
    have hk8 : (t + 7) / 8 ≤ 8 := by omega
    have hk0 : 0 < (t + 7) / 8 := by omega
    obtain ⟨k, hk⟩ : ∃ k, k = (t + 7) / 8 := ⟨_, rfl⟩
    have HK := Aside0.mk hk
    have HP := Aside0.mk (fun q => put64 bw wb B o t R U hR hU B hB (w.drewN q) (blk_drewN hW q) Bs C.b1)
    have HA := Aside0.mk (show ∀ (w1 : World) (q : Nat), w1.heap[bw]? = some (.cells (bwl wb B o t (Go.Lib.byteCells (Go.Lib.leBytes 8 B)) U).toArray 91 (0, 0)) → w1.heap[wb]? = some (.cells #[.slice (some ⟨d, 0, none⟩) N N] 94 (0, 0)) → w1.heap[d]? = some (.cells (rowB D) 5 (0, 0)) →
        Calls Try.prog 77 #[.pointer (some ⟨wb, 0, none⟩), .slice (some ⟨bw, 4, none⟩) k 8, .int .i64 o] (w1.drewN q) fun e w' => e = .returned (.tuple #[.int .i64 k, .nilIface]) ∧ w'.heap[d]? = some (.cells (rowB (over D o (low k B))) 5 (0, 0)) ∧ Below Bs (w1.drewN q) w' ∧ Kept (w1.drewN q) w' (fun k => k = d) from fun w1 q h1 h2 h3 => by
      refine writeAt wb d N ⟨bw, 4, none⟩ k 8 o D (low k B) (w1.drewN q) (blk_drewN h2 q) (blk_drewN h3 q) hlen C.n4 (low_len _ _) (by omega) (by omega) (by omega) (fun j hj => (bw_raw (blk_drewN h1 q) (by omega)).trans (by rw [low_getD j k 8 B hj (by omega)])) C.n2 C.n3 Bs C.b3)
    have HAT : Aside0 (n = 8 * o + t) := by assumption
    rw [← hk] at hk8 hk0 HL HX HBy
    have HV := Aside0.mk hV
    have HRow := Aside0.mk hRow
    clear hk hV hRow hW hlen hw0
    have na := nil_writeAt
    have ma := method_writeAt
    go_enter Try.func26, Try.ntmps26
    go_wp2_with (first | (go_at_call 51; refine Calls.mono (bytesFor t k (by omega) HK.out _) ?_; rintro e w1 ⟨rfl, rfl⟩))
    go_region_with (go_at_call 49; (first | refine Calls.mono (HP.out 0) ?_ | refine Calls.mono (HP.out _) ?_); rintro e w1 ⟨rfl, hw, hb, hk1⟩; have HW1 := Aside0.mk hw; have HB1 := Aside0.mk hb; have HK1 := Aside0.mk hk1; clear hw hb hk1)
    all_goals
      have d0 : w1.cell? ⟨bw, 0, none⟩ = some (.iface 92 (.pointer (some ⟨wb, 0, none⟩))) := (cell_of_row' HW1.out 0).trans rfl
      have d2 : w1.cell? ⟨bw, 2, none⟩ = some (.int .i64 o) := (cell_of_row' HW1.out 2).trans rfl
      have hk8' : ¬ (8 : Int) < (k : Int) := by omega
      have HV1 := Aside0.mk (blk_kept HV.out HK1.out C.n1.symm)
      have HR1 := Aside0.mk (blk_kept HRow.out HK1.out C.n2.symm)
      go_wp2
      go_region_with (go_at_call 77; (first | refine Calls.mono (HA.out w1 0 HW1.out HV1.out HR1.out) ?_ | refine Calls.mono (HA.out w1 _ HW1.out HV1.out HR1.out) ?_); rintro e w2 ⟨rfl, hw, hb, hk2⟩; have HD2 := Aside0.mk hw; have HB2 := Aside0.mk hb; have HK2 := Aside0.mk hk2; clear hw hb hk2)
      all_goals
        have HW2 := Aside0.mk (blk_kept HW1.out HK2.out C.n2)
        have hv2 := Aside0.mk (blk_kept HV1.out HK2.out C.n3)
        have hb2 := Aside0.mk ((show Below Bs w w1 from (show Below Bs w (w.drewN _) from pw_below_drewN (Below.refl _ _) _).trans HB1.out).trans ((show Below Bs w1 (w1.drewN _) from pw_below_drewN (Below.refl _ _) _).trans HB2.out))
        go_wp2
        refine ⟨rfl, .tuple #[], by simp [results, Try.results26, go_sem], rfl, ⟨_, o, t, B, ⟨⟨_, U, by rw [Go.Lib.byteCells_length, leBytes_len'], hU, HW2.out⟩, hv2.out, HD2.out, HL.out⟩, HBy.out, HX.out, HAT.out, ht, by omega⟩, hb2.out, ?_⟩
        exact Kept.then_ (Kept.then_ (Kept.refl w _) (show Kept w w1 _ from HK1.out) (fun k hk => .inl (.inl hk))) (show Kept w1 w2 _ from HK2.out) (fun k hk => .inl (.inr hk))
theorem WF.below {bw wb d N X n : Nat} {w w' : World} (S : WF bw wb d N X n w) (h : Below w.heap.size w w') : WF bw wb d N X n w' := by
  obtain ⟨D, o, t, B, h1, h2⟩ := S
  exact ⟨D, o, t, B, Wr.below h1 h, h2⟩
theorem WF.written (C : Pl bw wb d N Bs) (S : WF bw wb d N X n w) : Calls Try.prog 28 #[.pointer (some ⟨bw, 0, none⟩)] w fun e w' => e = .returned (.int .i64 (((n + 7) / 8 : Nat) : Int)) ∧ ∃ m, w' = w.drewN m := by
  obtain ⟨D, o, t, B, h1, h2, h3, h4, h5, h6⟩ := S
  have hn := C.n4
  have := Pk.written C h1 h5 (by omega)
  rw [show (n + 7) / 8 = o + (t + 7) / 8 by omega]
  exact this
end

end Go.Proofs.Ytmlfgolmdeignaa.Pk
