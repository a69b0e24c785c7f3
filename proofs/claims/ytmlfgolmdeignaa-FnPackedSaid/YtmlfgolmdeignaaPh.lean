/- FnPacked: what the writer's steps write is what the reference's steps write. -/
import Derived.Test.YtmlfgolmdeignaaPg
namespace Go.Proofs.Ytmlfgolmdeignaa.Pk
open Go.RowKit Go.IntWalk Go.Proofs.YtmlfgolmdeignaaW.PrintWords Go.Proofs.YtmlfgolmdeignaaW.PrintLast Go.Proofs.YtmlfgolmdeignaaW.PrintMore
attribute [local go_sem] max2_int min2_int max_two min_two max_three min_three max_four min_four
set_option linter.unusedVariables false
set_option linter.unusedSimpArgs false
theorem ofInt_mod {x y : Int} (h : x % 18446744073709551616 = y % 18446744073709551616) : BitVec.ofInt 64 x = BitVec.ofInt 64 y := by
  apply BitVec.eq_of_toNat_eq
  rw [BitVec.toNat_ofInt, BitVec.toNat_ofInt]
  congr 1
theorem zz_u64 (i : Int) : bits .xor .u64 (IntKind.u64.wrap ((IntKind.u64.wrap i) * 2)) (IntKind.u64.wrap (i / 9223372036854775808)) = zz i := by
  unfold zz
  show IntKind.u64.wrap ((BitVec.ofInt 64 (IntKind.u64.wrap ((IntKind.u64.wrap i) * 2)) ^^^ BitVec.ofInt 64 (IntKind.u64.wrap (i / 9223372036854775808))).toNat : Int) = IntKind.u64.wrap (IntKind.i64.wrap ((BitVec.ofInt 64 (wrap64 (i * 2)) ^^^ BitVec.ofInt 64 (i / 9223372036854775808)).toNat : Int))
  rw [ofInt_mod (x := IntKind.u64.wrap ((IntKind.u64.wrap i) * 2)) (y := wrap64 (i * 2)) (by rw [IntKind.wrap_u64, IntKind.wrap_u64]; unfold wrap64; omega), ofInt_mod (x := IntKind.u64.wrap (i / 9223372036854775808)) (y := i / 9223372036854775808) (by rw [IntKind.wrap_u64]; omega)]
  rw [IntKind.wrap_u64, IntKind.wrap_u64, IntKind.wrap_i64]
  omega
theorem zigRef (i : Int) (W : World) (h1 : -9223372036854775808 ≤ i) (h2 : i ≤ 9223372036854775807) : Calls Try.prog 31 #[.int .i64 i] W fun e w' => e = .returned (.int .u64 (zz i)) ∧ W = w' := by
  have h := Aside0.mk (zz_u64 i)
  go_enter Try.func31, Try.ntmps31
  go_wp2
  go_ret
  exact ⟨by rw [← h.out]; rfl, rfl⟩
theorem u8_nat (x : Nat) : ((x.toUInt8).toNat : Int) = ((x % 256 : Nat) : Int) := by simp
theorem uv_small {x : Nat} (h : x < 128) : uv x = [(x : Int)] := by
  unfold uv
  rw [Go.Lib.uvarint_small h, List.map_cons, List.map_nil, u8_nat, Nat.mod_eq_of_lt (by omega)]
theorem uv_big {x : Nat} (h : 128 ≤ x) : uv x = ((x % 128 + 128 : Nat) : Int) :: uv (x / 128) := by
  unfold uv
  rw [Go.Lib.uvarint_big h, List.map_cons, u8_nat, Nat.mod_eq_of_lt (by omega)]
/-- No more than a fold's end. -/
theorem stepW_le {s s' : Nat × Nat} {op num wd : Int} (h : stepW s op num wd = some s') : s.2 ≤ s'.2 := by
  have hw := wh_le s.2
  have key : ∀ (c : Prop) [Decidable c] (a : Nat × Nat), s.2 ≤ a.2 → (if c then some a else none) = some s' → s.2 ≤ s'.2 := fun c _ a ha he => by
    by_cases hc : c
    · rw [if_pos hc] at he
      injection he with he
      rw [← he]
      exact ha
    · rw [if_neg hc] at he
      cases he
  have key2 : ∀ a : Nat × Nat, s.2 ≤ a.2 → some a = some s' → s.2 ≤ s'.2 := fun a ha he => by
    injection he with he
    rw [← he]
    exact ha
  unfold stepW at h
  by_cases o0 : op = 0
  · rw [if_pos o0] at h
    exact key _ _ (by show s.2 ≤ s.2 + _; omega) h
  rw [if_neg o0] at h
  by_cases o1 : op = 1
  · rw [if_pos o1] at h
    exact key _ _ (by show s.2 ≤ wh s.2 + _; omega) h
  rw [if_neg o1] at h
  by_cases o2 : op = 2
  · rw [if_pos o2] at h
    exact key2 _ (by show s.2 ≤ wh s.2 + _; omega) h
  rw [if_neg o2] at h
  by_cases o3 : op = 3
  · rw [if_pos o3] at h
    exact key2 _ (by show s.2 ≤ wh s.2 + _; omega) h
  rw [if_neg o3] at h
  by_cases o4 : op = 4
  · rw [if_pos o4] at h
    exact key2 _ (by show s.2 ≤ wh s.2; omega) h
  rw [if_neg o4] at h
  by_cases o5 : op = 5
  · rw [if_pos o5] at h
    exact key _ _ (by show s.2 ≤ wh s.2 + _; omega) h
  rw [if_neg o5] at h
  cases h
theorem foldW_le : ∀ {l : List (Int × Int × Int)} {s e : Nat × Nat}, foldW s l = some e → s.2 ≤ e.2
  | [], s, e, h => by
    injection h with h
    rw [h]
    exact Nat.le_refl _
  | x :: r, s, e, h => by
    obtain ⟨s', h1, h2⟩ := Option.bind_eq_some_iff.1 h
    exact Nat.le_trans (stepW_le h1) (foldW_le h2)
/-- A writer's state and the reference's agree. -/
def Agree (N : Nat) (s : Ps) (q : Nat × Nat) : Prop := Rel s.D s.o s.t s.B q.1 q.2 ∧ s.D.length = N
theorem Agree.flush {N : Nat} {s : Ps} {q : Nat × Nat} (h : Agree N s q) (hN : (wh q.2 + 7) / 8 ≤ N) : Agree N s.fl (q.1, wh q.2) ∧ 8 * s.fl.o = wh q.2 ∧ s.fl.o ≤ N := by
  obtain ⟨hr, hl⟩ := h
  have e := hr.at_
  have e2 : s.o + (s.t + 7) / 8 ≤ s.D.length := by rw [hl]; unfold wh at hN; omega
  have h1 := hr.flush e2
  have e3 : 8 * (s.o + (s.t + 7) / 8) = wh q.2 := by unfold wh; omega
  rw [e3] at h1
  refine ⟨⟨h1, ?_⟩, e3, by rw [← hl]; exact e2⟩
  show (over s.D s.o (low ((s.t + 7) / 8) s.B)).length = N
  rw [over_len (by rw [low_len]; exact e2)]
  exact hl
theorem Agree.laid {N : Nat} {s : Ps} {q : Nat × Nat} (h : Agree N s q) (P : List Int) (hP : Bytes P) (hN : (wh q.2 + 8 * P.length + 7) / 8 ≤ N) : s.fl.o + P.length ≤ N ∧ Agree N ⟨over s.fl.D s.fl.o P, s.fl.o + P.length, 0, 0⟩ (q.1 + num P * 2 ^ wh q.2, wh q.2 + 8 * P.length) := by
  obtain ⟨⟨h1, h2⟩, h3, h4⟩ := h.flush (by omega)
  have h5 : s.fl.o + P.length ≤ s.fl.D.length := by rw [h2]; omega
  refine ⟨by rw [← h2]; exact h5, Rel.lay (o := s.fl.o) h1 hP h5, ?_⟩
  show (over s.fl.D s.fl.o P).length = N
  rw [over_len h5]
  exact h2
theorem step_agree {N : Nat} {s : Ps} {q q' : Nat × Nat} {op num wd : Int} (h : Agree N s q) (hr : Rng (op, num, wd)) (hst : stepW q op num wd = some q') (hN : (q'.2 + 7) / 8 ≤ N) : ∃ s', stepF N s op num wd = some s' ∧ Agree N s' q' := by
  obtain ⟨g1, g2, g3, g4⟩ := hr
  simp only at g1 g2 g3 g4
  unfold stepW at hst
  by_cases o0 : op = 0
  · rw [if_pos o0] at hst
    by_cases hc : 1 ≤ wd ∧ wd ≤ 64 ∧ num.toNat < 2 ^ wd.toNat
    · rw [if_pos hc] at hst
      injection hst with hst
      subst hst
      obtain ⟨c1, c2, c3⟩ := hc
      obtain ⟨hrel, hl⟩ := h
      have e := hrel.at_
      simp only at hN
      unfold stepF
      rw [if_pos o0, if_pos ⟨by omega, c2, g1, c3⟩]
      by_cases ht : s.t + wd.toNat < 64
      · rw [if_pos ht]
        exact ⟨_, rfl, hrel.stay _ _ c3 ht, hl⟩
      · have ho : s.o + 8 ≤ N := by omega
        rw [if_neg ht, if_pos ho]
        exact ⟨_, rfl, hrel.full _ _ c3 (by omega) (by omega) (by rw [hl]; exact ho), by show (over s.D s.o (low 8 _)).length = N; rw [over_len (by rw [low_len, hl]; exact ho)]; exact hl⟩
    · rw [if_neg hc] at hst
      cases hst
  rw [if_neg o0] at hst
  by_cases o1 : op = 1
  · rw [if_pos o1] at hst
    by_cases hc : 1 ≤ wd ∧ wd ≤ 8 ∧ num.toNat < 2 ^ (8 * wd.toNat)
    · rw [if_pos hc] at hst
      injection hst with hst
      subst hst
      obtain ⟨c1, c2, c3⟩ := hc
      have hlw := low_len wd.toNat num.toNat
      obtain ⟨h1, h2⟩ := h.laid (low wd.toNat num.toNat) (low_bytes _ _) (by rw [hlw]; exact hN)
      rw [hlw] at h1 h2
      rw [num_low, Nat.mod_eq_of_lt (by rw [p256]; exact c3)] at h2
      unfold stepF
      rw [if_neg o0, if_pos o1, if_pos ⟨by omega, c2, g1, g2, h1⟩]
      exact ⟨_, rfl, h2⟩
    · rw [if_neg hc] at hst
      cases hst
  rw [if_neg o1] at hst
  by_cases o2 : op = 2
  · rw [if_pos o2] at hst
    injection hst with hst
    subst hst
    obtain ⟨h1, h2⟩ := h.laid (uv num.toNat) (uv_bytes _) hN
    unfold stepF
    rw [if_neg o0, if_neg o1, if_pos o2, if_pos ⟨g1, g2, h1⟩]
    exact ⟨_, rfl, h2⟩
  rw [if_neg o2] at hst
  by_cases o3 : op = 3
  · rw [if_pos o3] at hst
    injection hst with hst
    subst hst
    obtain ⟨h1, h2⟩ := h.laid (uv (zz (wrap64 num)).toNat) (uv_bytes _) hN
    unfold stepF
    rw [if_neg o0, if_neg o1, if_neg o2, if_pos o3, if_pos h1]
    exact ⟨_, rfl, h2⟩
  rw [if_neg o3] at hst
  by_cases o4 : op = 4
  · rw [if_pos o4] at hst
    injection hst with hst
    subst hst
    obtain ⟨h1, h2, h3⟩ := h.flush hN
    unfold stepF
    rw [if_neg o0, if_neg o1, if_neg o2, if_neg o3, if_pos o4, if_pos h3]
    exact ⟨_, rfl, h1⟩
  rw [if_neg o4] at hst
  by_cases o5 : op = 5
  · rw [if_pos o5] at hst
    by_cases hc : 0 ≤ wd ∧ wd ≤ 20
    · rw [if_pos hc] at hst
      injection hst with hst
      subst hst
      simp only at hN
      obtain ⟨⟨h1, h2⟩, h3, h4⟩ := h.flush (by have := wh_le q.2; omega)
      have h5 : s.fl.o + wd.toNat ≤ N := by omega
      unfold stepF
      rw [if_neg o0, if_neg o1, if_neg o2, if_neg o3, if_neg o4, if_pos o5, if_pos ⟨hc.1, h5⟩]
      exact ⟨_, rfl, Rel.skip (o := s.fl.o) h1 wd.toNat (by rw [h2]; exact h5), h2⟩
    · rw [if_neg hc] at hst
      cases hst
  rw [if_neg o5] at hst
  cases hst
theorem fold_agree {N : Nat} : ∀ {l : List (Int × Int × Int)} {s : Ps} {q e : Nat × Nat}, Agree N s q → (∀ x ∈ l, Rng x) → foldW q l = some e → (e.2 + 7) / 8 ≤ N → ∃ s', foldF N s l = some s' ∧ Agree N s' e
  | [], s, q, e, h, _, hf, _ => by
    injection hf with hf
    subst hf
    exact ⟨s, rfl, h⟩
  | x :: r, s, q, e, h, hr, hf, hN => by
    obtain ⟨q', h1, h2⟩ := Option.bind_eq_some_iff.1 hf
    have hle := foldW_le h2
    obtain ⟨s', h3, h4⟩ := step_agree (op := x.1) (num := x.2.1) (wd := x.2.2) h (hr x List.mem_cons_self) h1 (by omega)
    obtain ⟨s'', h5, h6⟩ := fold_agree h4 (fun y hy => hr y (List.mem_cons_of_mem _ hy)) h2 hN
    exact ⟨s'', by show (stepF N s x.1 x.2.1 x.2.2).bind _ = _; rw [h3]; exact h5, h6⟩
theorem pack_law {N : Nat} {l : List (Int × Int × Int)} {q : Nat × Nat} (hr : ∀ x ∈ l, Rng x) (hf : foldW (0, 0) l = some q) (hN : (q.2 + 7) / 8 ≤ N) :
    ∃ s, foldF N ⟨List.replicate N 0, 0, 0, 0⟩ l = some s ∧ s.fl.o = (q.2 + 7) / 8 ∧ s.fl.o ≤ N ∧ s.fl.D = low ((q.2 + 7) / 8) q.1 ++ List.replicate (N - (q.2 + 7) / 8) 0 := by
  have h0 : Agree N ⟨List.replicate N 0, 0, 0, 0⟩ (0, 0) := ⟨⟨Bytes.zeros N, Nat.zero_le _, by rw [num_zeros]; exact Nat.one_pos, Nat.zero_lt_succ _, Nat.one_pos, by rw [num_zeros]; rfl, rfl⟩, by simp⟩
  obtain ⟨s, h1, h2⟩ := fold_agree h0 hr hf hN
  obtain ⟨⟨h3, h4⟩, h5, h6⟩ := h2.flush (by have := (wh_le q.2).2.2; omega)
  have hw : wh q.2 = 8 * ((q.2 + 7) / 8) := by unfold wh; omega
  have ho : s.fl.o = (q.2 + 7) / 8 := by omega
  refine ⟨s, h1, ho, h6, ?_⟩
  have hall := h3.all
  have hz := h3.zero
  have hX : q.1 = num s.fl.D := by
    have : s.fl.B = 0 := rfl
    rw [this, Nat.mul_zero, Nat.add_zero] at hall
    exact hall
  have := is_over (D := s.fl.D) (W := low ((q.2 + 7) / 8) q.1) h3.bytes (low_bytes _ _) (by rw [low_len, h4, ← ho]; exact h6) (by rw [num_low, Nat.mod_eq_of_lt (by rw [← ho, hX]; exact hz), hX])
  rw [low_len, h4] at this
  exact this
theorem writtenLong (A : Option Addr) (c n : Nat) (h : 200 < n) (h2 : n ≤ 9223372036854775807) (w : World) :
    Calls Try.prog 8 #[.slice A n c] w fun e w' => ∃ v0_ : Value, e = .returned (.tuple #[v0_, .bool false]) ∧ Kd.R (Kd.int .u8) 5 w' w.heap.size (fun _ => True) v0_ [] ∧ Below w.heap.size w w' := by
  have h' : (200 : Int) < (n : Int) := by omega
  have HR := Aside0.mk (fun W => Kd.R_nil (Kd.int .u8) 5 W w.heap.size (fun _ => True))
  go_enter Try.func8, Try.ntmps8
  go_wp2
  go_ret2
  exact ⟨_, rfl, HR.out _, below_alloc (Below.refl _ _) _⟩
theorem or128 (x : Nat) : x % 256 ||| 128 = x % 128 + 128 := by
  have h : ∀ y, y < 128 → 128 + y = 128 ||| y := fun y hy => by
    have := Nat.two_pow_add_eq_or_of_lt (i := 7) (b := y) hy 1
    simpa using this
  have hm : x % 128 < 128 := Nat.mod_lt _ (by decide)
  by_cases hc : x % 256 < 128
  · have e : x % 256 = x % 128 := by omega
    rw [e, Nat.or_comm, ← h _ hm, Nat.add_comm]
  · have e : x % 256 = 128 + x % 128 := by omega
    rw [e, h _ hm, Nat.or_comm, ← Nat.or_assoc, Nat.or_self, ← h _ hm, Nat.add_comm]
instance (x : Int × Int × Int) : Decidable (Rng x) := by unfold Rng; exact inferInstance

end Go.Proofs.Ytmlfgolmdeignaa.Pk
