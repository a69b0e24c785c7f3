/- spec.Written: its steps. -/
import Derived.Test.YtmlfgolmdeignaaPd
import Derived.Test.YtmlfgolmdeignaaPe
namespace Go.Proofs.Ytmlfgolmdeignaa.Pk
open Go.RowKit Go.IntWalk Go.Proofs.YtmlfgolmdeignaaW.PrintWords Go.Proofs.YtmlfgolmdeignaaW.PrintLast Go.Proofs.YtmlfgolmdeignaaW.PrintMore
attribute [local go_sem] max2_int min2_int max_two min_two max_three min_three max_four min_four
set_option linter.unusedVariables false
set_option linter.unusedSimpArgs false
/-- The reference's next whole byte. -/
def wh (n : Nat) : Nat := (n + 7) / 8 * 8
theorem wh_le (n : Nat) : n ≤ wh n ∧ wh n ≤ n + 7 ∧ (wh n + 7) / 8 = (n + 7) / 8 := by unfold wh; omega
theorem Bo.set1 {P : Nat → Prop} {ob base X n : Nat} {w : World} (S : Bo ob base P X n w) (z : Int) (hz : z = (wh n : Nat)) : Bo ob base P X (wh n) (w.setCell ⟨ob, 1, none⟩ (.int .i64 z)) := by
  obtain ⟨⟨v, h1, h2⟩, h3⟩ := S
  obtain ⟨e1, e2, e3⟩ := wh_le n
  refine ⟨⟨v, ?_, ?_⟩, Nat.lt_of_lt_of_le h3 (Nat.pow_le_pow_right (by decide) e1)⟩
  · rw [hz]
    exact blk_put h1 1 _ (by simp)
  · rw [e3]
    exact Kd.R_far h2 (fun k hk => hk.1) _
theorem Bo.below {P : Nat → Prop} {ob base X n : Nat} {w w' : World} (S : Bo ob base P X n w) (h : Below w.heap.size w w') : Bo ob base P X n w' := by
  obtain ⟨⟨v, h1, h2⟩, h3⟩ := S
  exact ⟨⟨v, blk_below h1 h, Kd.R_below h2 h⟩, h3⟩
theorem Bo.drew {P : Nat → Prop} {ob base X n : Nat} {w : World} (S : Bo ob base P X n w) : Bo ob base P X n w.drew := S.below (below_drew (Below.refl _ _))
set_option maxRecDepth 100000 in
theorem whole {ob base : Nat} {P : Nat → Prop} {X n : Nat} {w0 w : World} (S : Bo ob base P X n w) (hb0 : base ≤ ob) (hB : Below base w0 w) (hn : n ≤ 1000000) :
    Calls Try.prog 30 #[.pointer (some ⟨ob, 0, none⟩)] w fun e w' => e = .returned (.tuple #[]) ∧ Bo ob base P X (wh n) w' ∧ Below base w0 w' ∧ Kept w w' (fun k => k = ob ∨ P k) := by
  have HS := Aside0.mk S
  have HB := Aside0.mk hB
  obtain ⟨⟨v, hob, hr⟩, hlt⟩ := S
  have c1 : w.cell? ⟨ob, 1, none⟩ = some (.int .i64 n) := (cell_of_row' hob 1).trans rfl
  have f1 := blk_frozen' hob 1
  clear hob hr hlt hB
  go_enter Try.func30, Try.ntmps30
  go_wp2
  refine ⟨rfl, .tuple #[], by simp [results, Try.results30, go_sem], rfl, ?_⟩
  have hz : ((n : Int) + 7) / 8 * 8 = ((wh n : Nat) : Int) := by unfold wh; omega
  exact ⟨Bo.set1 HS.out _ hz, (HB.out.setCell hb0 _), (Kept.setCell (S := fun k => k = ob ∨ P k) (p := ⟨ob, 1, none⟩) (Kept.refl _ _) (.inl (.inl rfl)) _)⟩
/-- What a step adds to the bits: X the number of n bits. -/
def stepW (s : Nat × Nat) (op num wd : Int) : Option (Nat × Nat) :=
  if op = 0 then (if 1 ≤ wd ∧ wd ≤ 64 ∧ num.toNat < 2 ^ wd.toNat then some (s.1 + num.toNat * 2 ^ s.2, s.2 + wd.toNat) else none)
  else if op = 1 then (if 1 ≤ wd ∧ wd ≤ 8 ∧ num.toNat < 2 ^ (8 * wd.toNat) then some (s.1 + num.toNat * 2 ^ wh s.2, wh s.2 + 8 * wd.toNat) else none)
  else if op = 2 then some (s.1 + Pk.num (uv num.toNat) * 2 ^ wh s.2, wh s.2 + 8 * (uv num.toNat).length)
  else if op = 3 then some (s.1 + Pk.num (uv (zz (wrap64 num)).toNat) * 2 ^ wh s.2, wh s.2 + 8 * (uv (zz (wrap64 num)).toNat).length)
  else if op = 4 then some (s.1, wh s.2)
  else if op = 5 then (if 0 ≤ wd ∧ wd ≤ 20 then some (s.1, wh s.2 + 8 * wd.toNat) else none)
  else none
def foldW : Nat × Nat → List (Int × Int × Int) → Option (Nat × Nat)
  | s, [] => some s
  | s, x :: r => (stepW s x.1 x.2.1 x.2.2).bind fun s' => foldW s' r
def Rng (x : Int × Int × Int) : Prop := 0 ≤ x.2.1 ∧ x.2.1 < 18446744073709551616 ∧ -9223372036854775808 ≤ x.2.2 ∧ x.2.2 ≤ 9223372036854775807
def WPost (w : World) (r : Option (Nat × Nat)) (e : Ending) (w' : World) : Prop :=
  match r with
  | some s => ∃ v : Value, e = .returned (.tuple #[v, .bool true]) ∧ Kd.R (Kd.int .u8) 5 w' w.heap.size (fun _ => True) v (low ((s.2 + 7) / 8) s.1) ∧ Below w.heap.size w w'
  | none => e = .returned (.tuple #[.slice none 0 0, .bool false]) ∧ Below w.heap.size w w'
theorem foldW_drop {s : Nat × Nat} {r : Option (Nat × Nat)} {l : List (Int × Int × Int)} {i : Nat} {x : Int × Int × Int} (h : foldW s (l.drop i) = r) (hx : l[i]? = some x) : (stepW s x.1 x.2.1 x.2.2).bind (fun s' => foldW s' (l.drop (i + 1))) = r := by
  have hlt := (List.getElem?_eq_some_iff.1 hx).1
  rw [List.drop_eq_getElem_cons hlt, (List.getElem?_eq_some_iff.1 hx).2] at h
  exact h
theorem WPost.no {w w' : World} {N : Nat} {r : Option (Nat × Nat)} {o : Option (Nat × Nat)} {f : Nat × Nat → Option (Nat × Nat)} (hN : N = w.heap.size) (hB : Below N w w') (hf : o.bind f = r) (ho : o = none) : WPost w r (.returned (.tuple #[.slice none 0 0, .bool false])) w' := by
  rw [ho] at hf
  rw [← hf]
  exact ⟨rfl, hN ▸ hB⟩
theorem WPost.yes {w w' : World} {N : Nat} {v : Value} {s : Nat × Nat} {r : Option (Nat × Nat)} (hN : N = w.heap.size) (hB : Below N w w') (hf : foldW s [] = r) {P : Nat → Prop} (hr : Kd.R (Kd.int .u8) 5 w' N P v (low ((s.2 + 7) / 8) s.1)) : WPost w r (.returned (.tuple #[v, .bool true])) w' := by
  rw [← hf]
  exact ⟨v, rfl, hN ▸ Kd.R_mono hr (fun _ _ => trivial), hN ▸ hB⟩
theorem Bo.narrow {P Q : Nat → Prop} {ob base X n : Nat} {w : World} (S : Bo ob base P X n w) (h : ∀ k, k < w.heap.size → Q k) : Bo ob base Q X n w := by
  obtain ⟨⟨v, h1, h2⟩, h3⟩ := S
  exact ⟨⟨v, h1, Kd.R_mono (Kd.R_bound h2) (fun k hk => ⟨hk.1.1, h k hk.2.2.1⟩)⟩, h3⟩
theorem Bo.widen {P : Nat → Prop} {ob base X n : Nat} {w : World} (S : Bo ob base P X n w) : Bo ob base (fun _ => True) X n w := by
  obtain ⟨⟨v, h1, h2⟩, h3⟩ := S
  exact ⟨⟨v, h1, Kd.R_mono h2 (fun k hk => ⟨hk.1, trivial⟩)⟩, h3⟩
theorem shr_no {u k : Nat} (h : u < 2 ^ k) : ¬ (0 : Int) < (u : Int) / 2 ^ k := by
  have : (u : Int) / 2 ^ k = ((u / 2 ^ k : Nat) : Int) := by simp
  rw [this, Nat.div_eq_of_lt h]
  decide
theorem shr_yes {u k : Nat} (h : ¬ u < 2 ^ k) : (0 : Int) < (u : Int) / 2 ^ k := by
  have : (u : Int) / 2 ^ k = ((u / 2 ^ k : Nat) : Int) := by simp
  rw [this]
  have := Nat.div_pos (Nat.not_lt.1 h) (Nat.two_pow_pos k)
  omega
theorem stepW0 {s : Nat × Nat} {u k : Nat} (h1 : 1 ≤ k) (h2 : k ≤ 64) (h3 : u < 2 ^ k) : stepW s 0 u k = some (s.1 + u * 2 ^ s.2, s.2 + k) := by
  unfold stepW
  rw [if_pos rfl, if_pos ⟨by omega, by omega, by simpa using h3⟩]
  simp
theorem stepW0n {s : Nat × Nat} {u : Nat} {wd : Int} (h : ¬ (1 ≤ wd ∧ wd ≤ 64 ∧ u < 2 ^ wd.toNat)) : stepW s 0 u wd = none := by
  unfold stepW
  rw [if_pos rfl, if_neg (by simpa using h)]
theorem stepW1 {s : Nat × Nat} {u k : Nat} (h1 : 1 ≤ k) (h2 : k ≤ 8) (h3 : u < 2 ^ (8 * k)) : stepW s 1 u k = some (s.1 + u * 2 ^ wh s.2, wh s.2 + 8 * k) := by
  unfold stepW
  rw [if_neg (by decide), if_pos rfl, if_pos ⟨by omega, by omega, by simpa using h3⟩]
  simp
theorem stepW1n {s : Nat × Nat} {u : Nat} {wd : Int} (h : ¬ (1 ≤ wd ∧ wd ≤ 8 ∧ u < 2 ^ (8 * wd.toNat))) : stepW s 1 u wd = none := by
  unfold stepW
  rw [if_neg (by decide), if_pos rfl, if_neg (by simpa using h)]
theorem stepW2 {s : Nat × Nat} {u : Nat} {wd : Int} : stepW s 2 u wd = some (s.1 + num (uv u) * 2 ^ wh s.2, wh s.2 + 8 * (uv u).length) := by
  unfold stepW
  rw [if_neg (by decide), if_neg (by decide), if_pos rfl]
  simp
theorem stepW3 {s : Nat × Nat} {u z : Nat} {wd : Int} (hz : zz (wrap64 u) = z) : stepW s 3 u wd = some (s.1 + num (uv z) * 2 ^ wh s.2, wh s.2 + 8 * (uv z).length) := by
  unfold stepW
  rw [if_neg (by decide), if_neg (by decide), if_neg (by decide), if_pos rfl, hz]
  simp
theorem stepW4 {s : Nat × Nat} {num wd : Int} : stepW s 4 num wd = some (s.1, wh s.2) := by
  unfold stepW
  rw [if_neg (by decide), if_neg (by decide), if_neg (by decide), if_neg (by decide), if_pos rfl]
theorem stepW5 {s : Nat × Nat} {num : Int} {k : Nat} (h : k ≤ 20) : stepW s 5 num k = some (s.1, wh s.2 + 8 * k) := by
  unfold stepW
  rw [if_neg (by decide), if_neg (by decide), if_neg (by decide), if_neg (by decide), if_neg (by decide), if_pos rfl, if_pos ⟨by omega, by omega⟩]
  simp
theorem stepW5n {s : Nat × Nat} {num wd : Int} (h : ¬ (0 ≤ wd ∧ wd ≤ 20)) : stepW s 5 num wd = none := by
  unfold stepW
  rw [if_neg (by decide), if_neg (by decide), if_neg (by decide), if_neg (by decide), if_neg (by decide), if_pos rfl, if_neg h]
theorem num_take_succ {L : List Int} {j : Nat} (hj : j < L.length) : num (L.take (j + 1)) = num (L.take j) + 256 ^ j * L[j].toNat := by
  rw [List.take_succ_eq_append_getElem hj, num_append, List.length_take, Nat.min_eq_left (Nat.le_of_lt hj), num_cons]
  simp [num]
theorem step_byte {X n j b : Nat} {L : List Int} (hj : j < L.length) (hb : L[j] = (b : Int)) (hb2 : b < 256) : X + num (L.take j) * 2 ^ n + b % 2 ^ 8 * 2 ^ (n + 8 * j) = X + num (L.take (j + 1)) * 2 ^ n := by
  rw [num_take_succ hj, hb, Nat.mod_eq_of_lt (show b < 2 ^ 8 from hb2), Int.toNat_natCast, Nat.add_mul, Nat.pow_add, ← p256, ← Nat.add_assoc, Nat.mul_comm (256 ^ j) b, Nat.mul_assoc b, Nat.mul_comm (256 ^ j)]
theorem bytes_nat {L : List Int} (h : Bytes L) {j : Nat} (hj : j < L.length) : ∃ b : Nat, L[j] = (b : Int) ∧ b < 256 := by
  have := h _ (List.getElem_mem hj)
  exact ⟨L[j].toNat, by omega, by omega⟩
theorem Bo.new (w : World) : Bo w.heap.size w.heap.size (fun _ => True) 0 0 (w.alloc (.cells #[.slice none 0 0, .int .i64 0] 65)) :=
  ⟨⟨.slice none 0 0, blk_new w _, Kd.R_nil _ _ _ _ _⟩, by decide⟩
set_option maxHeartbeats 16000000 in
set_option maxRecDepth 100000 in
theorem writtenRef (A : Option Addr) (c : Nat) (l : List (Int × Int × Int)) (hl : l.length ≤ 200) (hr : ∀ x ∈ l, Rng x) (w : World)
    (HV : ∀ (x : Nat) (W : World), x < 18446744073709551616 → Calls Try.prog 32 #[.int .u64 x] W fun e w' => ∃ v : Value, e = .returned v ∧ Kd.R (Kd.int .u8) 5 w' W.heap.size (fun _ => True) v (uv x) ∧ Below W.heap.size W w')
    (HZ : ∀ (i : Int) (W : World), -9223372036854775808 ≤ i → i ≤ 9223372036854775807 → Calls Try.prog 31 #[.int .i64 i] W fun e w' => e = .returned (.int .u64 (zz i)) ∧ W = w')
    (hit : ∀ W, Below w.heap.size w W → ∀ j : Nat, j < l.length → ∃ ad x, A = some ad ∧ l[j]? = some x ∧ W.cell? (ad.add (j * 3)) = some (.int .i64 x.1) ∧ W.cell? ⟨(ad.add (j * 3)).block, (ad.add (j * 3)).off + 1, none⟩ = some (.int .u64 x.2.1) ∧ W.cell? ⟨(ad.add (j * 3)).block, (ad.add (j * 3)).off + 2, none⟩ = some (.int .i64 x.2.2))
    (r : Option (Nat × Nat)) (hf : foldW (0, 0) l = r) :
    Calls Try.prog 8 #[.slice A l.length c] w fun e w' => WPost w r e w' := by
  have HIT := Aside0.mk hit
  have HF := Aside0.mk hf
  have HR := Aside0.mk hr
  have HV := Aside0.mk HV
  have HZ := Aside0.mk HZ
  obtain ⟨N, hN⟩ : ∃ N, N = w.heap.size := ⟨_, rfl⟩
  have S0 := Aside0.mk (Bo.new w)
  have L0 := Aside0.mk (show Below w.heap.size w (w.alloc (.cells #[.slice none 0 0, .int .i64 0] 65)) from below_alloc (Below.refl _ _) _)
  rw [← hN] at S0 L0
  have HN := Aside0.mk hN
  clear hit hf hr
  go_enter Try.func8, Try.ntmps8
  go_wp2
  rw [← hN]
  clear hN
  generalize w.alloc (.cells #[.slice none 0 0, .int .i64 0] 65) = W0 at S0 L0 ⊢
  go_loopg [18] l.length (fun kq v18 w' => ∃ (i : Nat) (s : Nat × Nat), v18 = .int .i64 i ∧ Aside0 (kq + i = l.length) ∧ Aside0 (s.2 ≤ i * 168) ∧ Aside0 (foldW s (l.drop i) = r) ∧ Aside0 (Bo N N (fun _ => True) s.1 s.2 w') ∧ Aside0 (Below N w w'))
  case atStart => exact ⟨0, (0, 0), rfl, ⟨by omega⟩, ⟨by decide⟩, HF, S0, L0⟩
  case round =>
    obtain ⟨i, s, rfl, HM, HS, HF, HO, HB⟩ := hrel
    by_cases hi : i < l.length
    · have hi' : (i : Int) < (l.length : Int) := by omega
      obtain ⟨ad, x, hA, hx, x0, x1, x2⟩ := HIT.out wr (by have := HB.out; rw [HN.out] at this; exact this) i hi
      have hst := Aside0.mk (foldW_drop HF.out hx)
      have hrg := HR.out x (List.mem_of_getElem? hx)
      subst hA
      obtain ⟨op, num, wd⟩ := x
      simp only at x0 x1 x2
      obtain ⟨g1, g2, g3, g4⟩ := hrg
      simp only at g1 g2 g3 g4
      obtain ⟨u, rfl⟩ := Int.eq_ofNat_of_zero_le g1
      clear hx
      have hN1 : N < wr.heap.size := by
        obtain ⟨⟨v, h1, -⟩, -⟩ := HO.out
        exact blk_lt h1
      have HBa := Aside0.mk (fun o' => Below.alloc HB.out (Nat.le_of_lt hN1) o')
      have hn : s.2 ≤ 1000000 := by have := HS.out; omega
      have hn2 : wh s.2 ≤ 999000 := by have := HS.out; have := wh_le s.2; omega
      have g2' : u < 18446744073709551616 := by omega
      have SA := Aside0.mk (fun o' => (Bo.below HO.out (below_alloc (Below.refl wr.heap.size wr) o')))
      have SN := Aside0.mk (fun o' => Bo.below (Bo.narrow (Q := fun k => k ≠ wr.heap.size) HO.out (fun k hk => by omega)) (below_alloc (Below.refl wr.heap.size wr) o'))
      by_cases o0 : op = 0
      · subst o0
        by_cases v0 : wd < 1
        · go_wp2
          go_ret2
          exact WPost.no HN.out (HBa.out _) hst.out (stepW0n (by omega))
        by_cases v1 : 64 < wd
        · go_wp2
          go_ret2
          exact WPost.no HN.out (HBa.out _) hst.out (stepW0n (by omega))
        obtain ⟨k, rfl⟩ := Int.eq_ofNat_of_zero_le (show 0 ≤ wd by omega)
        have v0' : 1 ≤ k := by omega
        have v1' : k ≤ 64 := by omega
        by_cases v2 : u < 2 ^ k
        · have v4 := shr_no v2
          have hu := Nat.mod_eq_of_lt v2
          have HC := Aside0.mk (fun o' => put (SA.out o') (fun _ _ => trivial) (Nat.le_refl N) (HBa.out o') u k g2' v1' hn)
          rw [hu] at HC
          have V2 := Aside0.mk v2
          clear v2 hu
          by_cases v3 : (k : Int) < 64
          all_goals
            go_wp2_with (go_at_call 29; refine Calls.mono (HC.out _) ?_; rintro e w2 ⟨rfl, S2, b2, -⟩; have S2 := Aside0.mk S2; have b2 := Aside0.mk b2)
            go_roundg (gk - 1)
            case measure => have := HM.out; omega
            case rel => exact ⟨i + 1, (s.1 + u * 2 ^ s.2, s.2 + k), rfl, ⟨by have := HM.out; omega⟩, ⟨by have := HS.out; have := wh_le s.2; show s.2 + k ≤ (i + 1) * 168; omega⟩, ⟨by have := hst.out; rw [stepW0 v0' v1' V2.out] at this; exact this⟩, S2, b2⟩
        · have v3 : (k : Int) < 64 := by
            by_cases e : k = 64
            · subst e
              exact absurd g2' v2
            · omega
          have v4 := shr_yes v2
          have V2 := Aside0.mk v2
          clear v2
          go_wp2
          go_ret2
          exact WPost.no HN.out (HBa.out _) hst.out (stepW0n (fun h => V2.out (by simpa using h.2.2)))
      by_cases o1 : op = 1
      · subst o1
        by_cases v0 : wd < 1
        · go_wp2
          go_ret2
          exact WPost.no HN.out (HBa.out _) hst.out (stepW1n (by omega))
        by_cases v1 : 8 < wd
        · go_wp2
          go_ret2
          exact WPost.no HN.out (HBa.out _) hst.out (stepW1n (by omega))
        obtain ⟨k, rfl⟩ := Int.eq_ofNat_of_zero_le (show 0 ≤ wd by omega)
        have v0' : 1 ≤ k := by omega
        have v1' : 8 * k ≤ 64 := by omega
        have v1'' : k ≤ 8 := by omega
        by_cases v2 : u < 2 ^ (8 * k)
        · have v4 := shr_no v2
          have hu := Nat.mod_eq_of_lt v2
          have HC := Aside0.mk (whole (SN.out (.cells #[.int .i64 1, .int .u64 u, .int .i64 k] 28)) (Nat.le_refl N) (HBa.out _) hn)
          have HP := Aside0.mk (fun (w2 : World) (S2 : Bo N N (fun k => k ≠ wr.heap.size) s.1 (wh s.2) w2) (hf : wr.heap.size < w2.heap.size) (b2 : Below N w w2) => put S2 (fun k hk => by omega) (Nat.le_refl N) b2 u (8 * k) g2' v1' (by omega))
          rw [hu] at HP
          have V2 := Aside0.mk v2
          clear v2 hu
          by_cases v3 : (k : Int) < 8
          all_goals
            go_wp2_with (first | (go_at_call 30; refine Calls.mono HC.out ?_; rintro e w2 ⟨rfl, S2, b2, k2⟩; have hcb := blk_kept (blk_new wr _) k2 (by omega); have y1 : w2.cell? ⟨wr.heap.size, 1, none⟩ = some (.int .u64 u) := (cell_of_row' hcb 1).trans rfl; have y2 : w2.cell? ⟨wr.heap.size, 2, none⟩ = some (.int .i64 k) := (cell_of_row' hcb 2).trans rfl; have HP2 := Aside0.mk (HP.out w2 S2 (blk_lt hcb) b2); clear hcb S2 b2 k2) | (go_at_call 29; refine Calls.mono HP2.out ?_; rintro e w3 ⟨rfl, S3, b3, -⟩; have S3 := Aside0.mk S3.widen; have b3 := Aside0.mk b3))
            go_roundg (gk - 1)
            case measure => have := HM.out; omega
            case rel => exact ⟨i + 1, (s.1 + u * 2 ^ wh s.2, wh s.2 + 8 * k), rfl, ⟨by have := HM.out; omega⟩, ⟨by have := HS.out; have := wh_le s.2; show wh s.2 + 8 * k ≤ (i + 1) * 168; omega⟩, ⟨by have := hst.out; rw [stepW1 v0' v1'' V2.out] at this; exact this⟩, S3, b3⟩
        · have v3 : (k : Int) < 8 := by
            by_cases e : k = 8
            · subst e
              exact absurd g2' v2
            · omega
          have v4 := shr_yes v2
          have V2 := Aside0.mk v2
          clear v2
          go_wp2
          go_ret2
          exact WPost.no HN.out (HBa.out _) hst.out (stepW1n (fun h => V2.out (by simpa using h.2.2)))
      by_cases o4 : op = 4
      · subst o4
        have HC := Aside0.mk (fun o' => whole (SA.out o') (Nat.le_refl N) (HBa.out o') hn)
        go_wp2_with (go_at_call 30; refine Calls.mono (HC.out _) ?_; rintro e w2 ⟨rfl, S2, b2, -⟩; have S2 := Aside0.mk S2; have b2 := Aside0.mk b2)
        go_roundg (gk - 1)
        case measure => have := HM.out; omega
        case rel => exact ⟨i + 1, (s.1, wh s.2), rfl, ⟨by have := HM.out; omega⟩, ⟨by have := HS.out; have := wh_le s.2; show wh s.2 ≤ (i + 1) * 168; omega⟩, ⟨by have := hst.out; rw [stepW4] at this; exact this⟩, S2, b2⟩
      by_cases o5 : op = 5
      · subst o5
        by_cases v0 : wd < 0
        · go_wp2
          go_ret2
          exact WPost.no HN.out (HBa.out _) hst.out (stepW5n (by omega))
        by_cases v1 : 20 < wd
        · go_wp2
          go_ret2
          exact WPost.no HN.out (HBa.out _) hst.out (stepW5n (by omega))
        obtain ⟨k, rfl⟩ := Int.eq_ofNat_of_zero_le (show 0 ≤ wd by omega)
        have v1' : k ≤ 20 := by omega
        have HC := Aside0.mk (whole (SN.out (.cells #[.int .i64 5, .int .u64 u, .int .i64 k] 28)) (Nat.le_refl N) (HBa.out _) hn)
        obtain ⟨wo, rfl⟩ : ∃ wo : World, wo = wr := ⟨_, rfl⟩
        obtain ⟨G, rfl⟩ : ∃ G, G = gk := ⟨_, rfl⟩
        go_wp2_with (go_at_call 30; refine Calls.mono HC.out ?_; rintro e w2 ⟨rfl, S2, b2, k2⟩; have hcb := Aside0.mk (blk_kept (blk_new wo _) k2 (by omega)); have S2 := Aside0.mk S2; have b2 := Aside0.mk b2; clear k2)
        go_loopg [10] k (fun kq v10 w' => ∃ (j : Nat), v10 = .int .i64 j ∧ Aside0 (kq + j = k) ∧ Aside0 (Bo N N (fun k => k ≠ wo.heap.size) s.1 (wh s.2 + 8 * j) w') ∧ Aside0 (Below N w w') ∧ Aside0 (w'.heap[wo.heap.size]? = some (.cells #[.int .i64 5, .int .u64 u, .int .i64 k] 28 (0, 0))))
        case atStart => exact ⟨0, rfl, ⟨by omega⟩, S2, b2, hcb⟩
        case round =>
          obtain ⟨j, rfl, HJ, S3, b3, hcc⟩ := hrel
          have y2 : wr.cell? ⟨wo.heap.size, 2, none⟩ = some (.int .i64 k) := (cell_of_row' hcc.out 2).trans rfl
          have hj0 : j ≤ k := by have := HJ.out; omega
          by_cases hj : j < k
          · have hj' : (j : Int) < (k : Int) := by omega
            have HP := Aside0.mk (put S3.out (fun k hk => by have := blk_lt hcc.out; omega) (Nat.le_refl N) b3.out 0 8 (by decide) (by decide) (by omega))
            rw [Nat.zero_mod, Nat.zero_mul, Nat.add_zero] at HP
            go_wp2_with (go_at_call 29; refine Calls.mono HP.out ?_; rintro e w4 ⟨rfl, S4, b4, k4⟩; have S4 := Aside0.mk S4; have b4 := Aside0.mk b4; have k4 := Aside0.mk k4)
            go_roundg (gk - 1)
            case measure => have := HJ.out; omega
            case rel => exact ⟨j + 1, rfl, ⟨by have := HJ.out; omega⟩, ⟨by have := S4.out; rw [show wh s.2 + 8 * (j + 1) = wh s.2 + 8 * j + 8 by omega]; exact this⟩, b4, ⟨blk_kept hcc.out k4.out (by omega)⟩⟩
          · have hj' : ¬ (j : Int) < (k : Int) := by omega
            have hjk : j = k := by omega
            have S5 := Aside0.mk (Bo.widen S3.out)
            rw [hjk] at S5
            clear hjk
            go_wp2
            go_roundg (G - 1)
            case measure => have := HM.out; omega
            case rel => exact ⟨i + 1, (s.1, wh s.2 + 8 * k), rfl, ⟨by have := HM.out; omega⟩, ⟨by have := HS.out; have := wh_le s.2; show wh s.2 + 8 * k ≤ (i + 1) * 168; omega⟩, ⟨by have := hst.out; rw [stepW5 v1'] at this; exact this⟩, S5, b3⟩
      by_cases o2 : op = 2
      · subst o2
        have HC := Aside0.mk (whole (SA.out (.cells #[.int .i64 2, .int .u64 u, .int .i64 wd] 28)) (Nat.le_refl N) (HBa.out _) hn)
        obtain ⟨L, hL⟩ : ∃ L, L = uv u := ⟨_, rfl⟩
        have hLl : L.length ≤ 10 := by rw [hL]; exact uv_le g2'
        have hLp : 0 < L.length := by rw [hL]; exact uv_pos _
        have hLb := Aside0.mk (show Bytes L by rw [hL]; exact uv_bytes _)
        have hss := Aside0.mk (show stepW s 2 u wd = some (s.1 + num L * 2 ^ wh s.2, wh s.2 + 8 * L.length) by rw [hL]; exact stepW2)
        have HVV := Aside0.mk (fun W => HV.out u W g2')
        rw [← hL] at HVV
        clear hL
        obtain ⟨wo, rfl⟩ : ∃ wo : World, wo = wr := ⟨_, rfl⟩
        obtain ⟨G, rfl⟩ : ∃ G, G = gk := ⟨_, rfl⟩
        go_wp2_with (first | (go_at_call 30; refine Calls.mono HC.out ?_; rintro e w2 ⟨rfl, S2, b2, -⟩; have S2 := Aside0.mk S2; have b2 := Aside0.mk b2) | (go_at_call 32; refine Calls.mono (HVV.out w2) ?_; rintro e w3 ⟨v, rfl, hv, b3⟩; obtain ⟨g, cap, rfl, hg1, hg2, -⟩ := Kd.R_form hv hLp; have hv := Aside0.mk (Kd.R_tight rfl hv); have hNw := (show N < w2.heap.size by obtain ⟨_, h1, -⟩ := S2.out.O; exact blk_lt h1); have hNg := (show N < g by omega); have S3 := Aside0.mk (Bo.below (Bo.narrow (Q := fun k => k ≠ g) S2.out (fun k hk => by omega)) b3); have b3 := Aside0.mk (b2.out.trans (b3.mono (Nat.le_of_lt hNw))); clear hg1 hg2 hNw))
        go_loopg [103] L.length (fun kq v103 w' => ∃ (j : Nat), v103 = .int .i64 j ∧ Aside0 (kq + j = L.length) ∧ Aside0 (Bo N N (fun k => k ≠ g) (s.1 + num (L.take j) * 2 ^ wh s.2) (wh s.2 + 8 * j) w') ∧ Aside0 (Below N w w') ∧ Aside0 (Kd.R (Kd.int .u8) 5 w' w2.heap.size (fun k => some k = (Value.slice (some ⟨g, 0, none⟩) L.length cap).ownBlock) (.slice (some ⟨g, 0, none⟩) L.length cap) L) ∧ Aside0 (g < w'.heap.size))
        case atStart => exact ⟨0, rfl, ⟨by omega⟩, ⟨by have := S3.out; rw [List.take_zero, show num [] = 0 from rfl, Nat.zero_mul]; exact this⟩, b3, hv, ⟨Kd.R_lt hv.out g rfl⟩⟩
        case round =>
          obtain ⟨j, rfl, HJ, S4, b4, hv4, hg4⟩ := hrel
          have hj0 : j ≤ L.length := by have := HJ.out; omega
          by_cases hj : j < L.length
          · have hj' : (j : Int) < (L.length : Int) := by omega
            obtain ⟨b, hb, hb2⟩ := bytes_nat hLb.out hj
            have y2 := (Kd.R_celln 0 hv4.out (j : Int) (Int.natCast_nonneg _) hj').1
            rw [Int.toNat_natCast, show rdOf (0 : Int) L (j : Int) = (b : Int) by unfold rdOf; rw [Int.toNat_natCast, List.getD_eq_getElem?_getD, List.getElem?_eq_getElem hj]; exact hb] at y2
            have HP := Aside0.mk (put S4.out (fun k hk => by have := hg4.out; omega) (Nat.le_refl N) b4.out b 8 (by omega) (by decide) (by omega))
            have hb := Aside0.mk hb
            go_wp2_with (go_at_call 29; refine Calls.mono HP.out ?_; rintro e w5 ⟨rfl, S5, b5, k5⟩; have S5 := Aside0.mk S5; have b5 := Aside0.mk b5; have hv5 := Aside0.mk (Kd.R_kept hv4.out k5 (fun k hk => by have hkg : k = g := Option.some.inj hk; omega)); have hg5 := Aside0.mk (Nat.lt_of_lt_of_le hg4.out k5.1); clear k5)
            go_roundg (gk - 1)
            case measure => have := HJ.out; omega
            case rel => exact ⟨j + 1, rfl, ⟨by have := HJ.out; omega⟩, ⟨by have := S5.out; rw [step_byte hj hb.out hb2] at this; rw [show wh s.2 + 8 * (j + 1) = wh s.2 + 8 * j + 8 by omega]; exact this⟩, b5, hv5, hg5⟩
          · have hj' : ¬ (j : Int) < (L.length : Int) := by omega
            have hjk : j = L.length := by omega
            have S5 := Aside0.mk (Bo.widen S4.out)
            rw [hjk, List.take_length] at S5
            clear hjk
            go_wp2
            go_roundg (G - 1)
            case measure => have := HM.out; omega
            case rel => exact ⟨i + 1, (s.1 + num L * 2 ^ wh s.2, wh s.2 + 8 * L.length), rfl, ⟨by have := HM.out; omega⟩, ⟨by have := HS.out; have := wh_le s.2; show wh s.2 + 8 * L.length ≤ (i + 1) * 168; omega⟩, ⟨by have := hst.out; rw [hss.out] at this; exact this⟩, S5, b4⟩
      by_cases o3 : op = 3
      · subst o3
        have hzr := zz_range (wrap64 u)
        obtain ⟨z, hz⟩ := Int.eq_ofNat_of_zero_le hzr.1
        have hz2 : z < 18446744073709551616 := by omega
        have HZZ := Aside0.mk (show ∀ W, Calls Try.prog 31 #[.int .i64 (wrap64 u)] W fun e w' => e = .returned (.int .u64 z) ∧ W = w' from fun W => by
          have h := HZ.out (wrap64 u) W (by unfold wrap64; omega) (by unfold wrap64; omega)
          rw [hz] at h
          exact h)
        have hz3 := Aside0.mk (show zz (wrap64 u) = z from hz)
        clear hz hzr
        have HC := Aside0.mk (whole (SA.out (.cells #[.int .i64 3, .int .u64 u, .int .i64 wd] 28)) (Nat.le_refl N) (HBa.out _) hn)
        obtain ⟨L, hL⟩ : ∃ L, L = uv z := ⟨_, rfl⟩
        have hLl : L.length ≤ 10 := by rw [hL]; exact uv_le hz2
        have hLp : 0 < L.length := by rw [hL]; exact uv_pos _
        have hLb := Aside0.mk (show Bytes L by rw [hL]; exact uv_bytes _)
        have hss := Aside0.mk (show stepW s 3 u wd = some (s.1 + num L * 2 ^ wh s.2, wh s.2 + 8 * L.length) by rw [hL]; exact stepW3 hz3.out)
        have HVV := Aside0.mk (fun W => HV.out z W hz2)
        rw [← hL] at HVV
        clear hL
        obtain ⟨wo, rfl⟩ : ∃ wo : World, wo = wr := ⟨_, rfl⟩
        obtain ⟨G, rfl⟩ : ∃ G, G = gk := ⟨_, rfl⟩
        go_wp2_with (first | (go_at_call 31; refine Calls.mono (HZZ.out _) ?_; rintro e w1 ⟨rfl, rfl⟩) | (go_at_call 30; refine Calls.mono HC.out ?_; rintro e w2 ⟨rfl, S2, b2, -⟩; have S2 := Aside0.mk S2; have b2 := Aside0.mk b2) | (go_at_call 32; refine Calls.mono (HVV.out w2) ?_; rintro e w3 ⟨v, rfl, hv, b3⟩; obtain ⟨g, cap, rfl, hg1, hg2, -⟩ := Kd.R_form hv hLp; have hv := Aside0.mk (Kd.R_tight rfl hv); have hNw := (show N < w2.heap.size by obtain ⟨_, h1, -⟩ := S2.out.O; exact blk_lt h1); have hNg := (show N < g by omega); have S3 := Aside0.mk (Bo.below (Bo.narrow (Q := fun k => k ≠ g) S2.out (fun k hk => by omega)) b3); have b3 := Aside0.mk (b2.out.trans (b3.mono (Nat.le_of_lt hNw))); clear hg1 hg2 hNw))
        go_loopg [103] L.length (fun kq v103 w' => ∃ (j : Nat), v103 = .int .i64 j ∧ Aside0 (kq + j = L.length) ∧ Aside0 (Bo N N (fun k => k ≠ g) (s.1 + num (L.take j) * 2 ^ wh s.2) (wh s.2 + 8 * j) w') ∧ Aside0 (Below N w w') ∧ Aside0 (Kd.R (Kd.int .u8) 5 w' w2.heap.size (fun k => some k = (Value.slice (some ⟨g, 0, none⟩) L.length cap).ownBlock) (.slice (some ⟨g, 0, none⟩) L.length cap) L) ∧ Aside0 (g < w'.heap.size))
        case atStart => exact ⟨0, rfl, ⟨by omega⟩, ⟨by have := S3.out; rw [List.take_zero, show num [] = 0 from rfl, Nat.zero_mul]; exact this⟩, b3, hv, ⟨Kd.R_lt hv.out g rfl⟩⟩
        case round =>
          obtain ⟨j, rfl, HJ, S4, b4, hv4, hg4⟩ := hrel
          have hj0 : j ≤ L.length := by have := HJ.out; omega
          by_cases hj : j < L.length
          · have hj' : (j : Int) < (L.length : Int) := by omega
            obtain ⟨b, hb, hb2⟩ := bytes_nat hLb.out hj
            have y2 := (Kd.R_celln 0 hv4.out (j : Int) (Int.natCast_nonneg _) hj').1
            rw [Int.toNat_natCast, show rdOf (0 : Int) L (j : Int) = (b : Int) by unfold rdOf; rw [Int.toNat_natCast, List.getD_eq_getElem?_getD, List.getElem?_eq_getElem hj]; exact hb] at y2
            have HP := Aside0.mk (put S4.out (fun k hk => by have := hg4.out; omega) (Nat.le_refl N) b4.out b 8 (by omega) (by decide) (by omega))
            have hb := Aside0.mk hb
            go_wp2_with (go_at_call 29; refine Calls.mono HP.out ?_; rintro e w5 ⟨rfl, S5, b5, k5⟩; have S5 := Aside0.mk S5; have b5 := Aside0.mk b5; have hv5 := Aside0.mk (Kd.R_kept hv4.out k5 (fun k hk => by have hkg : k = g := Option.some.inj hk; omega)); have hg5 := Aside0.mk (Nat.lt_of_lt_of_le hg4.out k5.1); clear k5)
            go_roundg (gk - 1)
            case measure => have := HJ.out; omega
            case rel => exact ⟨j + 1, rfl, ⟨by have := HJ.out; omega⟩, ⟨by have := S5.out; rw [step_byte hj hb.out hb2] at this; rw [show wh s.2 + 8 * (j + 1) = wh s.2 + 8 * j + 8 by omega]; exact this⟩, b5, hv5, hg5⟩
          · have hj' : ¬ (j : Int) < (L.length : Int) := by omega
            have hjk : j = L.length := by omega
            have S5 := Aside0.mk (Bo.widen S4.out)
            rw [hjk, List.take_length] at S5
            clear hjk
            go_wp2
            go_roundg (G - 1)
            case measure => have := HM.out; omega
            case rel => exact ⟨i + 1, (s.1 + num L * 2 ^ wh s.2, wh s.2 + 8 * L.length), rfl, ⟨by have := HM.out; omega⟩, ⟨by have := HS.out; have := wh_le s.2; show wh s.2 + 8 * L.length ≤ (i + 1) * 168; omega⟩, ⟨by have := hst.out; rw [hss.out] at this; exact this⟩, S5, b4⟩
      · have hs := Aside0.mk (show stepW s op u wd = none by
          unfold stepW
          rw [if_neg o0, if_neg o1, if_neg o2, if_neg o3, if_neg o4, if_neg o5])
        have e0 : (op == 0) = false := by simpa using o0
        have e1 : (op == 1) = false := by simpa using o1
        have e2 : (op == 2) = false := by simpa using o2
        have e3 : (op == 3) = false := by simpa using o3
        have e4 : (op == 4) = false := by simpa using o4
        have e5 : (op == 5) = false := by simpa using o5
        clear o0 o1 o2 o3 o4 o5
        go_wp2
        go_ret2
        exact WPost.no HN.out (HBa.out _) hst.out hs.out
    · have hi' : ¬ (i : Int) < (l.length : Int) := by omega
      have e : l.drop i = [] := List.drop_of_length_le (by omega)
      have hs := HF.out
      rw [e] at hs
      have HS2 := Aside0.mk hs
      obtain ⟨⟨v, hob, hrv⟩, hlt⟩ := HO.out
      have c0 : wr.cell? ⟨N, 0, none⟩ = some v := (cell_of_row' hob 0).trans rfl
      have HRV := Aside0.mk hrv
      clear hs e hob hrv hlt
      go_wp2
      go_ret2
      exact WPost.yes HN.out HB.out HS2.out HRV.out

end Go.Proofs.Ytmlfgolmdeignaa.Pk
