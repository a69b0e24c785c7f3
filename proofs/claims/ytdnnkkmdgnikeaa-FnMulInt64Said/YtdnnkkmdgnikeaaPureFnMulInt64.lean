/- A product of two int64 is told by the package just if it fits, and is then the product: for all numbers. No condition. -/
import Derived.Test.YtdnnkkmdgnikeaaMFnMulInt64x8
import Derived.IntWalk
import Derived.Laws.BitsAllLaws
namespace Go.Proofs.Ytdnnkkmdgnikeaa.Wd
open Go.RowKit Go.IntWalk Go.Proofs.Ytdnnkkmdgnikeaa.MFnMulInt64 Go.Proofs.YtdnnkkmdgnikeaaW.PrintWords Go.Proofs.YtdnnkkmdgnikeaaW.PrintLast Go.Proofs.YtdnnkkmdgnikeaaW.PrintMore
set_option linter.unusedVariables false
/-! ### Digits of base 2^32 -/
def V : List Int → Int
  | [] => 0
  | d :: l => d + 4294967296 * V l

def Dig (l : List Int) : Prop := ∀ x ∈ l, 0 ≤ x ∧ x < 4294967296

def D (n : Nat) : List Int := if _h : n = 0 then [] else ((n % 4294967296 : Nat) : Int) :: D (n / 4294967296)
termination_by n
decreasing_by omega

theorem D_zero : D 0 = [] := by rw [D]; simp
theorem D_pos {n : Nat} (h : n ≠ 0) : D n = ((n % 4294967296 : Nat) : Int) :: D (n / 4294967296) := by rw [D, dif_neg h]

theorem Dig_nil : Dig [] := fun _ h => by cases h
theorem Dig_cons {d : Int} {l : List Int} (h : Dig (d :: l)) : (0 ≤ d ∧ d < 4294967296) ∧ Dig l := ⟨h d List.mem_cons_self, fun x hx => h x (List.mem_cons_of_mem _ hx)⟩
theorem Dig_mk {d : Int} {l : List Int} (hd : 0 ≤ d ∧ d < 4294967296) (h : Dig l) : Dig (d :: l) := by
  intro x hx
  rcases List.mem_cons.1 hx with rfl | hx
  · exact hd
  · exact h x hx
theorem Dig_append {a b : List Int} (ha : Dig a) (hb : Dig b) : Dig (a ++ b) := by
  intro x hx
  rcases List.mem_append.1 hx with h | h
  · exact ha x h
  · exact hb x h
theorem Dig_one {d : Int} (hd : 0 ≤ d ∧ d < 4294967296) : Dig [d] := Dig_mk hd Dig_nil
theorem Dig_take {l : List Int} (h : Dig l) (i : Nat) : Dig (l.take i) := fun x hx => h x (List.mem_of_mem_take hx)
theorem Dig_drop {l : List Int} (h : Dig l) (i : Nat) : Dig (l.drop i) := fun x hx => h x (List.mem_of_mem_drop hx)
theorem Dig_set {l : List Int} (h : Dig l) (j : Nat) {v : Int} (hv : 0 ≤ v ∧ v < 4294967296) : Dig (l.set j v) := by
  intro x hx
  rcases List.mem_or_eq_of_mem_set hx with hx | rfl
  · exact h x hx
  · exact hv
theorem Dig_getD {l : List Int} (h : Dig l) (i : Nat) : 0 ≤ l.getD i 0 ∧ l.getD i 0 < 4294967296 := by
  rw [List.getD_eq_getElem?_getD]
  by_cases hi : i < l.length
  · rw [List.getElem?_eq_getElem hi]
    exact h _ (List.getElem_mem hi)
  · rw [List.getElem?_eq_none (by omega)]
    exact ⟨by decide, by decide⟩
theorem Dig_zeros (n : Nat) : Dig (List.replicate n 0) := by
  intro x hx
  have := List.eq_of_mem_replicate hx
  subst this
  exact ⟨by decide, by decide⟩

theorem D_dig (n : Nat) : Dig (D n) := by
  induction n using Nat.strongRecOn with
  | _ n ih =>
    by_cases h : n = 0
    · subst h; rw [D_zero]; exact Dig_nil
    · rw [D_pos h]
      exact Dig_mk (by omega) (ih _ (by omega))

theorem V_nonneg {l : List Int} (h : Dig l) : 0 ≤ V l := by
  induction l with
  | nil => simp [V]
  | cons d l ih =>
    obtain ⟨hd, hl⟩ := Dig_cons h
    have := ih hl
    simp only [V]
    omega

theorem V_lt {l : List Int} (h : Dig l) : V l < 4294967296 ^ l.length := by
  induction l with
  | nil => simp [V]
  | cons d l ih =>
    obtain ⟨hd, hl⟩ := Dig_cons h
    have := ih hl
    simp only [V, List.length_cons, Int.pow_succ]
    omega

theorem V_D (n : Nat) : V (D n) = (n : Int) := by
  induction n using Nat.strongRecOn with
  | _ n ih =>
    by_cases h : n = 0
    · subst h; rw [D_zero]; rfl
    · rw [D_pos h]
      simp only [V]
      rw [ih _ (by omega)]
      omega

theorem V_append (a b : List Int) : V (a ++ b) = V a + 4294967296 ^ a.length * V b := by
  induction a with
  | nil => simp [V]
  | cons d a ih =>
    simp only [List.cons_append, V, ih, List.length_cons, Int.pow_succ]
    grind

theorem V_zeros (n : Nat) : V (List.replicate n 0) = 0 := by
  induction n with
  | zero => rfl
  | succ n ih => rw [List.replicate_succ]; simp only [V, ih]; rfl

theorem getD_cons_succ (d : Int) (l : List Int) (i : Nat) : (d :: l).getD (i + 1) 0 = l.getD i 0 := by simp

theorem V_drop (l : List Int) (i : Nat) : V (l.drop i) = l.getD i 0 + 4294967296 * V (l.drop (i + 1)) := by
  by_cases hi : i < l.length
  · rw [List.drop_eq_getElem_cons hi]
    simp only [V]
    rw [List.getD_eq_getElem?_getD, List.getElem?_eq_getElem hi]
    rfl
  · rw [List.drop_of_length_le (by omega), List.drop_of_length_le (by omega), List.getD_eq_getElem?_getD, List.getElem?_eq_none (by omega)]
    rfl

theorem V_take_succ (l : List Int) (i : Nat) (hi : i < l.length) : V (l.take (i + 1)) = V (l.take i) + 4294967296 ^ i * l.getD i 0 := by
  rw [List.take_succ_eq_append_getElem hi, V_append, List.length_take, Nat.min_eq_left (by omega), List.getD_eq_getElem?_getD, List.getElem?_eq_getElem hi]
  simp [V]

theorem V_set (l : List Int) (j : Nat) (v : Int) (hj : j < l.length) : V (l.set j v) = V l + 4294967296 ^ j * (v - l.getD j 0) := by
  induction l generalizing j with
  | nil => simp at hj
  | cons d l ih =>
    cases j with
    | zero => simp [V]; omega
    | succ j =>
      simp only [List.length_cons] at hj
      rw [List.set_cons_succ]
      simp only [V]
      rw [ih j (by omega), getD_cons_succ, Int.pow_succ]
      grind

theorem V_split (l : List Int) (i : Nat) : V l = V (l.take i) + 4294967296 ^ (min i l.length) * V (l.drop i) := by
  have h := V_append (l.take i) (l.drop i)
  rw [List.take_append_drop, List.length_take] at h
  exact h

theorem getLast_pos {l : List Int} (h : Dig l) (hne : l ≠ []) (hl : l.getLast hne ≠ 0) : 0 < V l := by
  induction l with
  | nil => exact absurd rfl hne
  | cons d l ih =>
    obtain ⟨hd, hl2⟩ := Dig_cons h
    simp only [V]
    by_cases h2 : l = []
    · subst h2
      simp [V] at hl ⊢
      omega
    · rw [List.getLast_cons h2] at hl
      have := ih hl2 h2 hl
      omega

theorem D_of {l : List Int} (h : Dig l) (hl : ∀ hne : l ≠ [], l.getLast hne ≠ 0) : D (V l).toNat = l := by
  induction l with
  | nil => exact D_zero
  | cons d l ih =>
    obtain ⟨hd, hl2⟩ := Dig_cons h
    have hp := getLast_pos h (by simp) (hl (by simp))
    have hn := V_nonneg hl2
    have e : D (V l).toNat = l := ih hl2 (fun hne => by have := hl (by simp); rwa [List.getLast_cons hne] at this)
    rw [D_pos (by omega)]
    simp only [V] at hp ⊢
    have e1 : (((d + 4294967296 * V l).toNat % 4294967296 : Nat) : Int) = d := by omega
    have e2 : (d + 4294967296 * V l).toNat / 4294967296 = (V l).toNat := by omega
    rw [e1, e2, e]

theorem D_len_lt (n m : Nat) (h : n < 4294967296 ^ m) : (D n).length ≤ m := by
  induction m generalizing n with
  | zero =>
    have : n = 0 := by simpa using h
    subst this
    rw [D_zero]
    simp
  | succ m ih =>
    by_cases hn : n = 0
    · subst hn; rw [D_zero]; simp
    · rw [D_pos hn, List.length_cons]
      have := ih (n / 4294967296) (by rw [Nat.pow_succ] at h; omega)
      omega

theorem D_ge (n : Nat) (hn : n ≠ 0) : 4294967296 ^ ((D n).length - 1) ≤ n := by
  induction n using Nat.strongRecOn with
  | _ n ih =>
    rw [D_pos hn, List.length_cons, Nat.add_sub_cancel]
    by_cases h : n / 4294967296 = 0
    · rw [h, D_zero]; simp; omega
    · have h2 := ih (n / 4294967296) (by omega) h
      have h3 : (D (n / 4294967296)).length ≠ 0 := by rw [D_pos h]; simp
      have e : 4294967296 ^ (D (n / 4294967296)).length = 4294967296 ^ ((D (n / 4294967296)).length - 1) * 4294967296 := by
        rw [← Nat.pow_succ]; congr 1; omega
      rw [e]
      omega

theorem D_lt (n : Nat) : n < 4294967296 ^ (D n).length := by
  have h := V_lt (D_dig n)
  rw [V_D] at h
  have e : ((4294967296 : Int) ^ (D n).length) = ((4294967296 ^ (D n).length : Nat) : Int) := by rw [Int.natCast_pow]; rfl
  rw [e] at h
  exact Int.ofNat_lt.1 h

theorem D_len_pos (n : Nat) : 0 < (D n).length ↔ n ≠ 0 := by
  by_cases h : n = 0
  · subst h; rw [D_zero]; simp
  · rw [D_pos h]; simp; exact h

/-- An integer as the reference holds it: a sign and digits. -/
def W (z : Int) : Bool × List Int := (decide (z < 0), D z.natAbs)

theorem rd_getD (l : List Int) (i : Nat) : rd l (i : Int) = l.getD i 0 := by unfold rd; rw [Int.toNat_natCast]

theorem w64 {x : Int} (h0 : -9223372036854775808 ≤ x) (h1 : x ≤ 9223372036854775807) : wrap64 x = x := by unfold wrap64; omega

/-! ### trim, wide -/
theorem trim_ok (n : Nat) : ∀ (k : Nat) (l : List Int), l.length = n → Dig l → n ≤ 100 → n < k → spec_trim.l0 k l = some (D (V l).toNat) := by
  induction n with
  | zero =>
    intro k l hl _ _ hk
    obtain ⟨k, rfl⟩ : ∃ m, k = m + 1 := ⟨k - 1, by omega⟩
    have : l = [] := List.length_eq_zero_iff.1 hl
    subst this
    simp only [spec_trim.l0]
    rw [if_neg (by simp)]
    exact congrArg some D_zero.symm
  | succ n ih =>
    intro k l hl hd hn hk
    obtain ⟨k, rfl⟩ : ∃ m, k = m + 1 := ⟨k - 1, by omega⟩
    have hw : wrap64 ((l.length : Int) - 1) = (n : Int) := by rw [w64 (by omega) (by omega)]; omega
    simp only [spec_trim.l0]
    rw [hw, if_pos (by omega), if_pos (by omega), if_pos (by omega), rd_getD]
    have hne : l ≠ [] := by intro h; subst h; simp at hl
    have hlast : l.getD n 0 = l.getLast hne := by
      rw [List.getLast_eq_getElem, List.getD_eq_getElem?_getD, List.getElem?_eq_getElem (by omega)]
      simp [hl]
    by_cases h0 : l.getD n 0 = 0
    · rw [if_pos h0, if_pos (by omega), Int.toNat_natCast, ih k (l.take n) (by rw [List.length_take]; omega) (Dig_take hd n) (by omega) (by omega)]
      have h1 := V_take_succ l n (by omega)
      rw [h0, List.take_of_length_le (by omega)] at h1
      rw [h1]
      simp
    · rw [if_neg h0, D_of hd (fun _ => by rw [← hlast]; exact h0)]

theorem trim_ev {l : List Int} (hd : Dig l) (hl : l.length ≤ 100) {k : Nat} (hk : 1000 ≤ k) : spec_trim.f k l = some (D (V l).toNat) :=
  trim_ok l.length k l rfl hd hl (by omega)

theorem wide_ev (neg : Bool) {l : List Int} (hd : Dig l) (hl : l.length ≤ 100) {k : Nat} (hk : 1000 ≤ k) : spec_wide.f k neg l = some (W (if neg = true then -V l else V l)) := by
  unfold spec_wide.f
  rw [trim_ev hd hl hk]
  have hn := V_nonneg hd
  simp only [Option.bind_some, W]
  cases neg with
  | true =>
    simp only [if_true, Int.natAbs_neg]
    have e : (V l).natAbs = (V l).toNat := by omega
    rw [e]
    congr 2
    have := D_len_pos (V l).toNat
    by_cases h : V l = 0
    · rw [h]; simp [D_zero]
    · have h2 : 0 < (D (V l).toNat).length := this.2 (by omega)
      rw [decide_eq_true (by omega), decide_eq_true (by omega)]
  | false =>
    have e : (V l).natAbs = (V l).toNat := by omega
    simp only [Bool.false_eq_true, if_false]
    rw [e, decide_eq_false (by omega)]

/-! ### magAdd -/
theorem add_step (k : Nat) (a b out : List Int) (c : Int) (i : Nat) (hi : i ≤ 200) (ha : Dig a) (hb : Dig b) (hc : 0 ≤ c ∧ c ≤ 1) (ho : out.length ≤ 300) (h : i < a.length ∨ i < b.length ∨ c > 0) :
    spec_magAdd.l0 (k + 2) a b out c (i : Int) = spec_magAdd.l0 k a b (out ++ [(c + a.getD i 0 + b.getD i 0) % 4294967296]) ((c + a.getD i 0 + b.getD i 0) / 4294967296) ((i + 1 : Nat) : Int) := by
  have hga := Dig_getD ha i
  have hgb := Dig_getD hb i
  have hw : wrap64 ((i : Int) + 1) = ((i + 1 : Nat) : Int) := by rw [w64 (by omega) (by omega)]; omega
  have ra := rd_getD a i
  have rb := rd_getD b i
  have ea : IntKind.u64.wrap (rd a (i : Int)) = a.getD i 0 := by rw [ra]; exact u64_in _ (by omega)
  have eb : IntKind.u64.wrap (rd b (i : Int)) = b.getD i 0 := by rw [rb]; exact u64_in _ (by omega)
  have e1 : IntKind.u64.wrap (c + a.getD i 0) = c + a.getD i 0 := u64_in _ (by omega)
  have e2 : IntKind.u64.wrap (c + a.getD i 0 + b.getD i 0) = c + a.getD i 0 + b.getD i 0 := u64_in _ (by omega)
  have e3 : IntKind.u64.wrap (c + b.getD i 0) = c + b.getD i 0 := u64_in _ (by omega)
  have hj : spec_magAdd.l0 (k + 2) a b out c (i : Int) = spec_magAdd.j1 (k + 1) a b out c (i : Int) true := by
    show spec_magAdd.l0 (k + 1 + 1) a b out c (i : Int) = _
    simp only [spec_magAdd.l0]
    by_cases h1 : i < a.length
    · rw [if_pos (by omega)]
    · rw [if_neg (by omega)]
      by_cases h2 : i < b.length
      · rw [if_pos (by omega)]
      · rw [if_neg (by omega), decide_eq_true (by omega)]
  rw [hj]
  simp only [spec_magAdd.j1]
  rw [if_pos (by first | trivial | rfl)]
  by_cases h1 : i < a.length
  · rw [if_pos (by omega), if_pos (by omega)]
    by_cases h2 : i < b.length
    · rw [if_pos (by omega), if_pos (by omega), ea, eb, e1, e2, hw]
    · have hz : b.getD i 0 = 0 := by rw [List.getD_eq_getElem?_getD, List.getElem?_eq_none (by omega)]; rfl
      rw [if_neg (by omega), if_pos (by omega), ea, e1, hw, hz, Int.add_zero]
  · have hz : a.getD i 0 = 0 := by rw [List.getD_eq_getElem?_getD, List.getElem?_eq_none (by omega)]; rfl
    rw [if_neg (by omega), hz, Int.add_zero]
    by_cases h2 : i < b.length
    · rw [if_pos (by omega), if_pos (by omega), if_pos (by omega), eb, e3, hw]
    · have hz2 : b.getD i 0 = 0 := by rw [List.getD_eq_getElem?_getD, List.getElem?_eq_none (by omega)]; rfl
      rw [if_neg (by omega), if_pos (by omega), hw, hz2, Int.add_zero]

theorem add_end (k : Nat) (a b out : List Int) (i : Nat) (h1 : a.length ≤ i) (h2 : b.length ≤ i) : spec_magAdd.l0 (k + 2) a b out 0 (i : Int) = some out := by
  show spec_magAdd.l0 (k + 1 + 1) a b out 0 (i : Int) = _
  simp only [spec_magAdd.l0]
  rw [if_neg (by omega), if_neg (by omega)]
  simp only [spec_magAdd.j1]
  rw [if_neg (by decide)]

theorem add_loop (a b : List Int) (ha : Dig a) (hb : Dig b) (hla : a.length ≤ 100) (hlb : b.length ≤ 100) (d : Nat) : ∀ (k i : Nat) (out : List Int) (c : Int), max a.length b.length - i = d → i ≤ 101 → 2 * d + 6 ≤ k → out.length = i → Dig out → 0 ≤ c → c ≤ 1 → (max a.length b.length < i → c = 0) → i ≤ max a.length b.length + 1 →
    ∃ r, spec_magAdd.l0 k a b out c (i : Int) = some r ∧ Dig r ∧ V r = V out + 4294967296 ^ i * (c + V (a.drop i) + V (b.drop i)) ∧ r.length ≤ max a.length b.length + 1 := by
  induction d with
  | zero =>
    intro k i out c hd hi hk ho hdo hc0 hc1 hcz hi2
    have da : a.drop i = [] := List.drop_of_length_le (by omega)
    have db : b.drop i = [] := List.drop_of_length_le (by omega)
    by_cases hc : c = 0
    · subst hc
      obtain ⟨k, rfl⟩ : ∃ m, k = m + 2 := ⟨k - 2, by omega⟩
      refine ⟨out, add_end k a b out i (by omega) (by omega), hdo, ?_, by omega⟩
      rw [da, db]
      simp [V]
    · have hc2 : c = 1 := by omega
      subst hc2
      obtain ⟨k, rfl⟩ : ∃ m, k = m + 2 + 2 := ⟨k - 4, by omega⟩
      have ga : a.getD i 0 = 0 := by rw [List.getD_eq_getElem?_getD, List.getElem?_eq_none (by omega)]; rfl
      have gb : b.getD i 0 = 0 := by rw [List.getD_eq_getElem?_getD, List.getElem?_eq_none (by omega)]; rfl
      rw [add_step (k + 2) a b out 1 i (by omega) ha hb ⟨by omega, by omega⟩ (by omega) (by omega), ga, gb]
      have hmx : i ≤ max a.length b.length := by
        by_cases h : max a.length b.length < i
        · exact absurd (hcz h) (by decide)
        · omega
      refine ⟨out ++ [1], add_end k a b _ (i + 1) (by omega) (by omega), Dig_append hdo (Dig_one ⟨by decide, by decide⟩), ?_, by simp; omega⟩
      rw [da, db, V_append, ho]
      simp [V]
  | succ d ih =>
    intro k i out c hd hi hk ho hdo hc0 hc1 hcz hi2
    obtain ⟨k, rfl⟩ : ∃ m, k = m + 2 := ⟨k - 2, by omega⟩
    have hga := Dig_getD ha i
    have hgb := Dig_getD hb i
    rw [add_step k a b out c i (by omega) ha hb ⟨hc0, hc1⟩ (by omega) (by omega)]
    obtain ⟨r, h1, h2, h3, h4⟩ := ih k (i + 1) (out ++ [(c + a.getD i 0 + b.getD i 0) % 4294967296]) ((c + a.getD i 0 + b.getD i 0) / 4294967296) (by omega) (by omega) (by omega) (by simp [ho]) (Dig_append hdo (Dig_one (by omega))) (by omega) (by omega) (fun h => by omega) (by omega)
    refine ⟨r, h1, h2, ?_, h4⟩
    rw [h3, V_append, ho, V_drop a i, V_drop b i, Int.pow_succ]
    have e : c + a.getD i 0 + b.getD i 0 = (c + a.getD i 0 + b.getD i 0) % 4294967296 + 4294967296 * ((c + a.getD i 0 + b.getD i 0) / 4294967296) := by omega
    generalize (c + a.getD i 0 + b.getD i 0) % 4294967296 = m at e ⊢
    generalize (c + a.getD i 0 + b.getD i 0) / 4294967296 = q at e ⊢
    simp only [V]
    grind

theorem magAdd_ev {a b : List Int} (ha : Dig a) (hb : Dig b) (hla : a.length ≤ 100) (hlb : b.length ≤ 100) {k : Nat} (hk : 1000 ≤ k) :
    ∃ r, spec_magAdd.f k a b = some r ∧ Dig r ∧ V r = V a + V b ∧ r.length ≤ max a.length b.length + 1 := by
  obtain ⟨r, h1, h2, h3, h4⟩ := add_loop a b ha hb hla hlb (max a.length b.length) k 0 [] 0 (by omega) (by omega) (by omega) rfl Dig_nil (by omega) (by omega) (fun h => rfl) (by omega)
  refine ⟨r, h1, h2, ?_, h4⟩
  rw [h3]
  simp [V]

/-! ### magCmp -/
def cmpI (x y : Int) : Int := if x < y then -1 else if y < x then 1 else 0

theorem cmp_loop (a b : List Int) (ha : Dig a) (hb : Dig b) (hl : a.length = b.length) (hla : a.length ≤ 100) (n : Nat) : ∀ (k : Nat), n ≤ a.length → n < k → spec_magCmp.l0 k a b ((n : Int) - 1) = some (cmpI (V (a.take n)) (V (b.take n))) := by
  induction n with
  | zero =>
    intro k _ hk
    obtain ⟨k, rfl⟩ : ∃ m, k = m + 1 := ⟨k - 1, by omega⟩
    simp only [spec_magCmp.l0]
    rw [if_neg (by omega)]
    simp [V, cmpI]
  | succ n ih =>
    intro k hn hk
    obtain ⟨k, rfl⟩ : ∃ m, k = m + 1 := ⟨k - 1, by omega⟩
    have e0 : ((n + 1 : Nat) : Int) - 1 = (n : Int) := by omega
    have hw : wrap64 ((n : Int) - 1) = (n : Int) - 1 := w64 (by omega) (by omega)
    rw [e0]
    simp only [spec_magCmp.l0]
    rw [if_pos (by omega), if_pos (by omega), if_pos (by omega), if_pos (by omega), rd_getD, rd_getD, hw, ih k (by omega) (by omega)]
    rw [V_take_succ a n (by omega), V_take_succ b n (by omega)]
    have hx := V_lt (Dig_take ha n)
    have hy := V_lt (Dig_take hb n)
    have hx0 := V_nonneg (Dig_take ha n)
    have hy0 := V_nonneg (Dig_take hb n)
    rw [List.length_take, Nat.min_eq_left (by omega)] at hx hy
    generalize V (a.take n) = x at *
    generalize V (b.take n) = y at *
    generalize a.getD n 0 = p at *
    generalize b.getD n 0 = q at *
    generalize (4294967296 : Int) ^ n = P at *
    unfold cmpI
    by_cases h1 : p < q
    · rw [if_pos h1]
      have h3 : P * (p + 1) ≤ P * q := Int.mul_le_mul_of_nonneg_left (by omega) (by omega)
      have h4 : P * (p + 1) = P * p + P := by rw [Int.mul_add, Int.mul_one]
      rw [if_pos (by omega)]
    · rw [if_neg h1]
      by_cases h2 : p > q
      · rw [if_pos h2]
        have h3 : P * (q + 1) ≤ P * p := Int.mul_le_mul_of_nonneg_left (by omega) (by omega)
        have h4 : P * (q + 1) = P * q + P := by rw [Int.mul_add, Int.mul_one]
        rw [if_neg (by omega), if_pos (by omega)]
      · rw [if_neg h2]
        have h3 : p = q := by omega
        subst h3
        by_cases h5 : x < y
        · rw [if_pos h5, if_pos (by omega)]
        · rw [if_neg h5, if_neg (by omega : ¬ x + P * p < y + P * p)]
          by_cases h6 : y < x
          · rw [if_pos h6, if_pos (by omega)]
          · rw [if_neg h6, if_neg (by omega)]

theorem magCmp_ev (m n : Nat) (hm : (D m).length ≤ 100) (hn : (D n).length ≤ 100) {k : Nat} (hk : 1000 ≤ k) : spec_magCmp.f k (D m) (D n) = some (cmpI m n) := by
  unfold spec_magCmp.f
  by_cases h : (D m).length = (D n).length
  · rw [if_pos (by omega), w64 (by omega) (by omega), cmp_loop (D m) (D n) (D_dig m) (D_dig n) h hm (D m).length k (Nat.le_refl _) (by omega), List.take_of_length_le (Nat.le_refl _), h, List.take_of_length_le (Nat.le_refl _), V_D, V_D]
  · rw [if_neg (by omega)]
    have hm2 := D_lt m
    have hn2 := D_lt n
    by_cases h2 : (D m).length < (D n).length
    · rw [if_pos (by omega)]
      have hn0 : n ≠ 0 := (D_len_pos n).1 (by omega)
      have h3 := D_ge n hn0
      have h4 : 4294967296 ^ (D m).length ≤ 4294967296 ^ ((D n).length - 1) := Nat.pow_le_pow_right (by decide) (by omega)
      unfold cmpI
      rw [if_pos (by omega)]
    · rw [if_neg (by omega)]
      have hm0 : m ≠ 0 := (D_len_pos m).1 (by omega)
      have h3 := D_ge m hm0
      have h4 : 4294967296 ^ (D n).length ≤ 4294967296 ^ ((D m).length - 1) := Nat.pow_le_pow_right (by decide) (by omega)
      unfold cmpI
      rw [if_neg (by omega), if_pos (by omega)]

/-! ### magSub -/
theorem sub_step (k : Nat) (b x : List Int) (c : Int) (n i : Nat) (hb : Dig b) (hx : Dig x) (hc : 0 ≤ c ∧ c ≤ 1) (hi : i < n) (hn : n ≤ 200) (hl : x.length = n) :
    spec_magSub.l0 (k + 1) b x c (n : Int) (i : Int) = spec_magSub.l0 k b (x.set i ((x.getD i 0 - c - b.getD i 0) % 4294967296)) (if x.getD i 0 - c - b.getD i 0 < 0 then 1 else 0) (n : Int) ((i + 1 : Nat) : Int) := by
  have hgx := Dig_getD hx i
  have hgb := Dig_getD hb i
  have hw : wrap64 ((i : Int) + 1) = ((i + 1 : Nat) : Int) := by rw [w64 (by omega) (by omega)]; omega
  have ex : wrap64 (rd x (i : Int)) = x.getD i 0 := by rw [rd_getD]; exact w64 (by omega) (by omega)
  have eb : wrap64 (rd b (i : Int)) = b.getD i 0 := by rw [rd_getD]; exact w64 (by omega) (by omega)
  have e1 : wrap64 (x.getD i 0 - c) = x.getD i 0 - c := w64 (by omega) (by omega)
  have e2 : wrap64 (x.getD i 0 - c - b.getD i 0) = x.getD i 0 - c - b.getD i 0 := w64 (by omega) (by omega)
  have e3 : wrap64 (x.getD i 0 - c - b.getD i 0 + 4294967296) = x.getD i 0 - c - b.getD i 0 + 4294967296 := w64 (by omega) (by omega)
  have e4 : wrap64 (x.getD i 0 - c + 4294967296) = x.getD i 0 - c + 4294967296 := w64 (by omega) (by omega)
  simp only [spec_magSub.l0]
  rw [if_pos (by omega), if_pos (by omega), if_pos (by omega), ex, eb, e1, e2, e3, e4, hw, Int.toNat_natCast]
  by_cases h1 : i < b.length
  · rw [if_pos (by omega)]
    by_cases h2 : x.getD i 0 - c - b.getD i 0 < 0
    · rw [if_pos h2, if_pos h2, Int.add_emod_right]
    · rw [if_neg h2, if_neg h2]
  · have hz : b.getD i 0 = 0 := by rw [List.getD_eq_getElem?_getD, List.getElem?_eq_none (by omega)]; rfl
    rw [if_neg (by omega), hz, Int.sub_zero]
    by_cases h2 : x.getD i 0 - c < 0
    · rw [if_pos h2, if_pos h2, Int.add_emod_right]
    · rw [if_neg h2, if_neg h2]

theorem sub_loop (b : List Int) (hb : Dig b) (n : Nat) (hn : n ≤ 100) (A : Int) (d : Nat) : ∀ (k i : Nat) (x : List Int) (c : Int), i + d = n → 1000 + d < k → x.length = n → Dig x → 0 ≤ c → c ≤ 1 →
    V x - 4294967296 ^ i * c = A - V (b.take i) → (b.length ≤ n) → 0 ≤ A - V b →
    spec_magSub.l0 k b x c (n : Int) (i : Int) = some (D (A - V b).toNat) := by
  induction d with
  | zero =>
    intro k i x c hi hk hl hx hc0 hc1 hv hbl hA
    obtain ⟨k, rfl⟩ : ∃ m, k = m + 1 := ⟨k - 1, by omega⟩
    have hin : i = n := by omega
    subst hin
    simp only [spec_magSub.l0]
    rw [if_neg (by omega), trim_ev hx (by omega) (by omega)]
    rw [List.take_of_length_le hbl] at hv
    have hlt := V_lt hx
    rw [hl] at hlt
    have hcz : c = 0 := by
      by_cases h : c = 1
      · subst h
        rw [Int.mul_one] at hv
        omega
      · omega
    subst hcz
    rw [Int.mul_zero, Int.sub_zero] at hv
    rw [hv]
    rfl
  | succ d ih =>
    intro k i x c hi hk hl hx hc0 hc1 hv hbl hA
    obtain ⟨k, rfl⟩ : ∃ m, k = m + 1 := ⟨k - 1, by omega⟩
    have hgx := Dig_getD hx i
    have hgb := Dig_getD hb i
    rw [sub_step k b x c n i hb hx ⟨hc0, hc1⟩ (by omega) (by omega) hl]
    have hbt : V (b.take (i + 1)) = V (b.take i) + 4294967296 ^ i * b.getD i 0 := by
      by_cases h : i < b.length
      · exact V_take_succ b i h
      · have hz : b.getD i 0 = 0 := by rw [List.getD_eq_getElem?_getD, List.getElem?_eq_none (by omega)]; rfl
        rw [hz, List.take_of_length_le (by omega), List.take_of_length_le (by omega)]
        simp
    have hset := V_set x i ((x.getD i 0 - c - b.getD i 0) % 4294967296) (by omega)
    refine ih k (i + 1) _ _ (by omega) (by omega) (by rw [List.length_set]; exact hl) (Dig_set hx i (by omega)) (by split <;> omega) (by split <;> omega) ?_ hbl hA
    rw [hset, hbt, Int.pow_succ]
    have e : (x.getD i 0 - c - b.getD i 0) % 4294967296 = x.getD i 0 - c - b.getD i 0 + 4294967296 * (if x.getD i 0 - c - b.getD i 0 < 0 then 1 else 0) := by
      split <;> omega
    rw [e]
    generalize (if x.getD i 0 - c - b.getD i 0 < 0 then (1 : Int) else 0) = q at *
    generalize (4294967296 : Int) ^ i = P at *
    generalize x.getD i 0 = g at *
    generalize b.getD i 0 = h at *
    grind

theorem magSub_ev (m n : Nat) (hm : (D m).length ≤ 50) (hle : n ≤ m) {k : Nat} (hk : 2000 ≤ k) : spec_magSub.f k (D m) (D n) = some (D (m - n)) := by
  unfold spec_magSub.f
  simp only [Option.bind_some, List.nil_append]
  have hbl : (D n).length ≤ (D m).length := D_len_lt n _ (Nat.lt_of_le_of_lt hle (D_lt m))
  rw [if_pos (by simp; omega)]
  have h := sub_loop (D n) (D_dig n) (D m).length (by omega) (m : Int) (D m).length k 0 (D m) 0 (by omega) (by omega) rfl (D_dig m) (by omega) (by omega) (by rw [V_D]; simp [V]) hbl (by rw [V_D]; omega)
  rw [V_D] at h
  have e : ((m : Int) - (n : Int)).toNat = m - n := by omega
  rw [e] at h
  exact h

/-! ### sums, differences, order -/
theorem W_len {z : Int} (h : z.natAbs < 4294967296 ^ 10) : (D z.natAbs).length ≤ 10 := D_len_lt _ _ h

theorem wide_D (neg : Bool) (n : Nat) (hn : (D n).length ≤ 100) {k : Nat} (hk : 1000 ≤ k) : spec_wide.f k neg (D n) = some (W (if neg = true then -(n : Int) else n)) := by
  have h := wide_ev neg (D_dig n) hn hk
  rw [V_D] at h
  exact h

theorem Negated_ev (x : Int) (hx : x.natAbs < 4294967296 ^ 10) {k : Nat} (hk : 5000 ≤ k) : spec_Wide_Negated.f k (W x).1 (W x).2 = some (W (-x)) := by
  have hl := W_len hx
  show spec_Wide_Negated.f k (decide (x < 0)) (D x.natAbs) = _
  unfold spec_Wide_Negated.f
  rw [wide_D _ _ (by omega) (by omega)]
  simp only [Option.bind_some]
  have e : (if (!decide (x < 0)) = true then -(x.natAbs : Int) else (x.natAbs : Int)) = -x := by
    by_cases h : x < 0
    · rw [decide_eq_true h]; simp; omega
    · rw [decide_eq_false h]; simp; omega
  rw [e]
  first | done | rfl

theorem WideCmp_ev (x y : Int) (hx : x.natAbs < 4294967296 ^ 10) (hy : y.natAbs < 4294967296 ^ 10) {k : Nat} (hk : 5000 ≤ k) : spec_WideCmp.f k (W x).1 (W x).2 (W y).1 (W y).2 = some (cmpI x y) := by
  have hlx := W_len hx
  have hly := W_len hy
  obtain ⟨k, rfl⟩ : ∃ m, k = m + 2 := ⟨k - 2, by omega⟩
  show spec_WideCmp.f (k + 2) (decide (x < 0)) (D x.natAbs) (decide (y < 0)) (D y.natAbs) = _
  unfold spec_WideCmp.f
  have hc := fun (k : Nat) (hk : 1000 ≤ k) => magCmp_ev x.natAbs y.natAbs (by omega) (by omega) hk
  by_cases h1 : x < 0
  · rw [decide_eq_true h1, if_pos (by first | trivial | rfl)]
    show spec_WideCmp.j0 (k + 1 + 1) _ _ _ _ _ = _
    simp only [spec_WideCmp.j0]
    by_cases h2 : y < 0
    · rw [decide_eq_true h2, if_neg (by decide), if_pos (by first | trivial | rfl)]
      simp only [spec_WideCmp.j1]
      rw [if_neg (by decide), if_pos (by first | trivial | rfl), hc k (by omega)]
      simp only [Option.bind_some]
      have e : wrap64 (-(cmpI (x.natAbs : Int) (y.natAbs : Int))) = cmpI x y := by
        unfold cmpI wrap64
        repeat' split
        all_goals omega
      rw [e]
    · rw [decide_eq_false h2, if_pos (by decide)]
      unfold cmpI
      rw [if_pos (by omega)]
  · rw [decide_eq_false h1, if_neg (by decide)]
    show spec_WideCmp.j0 (k + 1 + 1) _ _ _ _ _ = _
    simp only [spec_WideCmp.j0]
    rw [if_neg (by decide), if_neg (by decide)]
    simp only [spec_WideCmp.j1]
    by_cases h2 : y < 0
    · rw [decide_eq_true h2, if_pos (by first | trivial | rfl)]
      unfold cmpI
      rw [if_neg (by omega), if_pos (by omega)]
    · rw [decide_eq_false h2, if_neg (by decide), if_neg (by decide), hc k (by omega)]
      simp only [Option.bind_some]
      have e : cmpI (x.natAbs : Int) (y.natAbs : Int) = cmpI x y := by
        unfold cmpI
        repeat' split
        all_goals omega
      rw [e]

theorem WideAdd_ev (x y : Int) (hx : x.natAbs < 4294967296 ^ 10) (hy : y.natAbs < 4294967296 ^ 10) {k : Nat} (hk : 5000 ≤ k) : spec_WideAdd.f k (W x).1 (W x).2 (W y).1 (W y).2 = some (W (x + y)) := by
  have hlx := W_len hx
  have hly := W_len hy
  show spec_WideAdd.f k (decide (x < 0)) (D x.natAbs) (decide (y < 0)) (D y.natAbs) = _
  unfold spec_WideAdd.f
  by_cases h : (decide (x < 0) == decide (y < 0)) = true
  · rw [if_pos h]
    obtain ⟨r, h1, h2, h3, h4⟩ := magAdd_ev (D_dig x.natAbs) (D_dig y.natAbs) (by omega) (by omega) (k := k) (by omega)
    rw [V_D, V_D] at h3
    rw [h1]
    simp only [Option.bind_some]
    rw [wide_ev _ h2 (by omega) (by omega)]
    simp only [Option.bind_some]
    have e : (if decide (x < 0) = true then -V r else V r) = x + y := by
      rw [h3]
      by_cases h5 : x < 0
      · have h6 : y < 0 := by simpa [h5] using h
        rw [decide_eq_true h5]; simp; omega
      · have h6 : ¬ y < 0 := by simpa [h5] using h
        rw [decide_eq_false h5]; simp; omega
    rw [e]
    first | done | rfl
  · rw [if_neg h, magCmp_ev _ _ (by omega) (by omega) (by omega)]
    simp only [Option.bind_some]
    have hne : (x < 0 ∧ ¬ y < 0) ∨ (¬ x < 0 ∧ y < 0) := by
      by_cases h5 : x < 0 <;> by_cases h6 : y < 0 <;> simp [h5, h6] at h ⊢
    by_cases hg : x.natAbs ≥ y.natAbs
    · have hc : cmpI (x.natAbs : Int) (y.natAbs : Int) ≥ 0 := by unfold cmpI; repeat' split; all_goals omega
      rw [if_pos hc, magSub_ev _ _ (by omega) hg (by omega)]
      simp only [Option.bind_some]
      have hl3 : (D (x.natAbs - y.natAbs)).length ≤ 10 := D_len_lt _ _ (by omega)
      rw [wide_D _ _ (by omega) (by omega)]
      simp only [Option.bind_some]
      have e : (if decide (x < 0) = true then -((x.natAbs - y.natAbs : Nat) : Int) else ((x.natAbs - y.natAbs : Nat) : Int)) = x + y := by
        rcases hne with ⟨h5, h6⟩ | ⟨h5, h6⟩
        · rw [decide_eq_true h5]; simp; omega
        · rw [decide_eq_false h5]; simp; omega
      rw [e]
      first | done | rfl
    · have hc : ¬ cmpI (x.natAbs : Int) (y.natAbs : Int) ≥ 0 := by unfold cmpI; repeat' split; all_goals omega
      rw [if_neg hc, magSub_ev _ _ (by omega) (by omega) (by omega)]
      simp only [Option.bind_some]
      have hl3 : (D (y.natAbs - x.natAbs)).length ≤ 10 := D_len_lt _ _ (by omega)
      rw [wide_D _ _ (by omega) (by omega)]
      simp only [Option.bind_some]
      have e : (if decide (y < 0) = true then -((y.natAbs - x.natAbs : Nat) : Int) else ((y.natAbs - x.natAbs : Nat) : Int)) = x + y := by
        rcases hne with ⟨h5, h6⟩ | ⟨h5, h6⟩
        · rw [decide_eq_false h6]; simp; omega
        · rw [decide_eq_true h6]; simp; omega
      rw [e]
      first | done | rfl

theorem WideSub_ev (x y : Int) (hx : x.natAbs < 4294967296 ^ 10) (hy : y.natAbs < 4294967296 ^ 10) {k : Nat} (hk : 5000 ≤ k) : spec_WideSub.f k (W x).1 (W x).2 (W y).1 (W y).2 = some (W (x - y)) := by
  unfold spec_WideSub.f
  rw [Negated_ev y hy hk]
  simp only [Option.bind_some]
  rw [WideAdd_ev x (-y) hx (by rw [Int.natAbs_neg]; exact hy) hk]
  simp only [Option.bind_some]
  rw [← Int.sub_eq_add_neg]
  first | done | rfl

theorem two_digits (n : Nat) (h : n < 18446744073709551616) : Dig [((n % 4294967296 : Nat) : Int), ((n / 4294967296 : Nat) : Int)] ∧ V [((n % 4294967296 : Nat) : Int), ((n / 4294967296 : Nat) : Int)] = n := by
  refine ⟨Dig_mk (by omega) (Dig_one (by omega)), ?_⟩
  simp only [V]
  omega

theorem Two_ev (n : Nat) (hn : n ≤ 128) {k : Nat} (hk : 5000 ≤ k) : spec_Two.f k (n : Int) = some (W (2 ^ n)) := by
  unfold spec_Two.f
  have hd : Int.tdiv (n : Int) 32 = ((n / 32 : Nat) : Int) := by rw [Int.tdiv_eq_ediv_of_nonneg (by omega)]; rfl
  have hm : Int.tmod (n : Int) 32 = ((n % 32 : Nat) : Int) := by rw [Int.tmod_eq_emod_of_nonneg (by omega)]; rfl
  have h1 : wrap64 (((n / 32 : Nat) : Int)) = ((n / 32 : Nat) : Int) := w64 (by omega) (by omega)
  have h2 : wrap64 (((n / 32 : Nat) : Int) + 1) = ((n / 32 + 1 : Nat) : Int) := by rw [w64 (by omega) (by omega)]; omega
  rw [hd, hm, h1, h2, Int.toNat_natCast, Int.toNat_natCast, if_pos (by omega), if_pos (by omega)]
  simp only [Option.bind_some]
  rw [List.length_replicate, if_pos (by omega), if_pos (by omega), if_pos (by omega)]
  have hs : shl .u32 1 (((n % 32 : Nat) : Int)) = ((2 ^ (n % 32) : Nat) : Int) := by
    unfold shl
    have hb32 : IntKind.u32.bits = 32 := rfl
    have e : min (((n % 32 : Nat) : Int)).toNat IntKind.u32.bits = n % 32 := by rw [hb32, Int.toNat_natCast]; omega
    rw [e, Int.one_mul]
    have hp : (2 : Nat) ^ (n % 32) < 2 ^ 32 := Nat.pow_lt_pow_right (by decide) (by omega)
    have hq : (2 : Int) ^ (n % 32) = ((2 ^ (n % 32) : Nat) : Int) := by simp
    rw [hq]
    generalize 2 ^ (n % 32) = p at hp
    exact u32_in _ (by omega)
  rw [hs]
  have hp : ((2 ^ (n % 32) : Nat) : Int) < 4294967296 := by
    have hp : (2 : Nat) ^ (n % 32) < 2 ^ 32 := Nat.pow_lt_pow_right (by decide) (by omega)
    generalize 2 ^ (n % 32) = p at hp ⊢
    omega
  have hp0 : 0 ≤ ((2 ^ (n % 32) : Nat) : Int) := Int.natCast_nonneg _
  have hdig : Dig ((List.replicate (n / 32 + 1) 0).set (n / 32) ((2 ^ (n % 32) : Nat) : Int)) := Dig_set (Dig_zeros _) _ ⟨hp0, hp⟩
  rw [wide_ev false hdig (by simp; omega) (by omega), V_set _ _ _ (by simp), V_zeros]
  have hz : (List.replicate (n / 32 + 1) (0 : Int)).getD (n / 32) 0 = 0 := by simp
  rw [hz]
  simp only [Option.bind_some, Bool.false_eq_true, if_false]
  have e : (0 : Int) + 4294967296 ^ (n / 32) * (((2 ^ (n % 32) : Nat) : Int) - 0) = 2 ^ n := by
    have h3 : (4294967296 : Int) = 2 ^ 32 := by decide
    have h4 : (((2 ^ (n % 32) : Nat) : Int)) = 2 ^ (n % 32) := by simp
    rw [Int.zero_add, Int.sub_zero, h3, h4, ← Int.pow_mul, ← Int.pow_add]
    congr 1
    omega
  rw [e]
  first | done | rfl

theorem u64_mod (x : Int) : IntKind.u64.wrap x = x % 18446744073709551616 := by
  simp [IntKind.wrap, IntKind.bits, IntKind.signed]

theorem WideInt_ev (x : Int) (h0 : -9223372036854775808 ≤ x) (h1 : x ≤ 9223372036854775807) {k : Nat} (hk : 5000 ≤ k) : spec_WideInt.f k x = some (W x) := by
  unfold spec_WideInt.f
  have hu : IntKind.u64.wrap x = x % 18446744073709551616 := u64_mod x
  by_cases h : x < 0
  · have hv : IntKind.u64.wrap (-(IntKind.u64.wrap x)) = (x.natAbs : Int) := by rw [hu, u64_mod]; omega
    rw [if_pos h, hv, decide_eq_true h]
    obtain ⟨hd, hV⟩ := two_digits x.natAbs (by omega)
    have e : (x.natAbs : Int) / 4294967296 % 4294967296 = ((x.natAbs / 4294967296 : Nat) : Int) := by omega
    have e2 : (x.natAbs : Int) % 4294967296 = ((x.natAbs % 4294967296 : Nat) : Int) := by omega
    rw [e, e2, wide_ev true hd (by simp) (by omega), hV]
    simp only [Option.bind_some, if_true]
    have e3 : -(x.natAbs : Int) = x := by omega
    rw [e3]
    first | done | rfl
  · have hv : IntKind.u64.wrap x = (x.natAbs : Int) := by rw [hu]; omega
    rw [if_neg h, hv, decide_eq_false h]
    obtain ⟨hd, hV⟩ := two_digits x.natAbs (by omega)
    have e : (x.natAbs : Int) / 4294967296 % 4294967296 = ((x.natAbs / 4294967296 : Nat) : Int) := by omega
    have e2 : (x.natAbs : Int) % 4294967296 = ((x.natAbs % 4294967296 : Nat) : Int) := by omega
    rw [e, e2, wide_ev false hd (by simp) (by omega), hV]
    simp only [Option.bind_some, Bool.false_eq_true, if_false]
    have e3 : (x.natAbs : Int) = x := by omega
    rw [e3]
    first | done | rfl

theorem W_zero : W 0 = (false, []) := by unfold W; rw [decide_eq_false (by decide)]; show (false, D 0) = _; rw [D_zero]

theorem bounds_signed (w : Nat) (hw : 1 ≤ w) (hw2 : w ≤ 64) {k : Nat} (hk : 5000 ≤ k) : laws_bounds.f k (w : Int) true = some ((W (-(2 ^ (w - 1)))).1, (W (-(2 ^ (w - 1)))).2, (W (2 ^ (w - 1) - 1)).1, (W (2 ^ (w - 1) - 1)).2) := by
  unfold laws_bounds.f
  have e : wrap64 ((w : Int) - 1) = ((w - 1 : Nat) : Int) := by rw [w64 (by omega) (by omega)]; omega
  have hb : ((2 : Int) ^ (w - 1)).natAbs < 4294967296 ^ 10 := by
    rw [Int.natAbs_pow]
    exact Nat.lt_of_lt_of_le (Nat.pow_lt_pow_right (by decide) (by omega : w - 1 < 64)) (by decide)
  rw [if_pos rfl, e, Two_ev (w - 1) (by omega) hk]
  simp only [Option.bind_some]
  rw [Negated_ev _ hb hk]
  simp only [Option.bind_some]
  rw [WideInt_ev 1 (by decide) (by decide) hk]
  simp only [Option.bind_some]
  rw [WideSub_ev _ 1 hb (by decide) hk]
  rfl

theorem bounds_unsigned (w : Nat) (hw2 : w ≤ 64) {k : Nat} (hk : 5000 ≤ k) : laws_bounds.f k (w : Int) false = some ((W 0).1, (W 0).2, (W (2 ^ w - 1)).1, (W (2 ^ w - 1)).2) := by
  unfold laws_bounds.f
  have hb : ((2 : Int) ^ w).natAbs < 4294967296 ^ 10 := by
    rw [Int.natAbs_pow]
    exact Nat.lt_of_lt_of_le (Nat.pow_lt_pow_right (by decide) (by omega : w < 65)) (by decide)
  rw [if_neg (by decide), Two_ev w (by omega) hk]
  simp only [Option.bind_some]
  rw [WideInt_ev 1 (by decide) (by decide) hk]
  simp only [Option.bind_some]
  rw [WideSub_ev _ 1 hb (by decide) hk, W_zero]
  rfl

/-! ### magMul -/
theorem getD_set_self (l : List Int) (j : Nat) (v : Int) (h : j < l.length) : (l.set j v).getD j 0 = v := by
  rw [List.getD_eq_getElem?_getD, List.getElem?_set_self h]; rfl
theorem getD_set_ne (l : List Int) (i j : Nat) (v : Int) (h : i ≠ j) : (l.set i v).getD j 0 = l.getD j 0 := by
  rw [List.getD_eq_getElem?_getD, List.getElem?_set_ne h, List.getD_eq_getElem?_getD]

theorem mul_bound {p q c g : Int} (hp : 0 ≤ p ∧ p < 4294967296) (hq : 0 ≤ q ∧ q < 4294967296) (hc : 0 ≤ c ∧ c < 4294967296) (hg : 0 ≤ g ∧ g < 4294967296) : 0 ≤ p * q ∧ p * q ≤ 18446744065119617025 := by
  refine ⟨Int.mul_nonneg hp.1 hq.1, ?_⟩
  have h1 : p * q ≤ 4294967295 * q := Int.mul_le_mul_of_nonneg_right (by omega) hq.1
  omega

theorem mul_step (k : Nat) (a b out : List Int) (i : Nat) (c I : Int) (t : Nat) (ha : Dig a) (hb : Dig b) (hout : Dig out) (hc : 0 ≤ c ∧ c < 4294967296) (hi : i < a.length) (ht : t < b.length) (hl : out.length = a.length + b.length) (hla : a.length ≤ 50) (hlb : b.length ≤ 50) :
    spec_magMul.l1 (k + 1) a b out (i : Int) c (a.length : Int) I (b.length : Int) (t : Int) =
      spec_magMul.l1 k a b (out.set (i + t) ((c + (a.getD i 0 * b.getD t 0 + out.getD (i + t) 0)) % 4294967296)) (i : Int) ((c + (a.getD i 0 * b.getD t 0 + out.getD (i + t) 0)) / 4294967296) (a.length : Int) I (b.length : Int) ((t + 1 : Nat) : Int) := by
  have ga := Dig_getD ha i
  have gb := Dig_getD hb t
  have go := Dig_getD hout (i + t)
  have hm := mul_bound ga gb hc go
  have e0 : wrap64 ((i : Int) + (t : Int)) = ((i + t : Nat) : Int) := by rw [w64 (by omega) (by omega)]; omega
  have e1 : wrap64 ((t : Int) + 1) = ((t + 1 : Nat) : Int) := by rw [w64 (by omega) (by omega)]; omega
  have ea : IntKind.u64.wrap (rd a (i : Int)) = a.getD i 0 := by rw [rd_getD]; exact u64_in _ (by omega)
  have eb : IntKind.u64.wrap (rd b (t : Int)) = b.getD t 0 := by rw [rd_getD]; exact u64_in _ (by omega)
  have eo : IntKind.u64.wrap (rd out ((i + t : Nat) : Int)) = out.getD (i + t) 0 := by rw [rd_getD]; exact u64_in _ (by omega)
  simp only [spec_magMul.l1]
  rw [e0, e1, ea, eb, eo]
  generalize a.getD i 0 = p at *
  generalize b.getD t 0 = q at *
  generalize out.getD (i + t) 0 = g at *
  generalize p * q = m at *
  rw [if_pos (by omega), if_pos (by omega), if_pos (by omega), if_pos (by omega), if_pos (by omega), if_pos (by omega), if_pos (by omega), u64_in m (by omega), u64_in (m + g) (by omega), u64_in (c + (m + g)) (by omega), Int.toNat_natCast]

theorem mul_ring {O2 O P2 M q U2 U Pi Pt S x y g c m : Int} {B : Int} (hset : O2 = O + M * (m - g)) (htk : U2 = U + Pt * y) (e : m + B * q = c + (x * y + g)) (hpw : P2 = M * B) (hpw2 : M = Pi * Pt) (hv : O + M * c = S + Pi * x * U) : O2 + P2 * q = S + Pi * x * U2 := by
  have h1 : O2 + P2 * q = O + M * (m - g) + M * B * q := by rw [hset, hpw]
  have h2 : O + M * (m - g) + M * B * q = O + M * (m + B * q) - M * g := by grind
  have h3 : S + Pi * x * U2 = S + Pi * x * U + Pi * x * (Pt * y) := by rw [htk]; grind
  rw [h1, h2, e, h3, ← hv, hpw2]
  grind

theorem mul_inner (a b : List Int) (i : Nat) (I : Int) (S : Int) (ha : Dig a) (hb : Dig b) (hi : i < a.length) (hla : a.length ≤ 50) (hlb : b.length ≤ 50) (R : Option (List Int)) (d : Nat) : ∀ (k t : Nat) (out : List Int) (c : Int), t + d = b.length → d < k → Dig out → 0 ≤ c → c < 4294967296 → out.length = a.length + b.length →
    (∀ j, i + b.length ≤ j → out.getD j 0 = 0) → V out + 4294967296 ^ (i + t) * c = S + 4294967296 ^ i * a.getD i 0 * V (b.take t) →
    (∀ out', Dig out' → out'.length = a.length + b.length → (∀ j, i + 1 + b.length ≤ j → out'.getD j 0 = 0) → V out' = S + 4294967296 ^ i * a.getD i 0 * V b → spec_magMul.l0 (k - d - 1) a b out' (a.length : Int) (wrap64 (I + 1)) = R) →
    spec_magMul.l1 k a b out (i : Int) c (a.length : Int) I (b.length : Int) (t : Int) = R := by
  induction d with
  | zero =>
    intro k t out c ht hk hd hc0 hc1 hl hz hv hR
    have HV := Aside0.mk hv
    clear hv
    obtain ⟨k, rfl⟩ : ∃ m, k = m + 1 := ⟨k - 1, by omega⟩
    have hte : t = b.length := by omega
    subst hte
    have e0 : wrap64 ((i : Int) + (b.length : Int)) = ((i + b.length : Nat) : Int) := by rw [w64 (by omega) (by omega)]; omega
    simp only [spec_magMul.l1]
    rw [if_neg (by omega), e0, if_pos (by omega), if_pos (by omega), Int.toNat_natCast]
    have e1 : c % 4294967296 = c := by omega
    rw [e1]
    have hzz := hz (i + b.length) (Nat.le_refl _)
    refine hR _ (Dig_set hd _ ⟨hc0, hc1⟩) (by rw [List.length_set]; exact hl) ?_ ?_
    · intro j hj
      rw [getD_set_ne _ _ _ _ (by omega)]
      exact hz j (by omega)
    · have h := V_set out (i + b.length) c (by omega)
      rw [hzz] at h
      have h2 := HV.out
      have h3 : b.take b.length = b := List.take_of_length_le (Nat.le_refl _)
      rw [h3] at h2
      have h4 : c - 0 = c := Int.sub_zero c
      rw [h4] at h
      exact h.trans h2
  | succ d ih =>
    intro k t out c ht hk hd hc0 hc1 hl hz hv hR
    have HV := Aside0.mk hv
    clear hv
    obtain ⟨k, rfl⟩ : ∃ m, k = m + 1 := ⟨k - 1, by omega⟩
    have ga := Dig_getD ha i
    have gb := Dig_getD hb t
    have go := Dig_getD hd (i + t)
    have hm := mul_bound ga gb ⟨hc0, hc1⟩ go
    rw [mul_step k a b out i c I t ha hb hd ⟨hc0, hc1⟩ hi (by omega) hl hla hlb]
    have hs0 : 0 ≤ c + (a.getD i 0 * b.getD t 0 + out.getD (i + t) 0) := by omega
    have hs1 : c + (a.getD i 0 * b.getD t 0 + out.getD (i + t) 0) < 18446744073709551616 := by omega
    refine ih k (t + 1) _ _ (by omega) (by omega) (Dig_set hd _ (by omega)) (by omega) (by omega) (by rw [List.length_set]; exact hl) ?_ ?_ ?_
    · intro j hj
      rw [getD_set_ne _ _ _ _ (by omega)]
      exact hz j hj
    · have hset := V_set out (i + t) ((c + (a.getD i 0 * b.getD t 0 + out.getD (i + t) 0)) % 4294967296) (by omega)
      have htk := V_take_succ b t (by omega)
      have e := Int.emod_add_mul_ediv (c + (a.getD i 0 * b.getD t 0 + out.getD (i + t) 0)) 4294967296
      have hpw : (4294967296 : Int) ^ (i + (t + 1)) = 4294967296 ^ (i + t) * 4294967296 := Int.pow_succ ..
      have hpw2 : (4294967296 : Int) ^ (i + t) = 4294967296 ^ i * 4294967296 ^ t := Int.pow_add ..
      exact mul_ring hset htk e hpw hpw2 HV.out
    · intro out' h1 h2 h3 h4
      have := hR out' h1 h2 h3 h4
      rwa [show k + 1 - (d + 1) - 1 = k - d - 1 from by omega] at this

theorem mul_outer (a b : List Int) (ha : Dig a) (hb : Dig b) (hla : a.length ≤ 20) (hlb : b.length ≤ 20) (d : Nat) : ∀ (k i : Nat) (out : List Int), i + d = a.length → 1000 + d * (b.length + 2) < k → Dig out → out.length = a.length + b.length → (∀ j, i + b.length ≤ j → out.getD j 0 = 0) → V out = V (a.take i) * V b →
    spec_magMul.l0 k a b out (a.length : Int) (i : Int) = some (D (V a * V b).toNat) := by
  induction d with
  | zero =>
    intro k i out hi hk hd hl hz hv
    obtain ⟨k, rfl⟩ : ∃ m, k = m + 1 := ⟨k - 1, by omega⟩
    simp only [spec_magMul.l0]
    have htk : a.take i = a := List.take_of_length_le (by omega)
    rw [htk] at hv
    rw [if_neg (by omega), trim_ev hd (by omega) (by omega), hv]
    simp only [Option.bind_some]
  | succ d ih =>
    intro k i out hi hk hd hl hz hv
    obtain ⟨k, rfl⟩ : ∃ m, k = m + 1 := ⟨k - 1, by omega⟩
    have hmul : (d + 1) * (b.length + 2) = d * (b.length + 2) + b.length + 2 := by rw [Nat.add_mul]; omega
    have h5 := V_take_succ a i (by omega)
    simp only [spec_magMul.l0]
    rw [if_pos (by omega)]
    refine mul_inner a b i (i : Int) (V (a.take i) * V b) ha hb (by omega) (by omega) (by omega) _ b.length k 0 out 0 (by omega) (by omega) hd (by omega) (by omega) hl hz (by simp [V, hv]) ?_
    intro out' h1 h2 h3 h4
    have e1 : wrap64 ((i : Int) + 1) = ((i + 1 : Nat) : Int) := by rw [w64 (by omega) (by omega)]; omega
    rw [e1]
    refine ih (k - b.length - 1) (i + 1) out' (by omega) (by omega) h1 h2 h3 ?_
    have h6 : V (a.take (i + 1)) * V b = V (a.take i) * V b + 4294967296 ^ i * a.getD i 0 * V b := (congrArg (fun z => z * V b) h5).trans (Int.add_mul _ _ _)
    exact h4.trans h6.symm

theorem magMul_ev (m n : Nat) (hm : (D m).length ≤ 10) (hn : (D n).length ≤ 10) {k : Nat} (hk : 2000 ≤ k) : spec_magMul.f k (D m) (D n) = some (D (m * n)) := by
  unfold spec_magMul.f
  have e1 : wrap64 (((D m).length : Int) + ((D n).length : Int)) = (((D m).length + (D n).length : Nat) : Int) := by rw [w64 (by omega) (by omega)]; omega
  rw [e1, Int.toNat_natCast, if_pos (by omega), if_pos (by omega)]
  have hb : (D m).length * ((D n).length + 2) ≤ 10 * 12 := Nat.mul_le_mul hm (by omega)
  have h := mul_outer (D m) (D n) (D_dig m) (D_dig n) (by omega) (by omega) (D m).length k 0 (List.replicate ((D m).length + (D n).length) 0) (by omega) (by omega) (Dig_zeros _) (by simp) (by
    intro j hj
    rw [List.getD_eq_getElem?_getD, List.getElem?_replicate]
    split <;> rfl) (by rw [V_zeros]; simp [V])
  rw [V_D, V_D, ← Int.natCast_mul, Int.toNat_natCast] at h
  exact h

theorem natAbs_mul_len {x y : Int} (hx : (D x.natAbs).length ≤ 10) (hy : (D y.natAbs).length ≤ 10) : (D (x.natAbs * y.natAbs)).length ≤ 20 := by
  refine D_len_lt _ _ ?_
  have h1 : x.natAbs < 4294967296 ^ 10 := Nat.lt_of_lt_of_le (D_lt _) (Nat.pow_le_pow_right (by decide) hx)
  have h2 : y.natAbs < 4294967296 ^ 10 := Nat.lt_of_lt_of_le (D_lt _) (Nat.pow_le_pow_right (by decide) hy)
  have h3 : (4294967296 : Nat) ^ 20 = 4294967296 ^ 10 * 4294967296 ^ 10 := by rw [← Nat.pow_add]
  rw [h3]
  exact Nat.mul_lt_mul'' h1 h2

theorem WideMul_ev (x y : Int) (hx : x.natAbs < 4294967296 ^ 10) (hy : y.natAbs < 4294967296 ^ 10) {k : Nat} (hk : 5000 ≤ k) : spec_WideMul.f k (W x).1 (W x).2 (W y).1 (W y).2 = some (W (x * y)) := by
  have hlx := W_len hx
  have hly := W_len hy
  show spec_WideMul.f k (decide (x < 0)) (D x.natAbs) (decide (y < 0)) (D y.natAbs) = _
  unfold spec_WideMul.f
  rw [magMul_ev _ _ hlx hly (by omega)]
  simp only [Option.bind_some]
  rw [wide_D _ _ (by have := natAbs_mul_len hlx hly; omega) (by omega)]
  simp only [Option.bind_some]
  have e : (if (decide (x < 0) != decide (y < 0)) = true then -((x.natAbs * y.natAbs : Nat) : Int) else ((x.natAbs * y.natAbs : Nat) : Int)) = x * y := by
    rw [Int.natCast_mul]
    by_cases h1 : x < 0 <;> by_cases h2 : y < 0
    · have e1 : (x.natAbs : Int) = -x := by omega
      have e2 : (y.natAbs : Int) = -y := by omega
      rw [decide_eq_true h1, decide_eq_true h2, if_neg (by decide), e1, e2, Int.neg_mul_neg]
    · have e1 : (x.natAbs : Int) = -x := by omega
      have e2 : (y.natAbs : Int) = y := by omega
      rw [decide_eq_true h1, decide_eq_false h2, if_pos (by decide), e1, e2, Int.neg_mul, Int.neg_neg]
    · have e1 : (x.natAbs : Int) = x := by omega
      have e2 : (y.natAbs : Int) = -y := by omega
      rw [decide_eq_false h1, decide_eq_true h2, if_pos (by decide), e1, e2, Int.mul_neg, Int.neg_neg]
    · have e1 : (x.natAbs : Int) = x := by omega
      have e2 : (y.natAbs : Int) = y := by omega
      rw [decide_eq_false h1, decide_eq_false h2, if_neg (by decide), e1, e2]
  rw [e]
  first | done | rfl

/-! ### magDiv, bit by bit: what is left -/
theorem D_getD (n j : Nat) : (D n).getD j 0 = ((n / 4294967296 ^ j % 4294967296 : Nat) : Int) := by
  induction j generalizing n with
  | zero =>
    by_cases h : n = 0
    · subst h; rw [D_zero]; rfl
    · rw [D_pos h]; simp
  | succ j ih =>
    by_cases h : n = 0
    · subst h; rw [D_zero]; simp
    · rw [D_pos h, getD_cons_succ, ih, Nat.div_div_eq_div_mul, Nat.pow_succ, Nat.mul_comm]

theorem bit_of (n i : Nat) : n / 4294967296 ^ (i / 32) % 4294967296 / 2 ^ (i % 32) % 2 = n / 2 ^ i % 2 := by
  have h1 : (4294967296 : Nat) ^ (i / 32) = 2 ^ (32 * (i / 32)) := by
    rw [Nat.pow_mul]
  have h2 : (4294967296 : Nat) = 2 ^ (i % 32) * 2 ^ (32 - i % 32) := by
    rw [← Nat.pow_add, show i % 32 + (32 - i % 32) = 32 from by omega]
  rw [h1]
  generalize hx : n / 2 ^ (32 * (i / 32)) = x
  rw [h2, Nat.mod_mul_right_div_self]
  have h3 : (2 : Nat) ^ (32 - i % 32) = 2 * 2 ^ (31 - i % 32) := by
    rw [← Nat.pow_succ']
    congr 1
    omega
  rw [h3, Nat.mod_mul_right_mod, ← hx, Nat.div_div_eq_div_mul, ← Nat.pow_add, show 32 * (i / 32) + i % 32 = i from by omega]

theorem bit_test (n i : Nat) : Go.bits .and .u32 (shr .u32 (rd (D n) ((i / 32 : Nat) : Int)) ((i % 32 : Nat) : Int)) 1 = ((n / 2 ^ i % 2 : Nat) : Int) := by
  have e : shr .u32 (rd (D n) ((i / 32 : Nat) : Int)) ((i % 32 : Nat) : Int) = ((n / 4294967296 ^ (i / 32) % 4294967296 / 2 ^ (i % 32) : Nat) : Int) := by
    unfold shr
    rw [rd_getD, D_getD, Int.toNat_natCast, show min (i % 32) IntKind.u32.bits = i % 32 from by simp [IntKind.bits]; omega]
    rw [Int.natCast_ediv, Int.natCast_pow]
    rfl
  rw [e]
  have hlt : n / 4294967296 ^ (i / 32) % 4294967296 / 2 ^ (i % 32) < 4294967296 := Nat.lt_of_le_of_lt (Nat.div_le_self _ _) (Nat.mod_lt _ (by decide))
  have h := u32_and_nat (n / 4294967296 ^ (i / 32) % 4294967296 / 2 ^ (i % 32)) 1 hlt (by decide)
  have e1 : ((1 : Nat) : Int) = 1 := rfl
  rw [e1] at h
  rw [h, Nat.and_one_is_mod, bit_of]

theorem mod_step (x p b : Nat) (hb : 0 < b) (h : x / 2 = p) : (if b ≤ 2 * (p % b) + x % 2 then 2 * (p % b) + x % 2 - b else 2 * (p % b) + x % 2) = x % b := by
  have hp := Nat.mod_lt p hb
  have e : x = 2 * p + x % 2 := by omega
  have ht : x % 2 < 2 := Nat.mod_lt _ (by decide)
  generalize x % 2 = t at *
  have h3 : 2 * p + t = (2 * (p % b) + t) + b * (2 * (p / b)) := by
    have e2 := Nat.div_add_mod p b
    have e4 : b * (2 * (p / b)) = 2 * (b * (p / b)) := Nat.mul_left_comm ..
    rw [e4]
    generalize b * (p / b) = c at *
    omega
  have h4 : x % b = (2 * (p % b) + t) % b := by
    rw [e, h3, Nat.add_mul_mod_self_left]
  rw [h4]
  generalize p % b = r at *
  by_cases hle : b ≤ 2 * r + t
  · rw [if_pos hle, Nat.mod_eq_sub_mod hle, Nat.mod_eq_of_lt (a := 2 * r + t - b) (by omega)]
  · rw [if_neg hle, Nat.mod_eq_of_lt (a := 2 * r + t) (by omega)]

theorem wm1 (i : Nat) (h : i ≤ 4000) : wrap64 ((i : Int) - 1) = (i : Int) - 1 := w64 (by omega) (by omega)

theorem cmp_ge (x b : Nat) (h : b ≤ x) : cmpI (x : Int) (b : Int) ≥ 0 := by unfold cmpI; repeat' split; all_goals omega
theorem cmp_lt (x b : Nat) (h : ¬ b ≤ x) : ¬ cmpI (x : Int) (b : Int) ≥ 0 := by unfold cmpI; repeat' split; all_goals omega

/-- What is done with a digit list behind the test of a bit. -/
theorem div_tail2 (n b i k : Nat) (hbl : (D b).length ≤ 20) (r' : List Int) (q : List Int) (hr : Dig r') (hrl : r'.length ≤ 40) (hq : q.length = (D n).length) (hi : i / 32 < (D n).length) (hk : 3000 ≤ k) (hi2 : i ≤ 4000) (x : Nat) (hx : V r' = (x : Int)) (R : Option (List Int × List Int))
    (hy : b ≤ x → spec_magDiv.l0 k (D n) (D b) (q.set ((i / 32 : Nat) : Int).toNat (Go.bits .or .u32 (rd q ((i / 32 : Nat) : Int)) (shl .u32 1 ((i % 32 : Nat) : Int)))) (D (x - b)) ((i : Int) - 1) = R)
    (hn : ¬ b ≤ x → spec_magDiv.l0 k (D n) (D b) q (D x) ((i : Int) - 1) = R) :
    spec_magDiv.j1 (k + 1) (D n) (D b) q r' (i : Int) = R := by
  have HY := Aside0.mk hy
  have HN := Aside0.mk hn
  clear hy hn
  have hd : Int.tdiv (i : Int) 32 = ((i / 32 : Nat) : Int) := by rw [Int.tdiv_eq_ediv_of_nonneg (by omega)]; rfl
  have hm : Int.tmod (i : Int) 32 = ((i % 32 : Nat) : Int) := by rw [Int.tmod_eq_emod_of_nonneg (by omega)]; rfl
  have h1 : wrap64 (((i / 32 : Nat) : Int)) = ((i / 32 : Nat) : Int) := w64 (by omega) (by omega)
  have hw := wm1 i hi2
  have hxl : (D x).length ≤ 40 := by
    refine D_len_lt _ _ ?_
    have h2 := V_lt hr
    rw [hx] at h2
    have h3 : x < 4294967296 ^ r'.length := by
      have e : ((4294967296 : Int) ^ r'.length) = ((4294967296 ^ r'.length : Nat) : Int) := by rw [Int.natCast_pow]; rfl
      rw [e] at h2
      exact Int.ofNat_lt.1 h2
    exact Nat.lt_of_lt_of_le h3 (Nat.pow_le_pow_right (by decide) hrl)
  simp only [spec_magDiv.j1]
  rw [trim_ev hr (by omega) (by omega), hx, Int.toNat_natCast]
  simp only [Option.bind_some]
  rw [magCmp_ev _ _ (by omega) (by omega) (by omega)]
  simp only [Option.bind_some]
  rw [hd, hm, h1, hw]
  clear hd hm h1 hw
  by_cases hle : b ≤ x
  · have hc := cmp_ge x b hle
    rw [if_pos hc, magSub_ev _ _ (by omega) hle (by omega)]
    simp only [Option.bind_some]
    rw [if_pos (by omega), if_pos (by omega), if_pos (by omega)]
    exact HY.out hle
  · have hc := cmp_lt x b hle
    rw [if_neg hc]
    exact HN.out hle

theorem V_two (x : Nat) (hx : (D x).length ≤ 20) {k : Nat} (hk : 1000 ≤ k) : ∃ r, spec_magAdd.f k (D x) (D x) = some r ∧ Dig r ∧ V r = ((2 * x : Nat) : Int) ∧ r.length ≤ 21 := by
  obtain ⟨r, h1, h2, h3, h4⟩ := magAdd_ev (D_dig x) (D_dig x) (by omega) (by omega) hk
  refine ⟨r, h1, h2, ?_, by omega⟩
  rw [h3, V_D]
  omega

theorem at_bit (d n : Nat) (hn : n ≤ 10) (hd : d + 1 ≤ 32 * n) : Int.tdiv (d : Int) 32 = ((d / 32 : Nat) : Int) ∧ Int.tmod (d : Int) 32 = ((d % 32 : Nat) : Int) ∧ wrap64 (((d / 32 : Nat) : Int)) = ((d / 32 : Nat) : Int) ∧ d / 32 < n := by
  refine ⟨by rw [Int.tdiv_eq_ediv_of_nonneg (by omega)]; rfl, by rw [Int.tmod_eq_emod_of_nonneg (by omega)]; rfl, w64 (by omega) (by omega), by omega⟩

theorem len_mod (n m b : Nat) (hb : 0 < b) (hbl : (D b).length ≤ 10) : (D (n / m % b)).length ≤ 10 :=
  D_len_lt _ _ (Nat.lt_of_lt_of_le (Nat.lt_trans (Nat.mod_lt _ hb) (D_lt b)) (Nat.pow_le_pow_right (by decide) hbl))

theorem div_round (n b d k p t : Nat) (hb : 0 < b) (hn : (D n).length ≤ 10) (hbl : (D b).length ≤ 10) (hd : d + 1 ≤ 32 * (D n).length) (hk : 3000 ≤ k) (q r' : List Int) (hq : q.length = (D n).length) (hd' : Dig r') (hl' : r'.length ≤ 40)
    (hv' : V r' = ((2 * p + t : Nat) : Int)) (ht : Aside0 (t = n / 2 ^ d % 2)) (hp : Aside0 (p = n / 2 ^ (d + 1) % b)) :
    ∃ q'' : List Int, q''.length = (D n).length ∧ ∀ R, spec_magDiv.l0 k (D n) (D b) q'' (D (n / 2 ^ d % b)) ((d : Int) - 1) = R → spec_magDiv.j1 (k + 1) (D n) (D b) q r' (d : Int) = R := by
  have hi2 : d ≤ 4000 := by omega
  have hi : d / 32 < (D n).length := (at_bit d (D n).length hn hd).2.2.2
  have hbl2 : (D b).length ≤ 20 := by omega
  have hms : (if b ≤ 2 * p + t then 2 * p + t - b else 2 * p + t) = n / 2 ^ d % b := by
    have h := mod_step (n / 2 ^ d) (n / 2 ^ (d + 1)) b hb (by rw [Nat.div_div_eq_div_mul, Nat.pow_succ])
    rw [← hp.out, ← ht.out] at h
    exact h
  by_cases hle : b ≤ 2 * p + t
  · rw [if_pos hle] at hms
    refine ⟨q.set (((d / 32 : Nat) : Int)).toNat (Go.bits .or .u32 (rd q ((d / 32 : Nat) : Int)) (shl .u32 1 ((d % 32 : Nat) : Int))), (List.length_set ..).trans hq, fun R hR => ?_⟩
    rw [← hms] at hR
    exact div_tail2 n b d k hbl2 r' q hd' hl' hq hi hk hi2 _ hv' R (fun _ => hR) (fun h => absurd hle h)
  · rw [if_neg hle] at hms
    refine ⟨q, hq, fun R hR => ?_⟩
    rw [← hms] at hR
    exact div_tail2 n b d k hbl2 r' q hd' hl' hq hi hk hi2 _ hv' R (fun h => absurd h hle) (fun _ => hR)

theorem div_unf (n b d k p t : Nat) (q r : List Int) (hn : (D n).length ≤ 10) (hd : d + 1 ≤ 32 * (D n).length) (hr : spec_magAdd.f (k + 1) (D p) (D p) = some r) (ht : t = n / 2 ^ d % 2) :
    spec_magDiv.l0 (k + 1 + 1) (D n) (D b) q (D p) (d : Int) = if ((t : Nat) : Int) = 1 then ((spec_magAdd.f (k + 1) r [1]).bind fun r2 => spec_magDiv.j1 (k + 1) (D n) (D b) q r2 (d : Int)) else spec_magDiv.j1 (k + 1) (D n) (D b) q r (d : Int) := by
  obtain ⟨hdv, hmv, h1, hlt⟩ := at_bit d (D n).length hn hd
  have bt := bit_test n d
  rw [← ht] at bt
  have hd0 : (d : Int) ≥ 0 := Int.natCast_nonneg _
  simp only [spec_magDiv.l0]
  rw [if_pos hd0, hr, Option.bind_some, hdv, hmv, h1, if_pos (Int.natCast_nonneg _), if_pos (Int.ofNat_lt.2 hlt), if_pos (Int.natCast_nonneg _), bt]

theorem div_loop (n b : Nat) (hb : 0 < b) (hn : (D n).length ≤ 10) (hbl : (D b).length ≤ 10) (d : Nat) : ∀ (k : Nat) (q : List Int), d ≤ 32 * (D n).length → 4000 + 2 * d < k → q.length = (D n).length →
    ∃ q' : List Int, spec_magDiv.l0 k (D n) (D b) q (D (n / 2 ^ d % b)) ((d : Int) - 1) = (spec_trim.f (k - 2 * d - 1) q').bind (fun t => some (t, D (n % b))) ∧ q'.length = (D n).length := by
  induction d with
  | zero =>
    intro k q _ hk hq
    obtain ⟨k, rfl⟩ : ∃ m, k = m + 1 := ⟨k - 1, by omega⟩
    refine ⟨q, ?_, hq⟩
    simp only [spec_magDiv.l0]
    have e : k + 1 - 2 * 0 - 1 = k := by omega
    rw [if_neg (by decide), Nat.pow_zero, Nat.div_one, e]
  | succ d ih =>
    intro k q hd hk hq
    obtain ⟨k, rfl⟩ : ∃ m, k = m + 2 := ⟨k - 2, by omega⟩
    have hk3 : 3000 ≤ k := by omega
    have hk4 : 1000 ≤ k + 1 := by omega
    have hd1 : d ≤ 32 * (D n).length := by omega
    have hk5 : 4000 + 2 * d < k := by omega
    have e0 : ((d + 1 : Nat) : Int) - 1 = (d : Int) := by omega
    have e5 : k + 2 - 2 * (d + 1) - 1 = k - 2 * d - 1 := by omega
    have hd0 : (d : Int) ≥ 0 := Int.natCast_nonneg _
    obtain ⟨t, ht⟩ : ∃ t, t = n / 2 ^ d % 2 := ⟨_, rfl⟩
    obtain ⟨p, hp⟩ : ∃ p, p = n / 2 ^ (d + 1) % b := ⟨_, rfl⟩
    have hrl : (D p).length ≤ 10 := by rw [hp]; exact len_mod n _ b hb hbl
    have ht2 : t < 2 := by rw [ht]; exact Nat.mod_lt _ (by decide)
    rw [e0, ← hp]
    have HT := Aside0.mk ht
    have HP := Aside0.mk hp
    clear ht hp hk
    obtain ⟨r, hr1, hr2, hr3, hr4⟩ := V_two p (by omega) hk4
    have fin : ∀ (r' : List Int), Dig r' → r'.length ≤ 40 → V r' = ((2 * p + t : Nat) : Int) →
        ∃ q' : List Int, spec_magDiv.j1 (k + 1) (D n) (D b) q r' (d : Int) = (spec_trim.f (k + 2 - 2 * (d + 1) - 1) q').bind (fun t => some (t, D (n % b))) ∧ q'.length = (D n).length := by
      intro r' hd' hl' hv'
      obtain ⟨q'', hq'', hj⟩ := div_round n b d k p t hb hn hbl hd hk3 q r' hq hd' hl' hv' HT HP
      obtain ⟨q', he, hq'⟩ := ih k q'' hd1 hk5 hq''
      exact ⟨q', hj _ (by rw [he, e5]), hq'⟩
    have hu := div_unf n b d k p t q r hn hd hr1 HT.out
    show ∃ q' : List Int, spec_magDiv.l0 (k + 1 + 1) (D n) (D b) q (D p) (d : Int) = _ ∧ _
    rw [hu]
    clear hu ih
    by_cases hbit : t = 1
    · rw [if_pos (by rw [hbit]; rfl)]
      obtain ⟨r2, h21, h22, h23, h24⟩ := magAdd_ev (b := [1]) hr2 (Dig_one ⟨by decide, by decide⟩) (by omega) (by decide) hk4
      rw [h21]
      have hl1 : ([1] : List Int).length = 1 := rfl
      rw [hl1] at h24
      refine (fin r2 h22 (by omega) ?_)
      have hV1 : V [1] = 1 := rfl
      rw [h23, hr3, hV1]
      omega
    · have ht0 : t = 0 := by omega
      rw [if_neg (by rw [ht0]; decide)]
      refine fin r hr2 (by omega) ?_
      rw [hr3]
      omega

theorem magDiv_ev (n b : Nat) (hb : 0 < b) (hn : (D n).length ≤ 10) (hbl : (D b).length ≤ 10) {k : Nat} (hk : 5000 ≤ k) :
    ∃ q' : List Int, q'.length = (D n).length ∧ spec_magDiv.f k (D n) (D b) = (spec_trim.f (k - 2 * (32 * (D n).length) - 1) q').bind (fun t => some (t, D (n % b))) := by
  unfold spec_magDiv.f
  have e1 : wrap64 (32 * ((D n).length : Int)) = 32 * ((D n).length : Int) := w64 (by omega) (by omega)
  have e2 : wrap64 (32 * ((D n).length : Int) - 1) = ((32 * (D n).length : Nat) : Int) - 1 := by rw [w64 (by omega) (by omega)]; omega
  rw [e1, e2, if_pos (by omega), if_pos (by omega)]
  have h0 : n / 2 ^ (32 * (D n).length) = 0 := by
    rw [Nat.div_eq_of_lt]
    have := D_lt n
    rw [Nat.pow_mul]
    exact this
  obtain ⟨q', h1, h2⟩ := div_loop n b hb hn hbl (32 * (D n).length) k (List.replicate ((D n).length : Int).toNat 0) (Nat.le_refl _) (by omega) (by simp)
  rw [h0, Nat.zero_mod, D_zero] at h1
  exact ⟨q', h2, h1⟩

/-- Any list is cut. -/
theorem trim_any (n : Nat) : ∀ (k : Nat) (l : List Int), l.length = n → n ≤ 100 → n < k → ∃ t, spec_trim.l0 k l = some t ∧ t.length ≤ n := by
  induction n with
  | zero =>
    intro k l hl _ hk
    obtain ⟨k, rfl⟩ : ∃ m, k = m + 1 := ⟨k - 1, by omega⟩
    refine ⟨l, ?_, by omega⟩
    simp only [spec_trim.l0]
    rw [if_neg (by omega)]
  | succ n ih =>
    intro k l hl hn hk
    obtain ⟨k, rfl⟩ : ∃ m, k = m + 1 := ⟨k - 1, by omega⟩
    have hw : wrap64 ((l.length : Int) - 1) = (n : Int) := by rw [w64 (by omega) (by omega)]; omega
    simp only [spec_trim.l0]
    rw [hw, if_pos (by omega), if_pos (by omega), if_pos (by omega)]
    by_cases h0 : rd l (n : Int) = 0
    · rw [if_pos h0, if_pos (by omega), Int.toNat_natCast]
      obtain ⟨t, h1, h2⟩ := ih k (l.take n) (by rw [List.length_take]; omega) (by omega) (by omega)
      exact ⟨t, h1, by omega⟩
    · rw [if_neg h0]
      exact ⟨l, rfl, by omega⟩

theorem WideDiv_ev (x : Int) (b : Nat) (hb : 0 < b) (hx : x.natAbs < 4294967296 ^ 10) (hb2 : b < 4294967296 ^ 10) {k : Nat} (hk : 5000 ≤ k) :
    ∃ qn ql, spec_WideDiv.f k (W x).1 (W x).2 (W (b : Int)).1 (W (b : Int)).2 = some (qn, ql, (W (if x < 0 then -((x.natAbs % b : Nat) : Int) else ((x.natAbs % b : Nat) : Int))).1, (W (if x < 0 then -((x.natAbs % b : Nat) : Int) else ((x.natAbs % b : Nat) : Int))).2) := by
  have hlx := W_len hx
  have hlb : (D b).length ≤ 10 := D_len_lt _ _ hb2
  have eb : ((b : Int)).natAbs = b := by omega
  have ebW : W (b : Int) = (decide ((b : Int) < 0), D b) := by unfold W; rw [eb]
  rw [ebW]
  show ∃ qn ql, spec_WideDiv.f k (decide (x < 0)) (D x.natAbs) (decide ((b : Int) < 0)) (D b) = _
  unfold spec_WideDiv.f
  obtain ⟨q', h1, h2⟩ := magDiv_ev x.natAbs b hb hlx hlb hk
  obtain ⟨t, h3, h4⟩ := trim_any q'.length (k - 2 * (32 * (D x.natAbs).length) - 1) q' rfl (by omega) (by omega)
  have h3' : spec_trim.f (k - 2 * (32 * (D x.natAbs).length) - 1) q' = some t := h3
  rw [h2, h3']
  simp only [Option.bind_some]
  obtain ⟨t2, h5, h6⟩ := trim_any t.length k t rfl (by omega) (by omega)
  have h5' : spec_trim.f k t = some t2 := h5
  have hw : ∀ s : Bool, ∃ p, spec_wide.f k s t = some p := by
    intro s
    unfold spec_wide.f
    rw [h5']
    simp only [Option.bind_some]
    cases s
    · exact ⟨_, rfl⟩
    · exact ⟨_, rfl⟩
  obtain ⟨p, hp⟩ := hw (decide (x < 0) != decide ((b : Int) < 0))
  rw [hp]
  simp only [Option.bind_some]
  have hrl : (D (x.natAbs % b)).length ≤ 10 := D_len_lt _ _ (Nat.lt_trans (Nat.mod_lt _ hb) hb2)
  rw [wide_D _ _ (by omega) (by omega)]
  simp only [Option.bind_some]
  refine ⟨p.1, p.2, ?_⟩
  by_cases h : x < 0
  · rw [decide_eq_true h, if_pos rfl, if_pos h]
    first | done | rfl
  · rw [decide_eq_false h, if_neg (by decide), if_neg h]
    first | done | rfl

/-! ### ToWords -/
theorem low_words (m : Nat) : rd (D m) 0 + 4294967296 * rd (D m) 1 = ((m % 18446744073709551616 : Nat) : Int) := by
  have h0 : rd (D m) 0 = ((m % 4294967296 : Nat) : Int) := by
    have h := D_getD m 0
    rw [← rd_getD] at h
    rw [Nat.pow_zero, Nat.div_one] at h
    exact h
  have h1 : rd (D m) 1 = ((m / 4294967296 % 4294967296 : Nat) : Int) := by
    have h := D_getD m 1
    rw [← rd_getD, Nat.pow_one] at h
    exact h
  rw [h0, h1]
  omega


theorem or_words (a b : Int) (ha : 0 ≤ a ∧ a < 4294967296) (hb : 0 ≤ b ∧ b < 4294967296) : Go.bits .or .u64 a (shl .u64 b 32) = a + 4294967296 * b := by
  obtain ⟨m, rfl⟩ := Int.eq_ofNat_of_zero_le ha.1
  obtain ⟨n, rfl⟩ := Int.eq_ofNat_of_zero_le hb.1
  have hm : m < 2 ^ 32 := by omega
  have hn : n < 4294967296 := by omega
  have e : shl .u64 (n : Int) 32 = ((n * 4294967296 : Nat) : Int) := by
    unfold shl
    have h1 : min (32 : Int).toNat IntKind.u64.bits = 32 := by decide
    rw [h1]
    have h2 : (2 : Int) ^ 32 = 4294967296 := by decide
    rw [h2, u64_in _ (by omega)]
    omega
  rw [e, u64_or_nat m (n * 4294967296) (by omega) (by omega)]
  have h3 : m ||| n * 4294967296 = n * 4294967296 + m := by
    rw [Nat.or_comm]
    have h4 := Nat.shiftLeft_add_eq_or_of_lt hm n
    rw [Nat.shiftLeft_eq] at h4
    have h5 : (2 : Nat) ^ 32 = 4294967296 := by decide
    rw [h5] at h4
    exact h4.symm
  rw [h3]
  omega

theorem or_zero (a : Int) (ha : 0 ≤ a ∧ a < 4294967296) : Go.bits .or .u64 0 (shl .u64 a 0) = a := by
  obtain ⟨m, rfl⟩ := Int.eq_ofNat_of_zero_le ha.1
  have e : shl .u64 (m : Int) 0 = (m : Int) := by
    unfold shl
    have h1 : min (0 : Int).toNat IntKind.u64.bits = 0 := by decide
    rw [h1]
    have h2 : (2 : Int) ^ 0 = 1 := by decide
    rw [h2, Int.mul_one, u64_in _ (by omega)]
  rw [e]
  have h := u64_or_nat 0 m (by omega) (by omega)
  rw [Nat.zero_or] at h
  exact h

theorem rd_dig {l : List Int} (h : Dig l) (i : Nat) : 0 ≤ rd l (i : Int) ∧ rd l (i : Int) < 4294967296 := by rw [rd_getD]; exact Dig_getD h i

/-- The words of an integer of two digits at the most are put together. -/
theorem words_ev (neg fits : Bool) (l : List Int) (hd : Dig l) (hl : l.length ≤ 100) (k : Nat) : spec_ToWords.j1 (k + 6) 1 fits neg l = some ([rd l 0 + 4294967296 * rd l 1], fits) := by
  have w0 : wrap64 (wrap64 (2 * 0) + 0) = 0 := by unfold wrap64; omega
  have w1 : wrap64 (wrap64 (2 * 0) + 1) = 1 := by unfold wrap64; omega
  have w2 : wrap64 (0 + 1) = 1 := by unfold wrap64; omega
  have w3 : wrap64 (1 + 1) = 2 := by unfold wrap64; omega
  have w4 : wrap64 (32 * 0) = 0 := by unfold wrap64; omega
  have w5 : wrap64 (32 * 1) = 32 := by unfold wrap64; omega
  have r0 := rd_dig hd 0
  have r1 := rd_dig hd 1
  have c0 : ((0 : Nat) : Int) = 0 := rfl
  have c1 : ((1 : Nat) : Int) = 1 := rfl
  rw [c0] at r0
  rw [c1] at r1
  have u0 : IntKind.u64.wrap (rd l 0) = rd l 0 := u64_in _ (by omega)
  have u1 : IntKind.u64.wrap (rd l 1) = rd l 1 := u64_in _ (by omega)
  have z0 : l.length ≤ 0 → rd l 0 = 0 := fun h => by
    have := rd_getD l 0
    rw [c0] at this
    rw [this, List.getD_eq_getElem?_getD, List.getElem?_eq_none h]
    rfl
  have z1 : l.length ≤ 1 → rd l 1 = 0 := fun h => by
    have := rd_getD l 1
    rw [c1] at this
    rw [this, List.getD_eq_getElem?_getD, List.getElem?_eq_none h]
    rfl
  have rone : ∀ x : Int, rd [x] 0 = x := fun x => rfl
  have sone : ∀ x y : Int, [x].set (0 : Int).toNat y = [y] := fun x y => rfl
  have fin : ∀ (K : Nat) (x : Int), spec_ToWords.l0 (K + 1) fits [x] 1 1 neg l = some ([x], fits) := by
    intro K x
    simp only [spec_ToWords.l0]
    rw [if_neg (by decide)]
  have l2 : ∀ (K : Nat) (x : Int), spec_ToWords.l1 (K + 1) fits [x] 0 2 1 0 neg l = spec_ToWords.l0 K fits [x] 1 1 neg l := by
    intro K x
    simp only [spec_ToWords.l1]
    rw [if_neg (by decide), w2]
  have one_in : ∀ x : Int, (0 : Int) < (([x] : List Int).length : Int) := fun x => by simp
  have l1 : ∀ (K : Nat) (x : Int), 0 ≤ x ∧ x < 4294967296 → spec_ToWords.l1 (K + 1) fits [x] 0 1 1 0 neg l = spec_ToWords.l1 K fits [x + 4294967296 * rd l 1] 0 2 1 0 neg l := by
    intro K x hx
    have hr := or_words x (rd l 1) hx r1
    simp only [spec_ToWords.l1]
    rw [if_pos (by decide), w1, w3, w5]
    by_cases h : (1 : Int) < (l.length : Int)
    · rw [if_pos h, if_pos (by decide), if_pos (one_in x), if_pos (by decide), if_pos (by decide), rone, u1, hr, sone]
    · rw [if_neg h, z1 (by omega), Int.mul_zero, Int.add_zero]
  have l0 : ∀ (K : Nat), spec_ToWords.l1 (K + 1) fits [0] 0 0 1 0 neg l = spec_ToWords.l1 K fits [rd l 0] 0 1 1 0 neg l := by
    intro K
    have hr := or_zero (rd l 0) r0
    simp only [spec_ToWords.l1]
    rw [if_pos (by decide), w0, w2, w4]
    by_cases h : (0 : Int) < (l.length : Int)
    · rw [if_pos h, if_pos (by decide), if_pos (one_in 0), if_pos (by decide), if_pos (by decide), rone, u0, hr, sone]
    · have hz := z0 (by omega)
      rw [if_neg h, hz]
  have h1 : ∀ K : Nat, spec_ToWords.j1 (K + 1) 1 fits neg l = spec_ToWords.l0 K fits [0] 1 0 neg l := by
    intro K
    simp only [spec_ToWords.j1]
    rw [if_pos (by decide), if_pos (by decide)]
    rfl
  have h2 : ∀ K : Nat, spec_ToWords.l0 (K + 1) fits [0] 1 0 neg l = spec_ToWords.l1 K fits [0] 0 0 1 0 neg l := by
    intro K
    simp only [spec_ToWords.l0]
    rw [if_pos (by decide)]
  have e : k + 6 = k + 1 + 1 + 1 + 1 + 1 + 1 := rfl
  rw [e, h1, h2, l0, l1 _ _ r0, l2, fin]

theorem ToWords_ev (x : Int) (hx : x.natAbs < 4294967296 ^ 9) {k : Nat} (hk : 6000 ≤ k) : ∃ fits, spec_ToWords.f k (W x).1 (W x).2 1 = some ([x % 18446744073709551616], fits) := by
  have hx10 : x.natAbs < 4294967296 ^ 10 := Nat.lt_trans hx (by decide)
  have h63 : ((2 : Int) ^ 63).natAbs < 4294967296 ^ 10 := by decide
  have h64 : ((18446744073709551616 : Nat) : Int) = 2 ^ 64 := by decide
  have hk5 : 5000 ≤ k := by omega
  have t63 := Two_ev 63 (by omega) hk5
  have e63 : wrap64 (wrap64 (64 * 1) - 1) = ((63 : Nat) : Int) := by unfold wrap64; omega
  have e64 : wrap64 (64 * 1) = ((64 : Nat) : Int) := by unfold wrap64; omega
  obtain ⟨K, hK⟩ : ∃ K, k = K + 6 + 1 := ⟨k - 7, by omega⟩
  have hK5 : 5000 ≤ K + 6 := by omega
  have t64 := Two_ev 64 (by omega) hK5
  have main : ∀ fits, spec_ToWords.j0 k 1 fits (W x).1 (W x).2 = some ([x % 18446744073709551616], fits) := by
    intro fits
    rw [hK]
    simp only [spec_ToWords.j0]
    by_cases h : x < 0
    · have hn1 : (W x).1 = true := decide_eq_true h
      obtain ⟨qn, ql, hdiv⟩ := WideDiv_ev x 18446744073709551616 (by decide) hx10 (by decide) hK5
      rw [h64, if_pos h] at hdiv
      have hr : (-((x.natAbs % 18446744073709551616 : Nat) : Int)).natAbs < 4294967296 ^ 10 := by
        have h1 : x.natAbs % 18446744073709551616 < 18446744073709551616 := Nat.mod_lt _ (by decide)
        have h2 : (18446744073709551616 : Nat) ≤ 4294967296 ^ 10 := by decide
        rw [Int.natAbs_neg, Int.natAbs_natCast]
        exact Nat.lt_of_lt_of_le h1 h2
      have hadd := WideAdd_ev (-((x.natAbs % 18446744073709551616 : Nat) : Int)) (2 ^ 64) hr (by decide) hK5
      rw [if_pos hn1, e64, t64, Option.bind_some, hdiv, Option.bind_some, Option.bind_some, hadd, Option.bind_some]
      have hwd := words_ev (W (-((x.natAbs % 18446744073709551616 : Nat) : Int) + 2 ^ 64)).1 fits (W (-((x.natAbs % 18446744073709551616 : Nat) : Int) + 2 ^ 64)).2 (D_dig _) (by
        have h3 : (W (-((x.natAbs % 18446744073709551616 : Nat) : Int) + 2 ^ 64)).2.length ≤ 10 := W_len (by
          have h1 : x.natAbs % 18446744073709551616 < 18446744073709551616 := Nat.mod_lt _ (by decide)
          have h2 : (18446744073709551616 : Nat) < 4294967296 ^ 10 := by decide
          have h4 : (2 : Int) ^ 64 = 18446744073709551616 := by decide
          rw [h4]
          refine Nat.lt_of_le_of_lt ?_ h2
          generalize x.natAbs % 18446744073709551616 = y at h1
          omega)
        omega) K
      have hlow := low_words (-((x.natAbs % 18446744073709551616 : Nat) : Int) + 2 ^ 64).natAbs
      have e : (W (-((x.natAbs % 18446744073709551616 : Nat) : Int) + 2 ^ 64)).2 = D (-((x.natAbs % 18446744073709551616 : Nat) : Int) + 2 ^ 64).natAbs := rfl
      rw [e, hlow] at hwd
      rw [e]
      refine hwd.trans ?_
      have e2 : (2 : Int) ^ 64 = 18446744073709551616 := by decide
      rw [e2]
      have e3 : (((-((x.natAbs % 18446744073709551616 : Nat) : Int) + 18446744073709551616).natAbs % 18446744073709551616 : Nat) : Int) = x % 18446744073709551616 := by omega
      rw [e3]
    · have hn1 : (W x).1 = false := decide_eq_false h
      rw [hn1, if_neg (by decide)]
      have hwd := words_ev false fits (W x).2 (D_dig _) (by have h3 : (W x).2.length ≤ 10 := W_len hx10; omega) K
      have hlow := low_words x.natAbs
      have e : (W x).2 = D x.natAbs := rfl
      rw [e, hlow] at hwd
      rw [e]
      refine hwd.trans ?_
      have e3 : ((x.natAbs % 18446744073709551616 : Nat) : Int) = x % 18446744073709551616 := by omega
      rw [e3]
  unfold spec_ToWords.f
  rw [e63, t63, Option.bind_some, WideCmp_ev x _ hx10 h63 hk5, Option.bind_some]
  by_cases hc : cmpI x (2 ^ 63) < 0
  · rw [if_pos hc, Negated_ev _ h63 hk5, Option.bind_some, WideCmp_ev x _ hx10 (by rw [Int.natAbs_neg]; exact h63) hk5, Option.bind_some]
    exact ⟨_, main _⟩
  · rw [if_neg hc]
    exact ⟨_, main _⟩

/-! ### What the laws ask -/
theorem fitted_ev (z lo hi : Int) (hz : z.natAbs < 4294967296 ^ 9) (hlo : lo.natAbs < 4294967296 ^ 10) (hhi : hi.natAbs < 4294967296 ^ 10) {k : Nat} (hk : 6000 ≤ k) :
    laws_fitted.f k (W z).1 (W z).2 (W lo).1 (W lo).2 (W hi).1 (W hi).2 = some (z % 18446744073709551616, decide (lo ≤ z ∧ z ≤ hi)) := by
  have hz10 : z.natAbs < 4294967296 ^ 10 := Nat.lt_trans hz (by decide)
  have hk5 : 5000 ≤ k := by omega
  obtain ⟨f, hf⟩ := ToWords_ev z hz hk
  unfold laws_fitted.f
  rw [hf, Option.bind_some]
  have hr : rd [z % 18446744073709551616] 0 = z % 18446744073709551616 := rfl
  have hlen : (0 : Int) < (([z % 18446744073709551616] : List Int).length : Int) := by simp
  rw [if_pos hlen, WideCmp_ev z lo hz10 hlo hk5, Option.bind_some, hr]
  by_cases h1 : lo ≤ z
  · have c1 : cmpI z lo ≥ 0 := by unfold cmpI; repeat' split; all_goals omega
    rw [if_pos c1, WideCmp_ev z hi hz10 hhi hk5, Option.bind_some]
    by_cases h2 : z ≤ hi
    · have c2 : cmpI z hi ≤ 0 := by unfold cmpI; repeat' split; all_goals omega
      rw [decide_eq_true c2, decide_eq_true ⟨h1, h2⟩]
    · have c2 : ¬ cmpI z hi ≤ 0 := by unfold cmpI; repeat' split; all_goals omega
      rw [decide_eq_false c2, decide_eq_false (fun h => h2 h.2)]
  · have c1 : ¬ cmpI z lo ≥ 0 := by unfold cmpI; repeat' split; all_goals omega
    rw [if_neg c1, decide_eq_false (fun h => h1 h.1)]

end Go.Proofs.Ytdnnkkmdgnikeaa.Wd
namespace Go.Proofs.Ytdnnkkmdgnikeaa.Pure
open Go.RowKit Go.IntWalk Go.Proofs.Ytdnnkkmdgnikeaa.Wd Go.Proofs.Ytdnnkkmdgnikeaa.MFnMulInt64 Go.Proofs.YtdnnkkmdgnikeaaW.PrintWords Go.Proofs.YtdnnkkmdgnikeaaW.PrintLast

theorem FnMulInt64 : laws_FnMulInt64.Pure := by
  intro a b ha hb
  have ha2 : (-9223372036854775808) ≤ a ∧ a ≤ 9223372036854775807 := by
    simp [Lit.wf, IntKind.min, IntKind.max, IntKind.bits, IntKind.signed] at ha
    omega
  have hb2 : (-9223372036854775808) ≤ b ∧ b ≤ 9223372036854775807 := by
    simp [Lit.wf, IntKind.min, IntKind.max, IntKind.bits, IntKind.signed] at hb
    omega
  clear ha hb
  refine ⟨10000, ?_⟩
  have hk : 5000 ≤ 10000 := by decide
  have hk6 : 6000 ≤ 10000 := by decide
  have hbd := bounds_signed 64 (by decide) (by decide) hk
  have e16 : ((64 : Nat) : Int) = 64 := rfl
  have ep : (2 : Int) ^ (64 - 1) - 1 = 9223372036854775807 := by decide
  have em : -(2 : Int) ^ (64 - 1) = (-9223372036854775808) := by decide
  rw [e16, ep, em] at hbd
  unfold laws_FnMulInt64.f
  rw [hbd, Option.bind_some]
  dsimp only
  have h8 : (18446744073709551616 : Nat) < 4294967296 ^ 10 := by decide
  have h9 : (85070591730234615865843651857942052864 : Nat) < 4294967296 ^ 9 := by decide
  have hza : a.natAbs < 4294967296 ^ 10 := by
    refine Nat.lt_trans ?_ h8
    omega
  have hzb : b.natAbs < 4294967296 ^ 10 := by
    refine Nat.lt_trans ?_ h8
    omega
  have hz : (a * b).natAbs < 4294967296 ^ 9 := by
    refine Nat.lt_of_le_of_lt ?_ h9
    rw [Int.natAbs_mul]
    exact Nat.le_trans (Nat.mul_le_mul (show a.natAbs ≤ 9223372036854775808 by omega) (show b.natAbs ≤ 9223372036854775808 by omega)) (by decide)
  clear h8 h9
  rw [WideInt_ev a (by omega) (by omega) hk, Option.bind_some, WideInt_ev b (by omega) (by omega) hk, Option.bind_some, WideMul_ev a b hza hzb hk, Option.bind_some]
  rw [fitted_ev (a * b) (-9223372036854775808) 9223372036854775807 hz (by decide) (by decide) hk6, Option.bind_some]
  have h23 : impl_MulInt64.f 2 3 = some (6, true) := by decide
  by_cases h : (-9223372036854775808) ≤ a * b ∧ a * b ≤ 9223372036854775807
  · have h1 : impl_MulInt64.f a b = some (a * b, true) := by
      unfold impl_MulInt64.f
      rw [if_pos h]
    have e : wrap64 ((a * b) % 18446744073709551616) = a * b := by
      unfold wrap64
      omega
    have hd : decide ((-9223372036854775808) ≤ a * b ∧ a * b ≤ 9223372036854775807) = true := decide_eq_true h
    rw [h1, Option.bind_some, h23, Option.bind_some, hd]
    dsimp only
    rw [if_pos (by decide), if_pos rfl, e, if_pos rfl, if_pos rfl]
    rfl
  · have h1 : impl_MulInt64.f a b = some (0, false) := by
      unfold impl_MulInt64.f
      rw [if_neg h]
    have hd : decide ((-9223372036854775808) ≤ a * b ∧ a * b ≤ 9223372036854775807) = false := decide_eq_false h
    rw [h1, Option.bind_some, h23, Option.bind_some, hd]
    dsimp only
    rw [if_pos (by decide), if_neg (by decide), if_pos rfl]
    rfl

end Go.Proofs.Ytdnnkkmdgnikeaa.Pure
