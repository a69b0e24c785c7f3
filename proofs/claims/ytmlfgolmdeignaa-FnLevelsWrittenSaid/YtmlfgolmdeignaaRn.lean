/- The encoder of runs, in plain terms: levels in batches. -/
import Derived.Test.YtmlfgolmdeignaaRm
namespace Go.Proofs.Ytmlfgolmdeignaa.Pk
open Go.RowKit Go.IntWalk Go.Proofs.YtmlfgolmdeignaaW.PrintWords Go.Proofs.YtmlfgolmdeignaaW.PrintLast Go.Proofs.YtmlfgolmdeignaaW.PrintMore
attribute [local go_sem] max2_int min2_int max_two min_two max_three min_three max_four min_four
set_option linter.unusedVariables false
set_option linter.unusedSimpArgs false
/-- How many of a list are a value from its head on. -/
def runL (v : Nat) : List Nat → Nat
  | [] => 0
  | x :: r => if x = v then runL v r + 1 else 0
theorem runL_le (v : Nat) : ∀ l : List Nat, runL v l ≤ l.length
  | [] => Nat.le_refl _
  | x :: r => by
    unfold runL
    have := runL_le v r
    by_cases h : x = v
    · rw [if_pos h, List.length_cons]; omega
    · rw [if_neg h]; exact Nat.zero_le _
theorem runL_take (v : Nat) : ∀ l : List Nat, l.take (runL v l) = List.replicate (runL v l) v
  | [] => rfl
  | x :: r => by
    unfold runL
    by_cases h : x = v
    · rw [if_pos h, List.take_succ_cons, List.replicate_succ, runL_take v r, h]
    · rw [if_neg h]; rfl
theorem runL_eq (v : Nat) : ∀ (l : List Nat) (t : Nat), t ≤ l.length → (∀ j (h : j < l.length), j < t → l[j] = v) → (∀ h : t < l.length, l[t] ≠ v) → runL v l = t
  | [], t, ht, _, _ => by
    have : t = 0 := by simpa using ht
    rw [this]; rfl
  | x :: r, 0, _, _, h => by
    unfold runL
    have h0 : x ≠ v := h (by simp)
    rw [if_neg h0]
  | x :: r, t + 1, ht, h1, h2 => by
    unfold runL
    have e : x = v := h1 0 (by simp) (by omega)
    rw [if_pos e, runL_eq v r t (by simpa using ht) (fun j hj hjt => by have := h1 (j + 1) (by simpa using hj) (by omega); simpa using this) (fun h => by have := h2 (by simpa using h); simpa using this)]
theorem runL_pos (v : Nat) (r : List Nat) : 1 ≤ runL v (v :: r) := by
  unfold runL
  rw [if_pos rfl]
  omega
def putAll (s : St) (l : List Nat) : St := l.foldl (fun s v => putS v s) s
def fastS (v run : Nat) (s : St) : St := if s.lit = [] then { s with cur := v, rep := run } else { s with done := s.done ++ [.lit s.lit], lit := [], cur := v, rep := run }
def batchF : Nat → St → List Nat → St
  | _, s, [] => s
  | 0, s, _ :: _ => s
  | k + 1, s, v :: r =>
    if 8 ≤ s.rep ∧ s.cur = v then batchF k { s with rep := s.rep + runL v (v :: r) } ((v :: r).drop (runL v (v :: r)))
    else if s.rep = 0 ∧ s.buf = [] ∧ 8 ≤ (v :: r).length ∧ (v :: r)[7]? = some v ∧ 8 ≤ runL v (v :: r) then batchF k (fastS v (runL v (v :: r)) s) ((v :: r).drop (runL v (v :: r)))
    else batchF k (putAll s ((v :: r).take (8 - s.buf.length))) ((v :: r).drop (8 - s.buf.length))
theorem batchF_nil (k : Nat) (s : St) : batchF k s [] = s := by cases k <;> rfl
theorem putAll_ok {wd : Nat} (hw : 1 ≤ wd) : ∀ {l : List Nat} {s : St}, SI wd s → (∀ v ∈ l, v < 2 ^ wd) → (valS s).length + l.length ≤ 3000 → SI wd (putAll s l) ∧ valS (putAll s l) = valS s ++ l
  | [], s, h, _, _ => ⟨h, by simp [putAll]⟩
  | v :: r, s, h, hv, hn => by
    rw [List.length_cons] at hn
    obtain ⟨h1, h2⟩ := putS_ok hw h (hv v List.mem_cons_self) (by omega)
    obtain ⟨h3, h4⟩ := putAll_ok hw (l := r) h1 (fun x hx => hv x (List.mem_cons_of_mem _ hx)) (by rw [h2, List.length_append]; simp; omega)
    refine ⟨h3, ?_⟩
    show valS (putAll (putS v s) r) = _
    rw [h4, h2]
    simp
theorem more_ok {wd : Nat} {s : St} (h : SI wd s) (h8 : 8 ≤ s.rep) (c : Nat) : SI wd { s with rep := s.rep + c } ∧ valS { s with rep := s.rep + c } = valS s ++ List.replicate c s.cur := by
  obtain ⟨hb, hl⟩ := h.big h8
  refine ⟨⟨h.lit8, h.litN, h.litV, h.bufV, h.curV, fun _ => ⟨hb, hl⟩, fun hh => by simp at hh; omega, h.runs, h.size⟩, ?_⟩
  unfold valS pend
  rw [if_pos h8, if_pos (show 8 ≤ s.rep + c by omega)]
  show valss s.done ++ s.lit ++ List.replicate (s.rep + c) s.cur = valss s.done ++ s.lit ++ List.replicate s.rep s.cur ++ List.replicate c s.cur
  rw [← List.replicate_append_replicate, ← List.append_assoc]
theorem fast_ok {wd : Nat} {s : St} {v run : Nat} (h : SI wd s) (hv : v < 2 ^ wd) (h0 : s.rep = 0) (hb : s.buf = []) (h8 : 8 ≤ run) : SI wd (fastS v run s) ∧ valS (fastS v run s) = valS s ++ List.replicate run v := by
  unfold fastS
  by_cases hl : s.lit = []
  · rw [if_pos hl]
    refine ⟨⟨h.lit8, h.litN, h.litV, h.bufV, hv, fun _ => ⟨hb, hl⟩, fun hh => by simp at hh; omega, h.runs, h.size⟩, ?_⟩
    unfold valS pend
    rw [if_pos h8, if_neg (by omega), hb]
    simp
  · rw [if_neg hl]
    refine ⟨⟨rfl, by simp, fun x hx => by simp at hx, h.bufV, hv, fun _ => ⟨hb, rfl⟩, fun hh => by simp at hh; omega, runs_snoc h.runs ⟨hl, h.lit8, by have := h.litN; omega, h.litV⟩, size_snoc h.size (encR_lit_size h.lit8 hl)⟩, ?_⟩
    unfold valS pend
    rw [if_pos h8, if_neg (by omega), hb, valss_snoc]
    simp [vals]
theorem SI.buf8 {wd : Nat} {s : St} (h : SI wd s) : s.buf.length < 8 := by
  by_cases h8 : 8 ≤ s.rep
  · rw [(h.big h8).1]; decide
  · exact (h.few (by omega)).1
theorem batchF_ok {wd : Nat} (hw : 1 ≤ wd) : ∀ (k : Nat) {s : St} {l : List Nat}, l.length ≤ k → SI wd s → (∀ v ∈ l, v < 2 ^ wd) → (valS s).length + l.length ≤ 3000 → SI wd (batchF k s l) ∧ valS (batchF k s l) = valS s ++ l
  | k, s, [], _, h, _, _ => by
    rw [batchF_nil]
    exact ⟨h, by simp⟩
  | 0, s, v :: r, hk, _, _, _ => by simp at hk
  | k + 1, s, v :: r, hk, h, hv, hn => by
    have hdrop : ∀ m, valS s ++ (v :: r) = valS s ++ (v :: r).take m ++ (v :: r).drop m := fun m => by rw [List.append_assoc, List.take_append_drop]
    have step : ∀ (m : Nat) (s' : St), 1 ≤ m → SI wd s' → valS s' = valS s ++ (v :: r).take m → SI wd (batchF k s' ((v :: r).drop m)) ∧ valS (batchF k s' ((v :: r).drop m)) = valS s ++ (v :: r) := fun m s' hm h1 h2 => by
      have hl : (v :: r).length = r.length + 1 := rfl
      have := batchF_ok hw k (s := s') (l := (v :: r).drop m) (by rw [List.length_drop]; omega) h1 (fun x hx => hv x (List.mem_of_mem_drop hx)) (by
        rw [h2, List.length_append, List.length_take, List.length_drop]
        omega)
      refine ⟨this.1, ?_⟩
      rw [this.2, h2, hdrop m]
    have hrp := runL_pos v r
    unfold batchF
    by_cases c1 : 8 ≤ s.rep ∧ s.cur = v
    · rw [if_pos c1]
      obtain ⟨h1, h2⟩ := more_ok h c1.1 (runL v (v :: r))
      exact step _ _ hrp h1 (by rw [h2, runL_take, c1.2])
    · rw [if_neg c1]
      by_cases c2 : s.rep = 0 ∧ s.buf = [] ∧ 8 ≤ (v :: r).length ∧ (v :: r)[7]? = some v ∧ 8 ≤ runL v (v :: r)
      · rw [if_pos c2]
        obtain ⟨h1, h2⟩ := fast_ok (v := v) (run := runL v (v :: r)) h (hv v List.mem_cons_self) c2.1 c2.2.1 c2.2.2.2.2
        exact step _ _ hrp h1 (by rw [h2, runL_take])
      · rw [if_neg c2]
        have hb := h.buf8
        obtain ⟨h1, h2⟩ := putAll_ok hw (l := (v :: r).take (8 - s.buf.length)) h (fun x hx => hv x (List.mem_of_mem_take hx)) (by rw [List.length_take]; omega)
        exact step _ _ (by omega) h1 h2

end Go.Proofs.Ytmlfgolmdeignaa.Pk
