/- The encoder of runs, in plain terms: what it holds. -/
import Derived.Test.YtmlfgolmdeignaaRc
namespace Go.Proofs.Ytmlfgolmdeignaa.Pk
open Go.RowKit Go.IntWalk Go.Proofs.YtmlfgolmdeignaaW.PrintWords Go.Proofs.YtmlfgolmdeignaaW.PrintLast Go.Proofs.YtmlfgolmdeignaaW.PrintMore
attribute [local go_sem] max2_int min2_int max_two min_two max_three min_three max_four min_four
set_option linter.unusedVariables false
set_option linter.unusedSimpArgs false
/-- A run of the hybrid. -/
inductive Run where
  | rep (c v : Nat)
  | lit (vs : List Nat)
def encR (wd : Nat) : Run → List Int
  | .rep c v => repB wd c v
  | .lit vs => ((2 * (vs.length / 8) + 1 : Nat) : Int) :: pkB wd vs
def vals : Run → List Nat
  | .rep c v => List.replicate c v
  | .lit vs => vs
def encs (wd : Nat) (rs : List Run) : List Int := rs.flatMap (encR wd)
def valss (rs : List Run) : List Nat := rs.flatMap vals
theorem encs_snoc (wd : Nat) (rs : List Run) (r : Run) : encs wd (rs ++ [r]) = encs wd rs ++ encR wd r := by simp [encs]
theorem valss_snoc (rs : List Run) (r : Run) : valss (rs ++ [r]) = valss rs ++ vals r := by simp [valss]
/-- An encoder: its runs, the open literal run, what is buffered, the last value and how often it came. -/
structure St where
  done : List Run
  lit : List Nat
  buf : List Nat
  cur : Nat
  rep : Nat
def litP (wd : Nat) (lit : List Nat) : List Int := if lit = [] then [] else 0 :: pkB wd lit
def LS (wd : Nat) (s : St) : List Int := encs wd s.done ++ litP wd s.lit
def loS (wd : Nat) (s : St) : Int := if s.lit = [] then -1 else (((encs wd s.done).length : Nat) : Int)
def RunOk (wd : Nat) : Run → Prop
  | .rep c v => 1 ≤ c ∧ c ≤ 3000 ∧ v < 2 ^ wd
  | .lit vs => vs ≠ [] ∧ vs.length % 8 = 0 ∧ vs.length ≤ 504 ∧ ∀ x ∈ vs, x < 2 ^ wd
theorem low_append (a b x y : Nat) (h : x < 256 ^ a) : low (a + b) (x + 256 ^ a * y) = low a x ++ low b y := by
  induction a generalizing x with
  | zero =>
    have : x = 0 := by simpa using h
    subst this
    simp [low]
  | succ a ih =>
    rw [show a + 1 + b = a + b + 1 by omega, low_succ, low_succ, List.cons_append, Nat.pow_succ, Nat.mul_comm (256 ^ a), Nat.mul_assoc, Nat.add_mul_mod_self_left, Nat.add_mul_div_left _ _ (by decide), ih (x / 256) (by rw [Nat.pow_succ] at h; exact Nat.div_lt_of_lt_mul (by rw [Nat.mul_comm]; exact h))]
theorem pkB_append {wd : Nat} {a : List Nat} (b : List Nat) (h8 : a.length % 8 = 0) (ha : ∀ v ∈ a, v < 2 ^ wd) : pkB wd (a ++ b) = pkB wd a ++ pkB wd b := by
  obtain ⟨m, hm⟩ : ∃ m, a.length = 8 * m := ⟨a.length / 8, by omega⟩
  have hlt := pk_lt ha
  have e : wd * a.length = 8 * (wd * m) := by rw [hm, Nat.mul_left_comm]
  have e1 : wd * a.length / 8 = wd * m := by omega
  have e2 : wd * (a ++ b).length / 8 = wd * m + wd * b.length / 8 := by
    rw [List.length_append, Nat.mul_add, e]
    omega
  rw [pkB, pkB, pkB, e1, e2, pk_append, e, ← p256]
  exact low_append _ _ _ _ (by rw [p256, ← e]; exact hlt)
theorem pkB_len8 {wd : Nat} {a : List Nat} (h8 : a.length % 8 = 0) : 8 * (pkB wd a).length = wd * a.length := by
  obtain ⟨m, hm⟩ : ∃ m, a.length = 8 * m := ⟨a.length / 8, by omega⟩
  have e : wd * a.length = 8 * (wd * m) := by rw [hm, Nat.mul_left_comm]
  rw [pkB, low_len]
  omega
theorem uv_len2 {x : Nat} (h : x < 16384) : (uv x).length ≤ 2 := by
  rw [uv_len]
  exact Go.Lib.uvarint_length 1 x (by simpa using h)
theorem uv_len1 {x : Nat} (h : x < 128) : (uv x).length = 1 := by rw [uv_len, Go.Lib.uvarint_small h]; rfl
/-- What an encoder holds. -/
def pend (s : St) : List Nat := if 8 ≤ s.rep then List.replicate s.rep s.cur else s.buf
def valS (s : St) : List Nat := valss s.done ++ s.lit ++ pend s
structure SI (wd : Nat) (s : St) : Prop where
  lit8 : s.lit.length % 8 = 0
  litN : s.lit.length ≤ 496
  litV : ∀ v ∈ s.lit, v < 2 ^ wd
  bufV : ∀ v ∈ s.buf, v < 2 ^ wd
  curV : s.cur < 2 ^ wd
  big : 8 ≤ s.rep → s.buf = [] ∧ s.lit = []
  few : s.rep < 8 → s.buf.length < 8 ∧ ∃ a, s.buf = a ++ List.replicate s.rep s.cur
  runs : ∀ r ∈ s.done, RunOk wd r
  size : 8 * (encs wd s.done).length ≤ (1 + wd) * (valss s.done).length
def flushBuf (s : St) : St :=
  if 8 ≤ s.rep then (if s.lit = [] then { s with buf := [] } else { s with done := s.done ++ [.lit s.lit], lit := [], buf := [] })
  else (if 64 ≤ (s.lit ++ s.buf).length / 8 + 1 then { s with done := s.done ++ [.lit (s.lit ++ s.buf)], lit := [], buf := [], rep := 0 } else { s with lit := s.lit ++ s.buf, buf := [], rep := 0 })
def appS (v : Nat) (s : St) : St := if s.buf.length = 7 then flushBuf { s with buf := s.buf ++ [v] } else { s with buf := s.buf ++ [v] }
def putS (v : Nat) (s : St) : St :=
  if s.cur = v then (if 8 < s.rep + 1 then { s with rep := s.rep + 1 } else appS v { s with rep := s.rep + 1 })
  else if 8 ≤ s.rep then appS v { s with done := s.done ++ [.rep s.rep s.cur], buf := [], rep := 1, cur := v }
  else appS v { s with rep := 1, cur := v }
theorem lit_size {wd m k : Nat} (hm : m % 8 = 0) (hp : 0 < m) (h : 8 * k = wd * m) : 8 * (1 + k) ≤ (1 + wd) * m := by
  rw [Nat.add_mul, Nat.one_mul]
  omega
theorem encR_lit_size {wd : Nat} {vs : List Nat} (h8 : vs.length % 8 = 0) (h0 : vs ≠ []) : 8 * (encR wd (.lit vs)).length ≤ (1 + wd) * (vals (.lit vs)).length := by
  have hp : 0 < vs.length := List.length_pos_iff.2 h0
  have := lit_size (wd := wd) h8 hp (pkB_len8 h8)
  show 8 * (_ :: pkB wd vs).length ≤ (1 + wd) * vs.length
  rw [List.length_cons]
  omega
theorem encR_rep_size {wd c v : Nat} (hw : 1 ≤ wd) (hc : 8 ≤ c) (hc2 : c ≤ 3000) : 8 * (encR wd (.rep c v)).length ≤ (1 + wd) * (vals (.rep c v)).length := by
  show 8 * (repB wd c v).length ≤ (1 + wd) * (List.replicate c v).length
  rw [repB_len, List.length_replicate]
  have h1 : (wd + 7) / 8 ≤ wd := by omega
  by_cases h : c < 64
  · rw [uv_len1 (by omega)]
    have := Nat.mul_le_mul_left (1 + wd) hc
    omega
  · have h2 := uv_len2 (x := 2 * c) (by omega)
    have := Nat.mul_le_mul_left (1 + wd) (show 64 ≤ c by omega)
    omega
theorem size_snoc {wd : Nat} {rs : List Run} {r : Run} (h : 8 * (encs wd rs).length ≤ (1 + wd) * (valss rs).length) (h2 : 8 * (encR wd r).length ≤ (1 + wd) * (vals r).length) : 8 * (encs wd (rs ++ [r])).length ≤ (1 + wd) * (valss (rs ++ [r])).length := by
  rw [encs_snoc, valss_snoc, List.length_append, List.length_append, Nat.mul_add, Nat.mul_add]
  omega
theorem runs_snoc {wd : Nat} {rs : List Run} {r : Run} (h : ∀ r ∈ rs, RunOk wd r) (h2 : RunOk wd r) : ∀ x ∈ rs ++ [r], RunOk wd x := fun x hx => by
  rcases List.mem_append.1 hx with h3 | h3
  · exact h x h3
  · rw [List.mem_singleton.1 h3]
    exact h2
/-- A state whose buffer is full. -/
theorem flushBuf_ok {wd : Nat} {s : St} (h8 : s.lit.length % 8 = 0) (hN : s.lit.length ≤ 496) (hV : ∀ v ∈ s.lit, v < 2 ^ wd) (hbV : ∀ v ∈ s.buf, v < 2 ^ wd) (hc : s.cur < 2 ^ wd) (hr : s.rep ≤ 8) (hb : s.buf.length = 8) (ha : ∃ a, s.buf = a ++ List.replicate s.rep s.cur)
    (hruns : ∀ r ∈ s.done, RunOk wd r) (hsz : 8 * (encs wd s.done).length ≤ (1 + wd) * (valss s.done).length) : SI wd (flushBuf s) ∧ valS (flushBuf s) = valss s.done ++ s.lit ++ s.buf := by
  obtain ⟨a, ha⟩ := ha
  unfold flushBuf
  by_cases h : 8 ≤ s.rep
  · have hr8 : s.rep = 8 := by omega
    have ha0 : a = [] := by
      have := congrArg List.length ha
      rw [List.length_append, List.length_replicate, hb, hr8] at this
      exact List.length_eq_zero_iff.1 (by omega)
    rw [ha0, List.nil_append] at ha
    rw [if_pos h]
    by_cases hl : s.lit = []
    · rw [if_pos hl]
      refine ⟨⟨h8, hN, hV, fun v hv => by simp at hv, hc, fun _ => ⟨rfl, hl⟩, fun hh => by simp at hh; omega, hruns, hsz⟩, ?_⟩
      simp only [valS, pend, if_pos h, ← ha]
    · rw [if_neg hl]
      refine ⟨⟨rfl, by simp, fun v hv => by simp at hv, fun v hv => by simp at hv, hc, fun _ => ⟨rfl, rfl⟩, fun hh => by simp at hh; omega, runs_snoc hruns ⟨hl, h8, by omega, hV⟩, size_snoc hsz (encR_lit_size h8 hl)⟩, ?_⟩
      simp only [valS, pend, if_pos h, ← ha, valss_snoc, vals, List.append_nil]
  · rw [if_neg h]
    have hlen : (s.lit ++ s.buf).length = s.lit.length + 8 := by rw [List.length_append, hb]
    have hne : s.lit ++ s.buf ≠ [] := fun e => by rw [e] at hlen; simp at hlen
    have h82 : (s.lit ++ s.buf).length % 8 = 0 := by omega
    have hV2 : ∀ v ∈ s.lit ++ s.buf, v < 2 ^ wd := fun v hv => (List.mem_append.1 hv).elim (hV v) (hbV v)
    by_cases hg : 64 ≤ (s.lit ++ s.buf).length / 8 + 1
    · rw [if_pos hg]
      refine ⟨⟨rfl, by simp, fun v hv => by simp at hv, fun v hv => by simp at hv, hc, fun hh => by simp at hh, fun _ => ⟨by simp, [], rfl⟩, runs_snoc hruns ⟨hne, h82, by omega, hV2⟩, size_snoc hsz (encR_lit_size h82 hne)⟩, ?_⟩
      simp [valS, pend, valss_snoc, vals]
    · rw [if_neg hg]
      refine ⟨⟨h82, by show (s.lit ++ s.buf).length ≤ 496; omega, hV2, fun v hv => by simp at hv, hc, fun hh => by simp at hh, fun _ => ⟨by simp, [], rfl⟩, hruns, hsz⟩, ?_⟩
      simp [valS, pend]
theorem pend_len (s : St) (h : s.rep < 8) : pend s = s.buf := by unfold pend; rw [if_neg (by omega)]
theorem appS_ok {wd : Nat} {s : St} {v : Nat} (h8 : s.lit.length % 8 = 0) (hN : s.lit.length ≤ 496) (hV : ∀ x ∈ s.lit, x < 2 ^ wd) (hbV : ∀ x ∈ s.buf, x < 2 ^ wd) (hv : v < 2 ^ wd) (hcv : s.cur = v) (hr0 : 1 ≤ s.rep) (hr : s.rep ≤ 8) (hb : s.buf.length < 8) (ha : ∃ a, s.buf ++ [v] = a ++ List.replicate s.rep s.cur)
    (hruns : ∀ r ∈ s.done, RunOk wd r) (hsz : 8 * (encs wd s.done).length ≤ (1 + wd) * (valss s.done).length) : SI wd (appS v s) ∧ valS (appS v s) = valss s.done ++ s.lit ++ s.buf ++ [v] := by
  have hbV2 : ∀ x ∈ s.buf ++ [v], x < 2 ^ wd := fun x hx => by
    rcases List.mem_append.1 hx with h | h
    · exact hbV x h
    · rw [List.mem_singleton.1 h]
      exact hv
  unfold appS
  by_cases h7 : s.buf.length = 7
  · rw [if_pos h7]
    obtain ⟨h1, h2⟩ := flushBuf_ok (s := { s with buf := s.buf ++ [v] }) h8 hN hV hbV2 (by show s.cur < _; rw [hcv]; exact hv) hr (by simp [h7]) ha hruns hsz
    refine ⟨h1, h2.trans ?_⟩
    simp
  · rw [if_neg h7]
    have hr7 : s.rep < 8 := by
      obtain ⟨a, ha⟩ := ha
      have := congrArg List.length ha
      rw [List.length_append, List.length_append, List.length_replicate, List.length_singleton] at this
      omega
    refine ⟨⟨h8, hN, hV, hbV2, by show s.cur < _; rw [hcv]; exact hv, fun hh => by simp at hh; omega, fun _ => ⟨by simp; omega, ha⟩, hruns, hsz⟩, ?_⟩
    show valss s.done ++ s.lit ++ pend { s with buf := s.buf ++ [v] } = _
    rw [pend_len { s with buf := s.buf ++ [v] } hr7]
    simp
theorem putS_ok {wd : Nat} {s : St} {v : Nat} (hw : 1 ≤ wd) (h : SI wd s) (hv : v < 2 ^ wd) (hn : (valS s).length < 3000) : SI wd (putS v s) ∧ valS (putS v s) = valS s ++ [v] := by
  have hrn : 8 ≤ s.rep → s.rep ≤ 3000 := fun h8 => by
    unfold valS pend at hn
    rw [if_pos h8, List.length_append, List.length_replicate] at hn
    omega
  unfold putS
  by_cases hc : s.cur = v
  · rw [if_pos hc]
    by_cases h8 : 8 < s.rep + 1
    · rw [if_pos h8]
      obtain ⟨hb, hl⟩ := h.big (by omega)
      refine ⟨⟨h.lit8, h.litN, h.litV, h.bufV, h.curV, fun _ => ⟨hb, hl⟩, fun hh => by simp at hh; omega, h.runs, h.size⟩, ?_⟩
      unfold valS pend
      rw [if_pos (show 8 ≤ s.rep + 1 by omega), if_pos (show 8 ≤ s.rep by omega)]
      simp only [List.replicate_succ', hc, List.append_assoc]
    · rw [if_neg h8]
      obtain ⟨hb, a, ha⟩ := h.few (by omega)
      obtain ⟨h1, h2⟩ := appS_ok (s := { s with rep := s.rep + 1 }) (v := v) h.lit8 h.litN h.litV h.bufV hv hc (by simp) (by show s.rep + 1 ≤ 8; omega) hb ⟨a, by
        show s.buf ++ [v] = a ++ List.replicate (s.rep + 1) s.cur
        rw [ha, List.replicate_succ', hc, List.append_assoc]⟩ h.runs h.size
      refine ⟨h1, h2.trans ?_⟩
      show valss s.done ++ s.lit ++ s.buf ++ [v] = valss s.done ++ s.lit ++ pend s ++ [v]
      rw [pend_len s (by omega)]
  · rw [if_neg hc]
    by_cases h8 : 8 ≤ s.rep
    · rw [if_pos h8]
      obtain ⟨hb, hl⟩ := h.big h8
      obtain ⟨h1, h2⟩ := appS_ok (s := { s with done := s.done ++ [.rep s.rep s.cur], buf := [], rep := 1, cur := v }) (v := v) h.lit8 h.litN h.litV (fun x hx => by simp at hx) hv rfl (Nat.le_refl 1) (by show 1 ≤ 8; decide) (by simp) ⟨[], rfl⟩
        (runs_snoc h.runs ⟨by omega, hrn h8, h.curV⟩) (size_snoc h.size (encR_rep_size hw h8 (hrn h8)))
      refine ⟨h1, h2.trans ?_⟩
      show valss (s.done ++ [.rep s.rep s.cur]) ++ s.lit ++ [] ++ [v] = valss s.done ++ s.lit ++ pend s ++ [v]
      unfold pend
      rw [if_pos h8, valss_snoc, hl]
      simp [vals]
    · rw [if_neg h8]
      obtain ⟨hb, a, ha⟩ := h.few (by omega)
      obtain ⟨h1, h2⟩ := appS_ok (s := { s with rep := 1, cur := v }) (v := v) h.lit8 h.litN h.litV h.bufV hv rfl (Nat.le_refl 1) (by show 1 ≤ 8; decide) hb ⟨s.buf, rfl⟩ h.runs h.size
      refine ⟨h1, h2.trans ?_⟩
      show valss s.done ++ s.lit ++ s.buf ++ [v] = valss s.done ++ s.lit ++ pend s ++ [v]
      rw [pend_len s (by omega)]
/-- The bytes of a state are no more than its values allow. -/
theorem SI.len {wd : Nat} {s : St} (h : SI wd s) : 8 * (LS wd s).length ≤ (1 + wd) * (valS s).length := by
  unfold LS litP valS
  have h1 := h.size
  rw [List.length_append, List.length_append, List.length_append, Nat.mul_add, Nat.mul_add, Nat.mul_add]
  by_cases hl : s.lit = []
  · rw [if_pos hl]
    simp only [List.length_nil]
    omega
  · rw [if_neg hl, List.length_cons]
    have := lit_size (wd := wd) h.lit8 (List.length_pos_iff.2 hl) (pkB_len8 h.lit8)
    omega
/-- The runs of an encoder that is flushed. -/
def padS (b : List Nat) : List Nat := if b = [] then [] else b ++ List.replicate (8 - b.length) 0
def finS (s : St) : List Run :=
  if s.lit = [] ∧ s.rep = 0 ∧ s.buf = [] then s.done
  else if 0 < s.rep ∧ s.lit = [] ∧ (s.rep = s.buf.length ∨ s.buf = []) then s.done ++ [.rep s.rep s.cur]
  else s.done ++ [.lit (s.lit ++ padS s.buf)]
theorem padS_len {b : List Nat} (h : b.length ≤ 8) : (padS b).length % 8 = 0 ∧ (padS b).length ≤ 8 := by
  unfold padS
  by_cases hb : b = []
  · rw [if_pos hb]
    exact ⟨rfl, Nat.zero_le _⟩
  · rw [if_neg hb, List.length_append, List.length_replicate]
    omega
/-- What is read back: the values, and fewer than eight zeros. -/
theorem finS_ok {wd : Nat} {s : St} (h : SI wd s) (hn : (valS s).length ≤ 3000) : (∀ r ∈ finS s, RunOk wd r) ∧ (∃ z, valss (finS s) = valS s ++ List.replicate z 0 ∧ z < 8) ∧ 8 * (encs wd (finS s)).length ≤ (1 + wd) * (valS s).length + 8 * (wd + 10) := by
  have hrn : 8 ≤ s.rep → s.rep ≤ 3000 := fun h8 => by
    unfold valS pend at hn
    rw [if_pos h8, List.length_append, List.length_replicate] at hn
    omega
  have hsz := h.size
  unfold finS
  by_cases h0 : s.lit = [] ∧ s.rep = 0 ∧ s.buf = []
  · rw [if_pos h0]
    obtain ⟨e1, e2, e3⟩ := h0
    have ev : valS s = valss s.done := by
      unfold valS
      rw [pend_len s (by omega), e1, e3]
      simp
    exact ⟨h.runs, ⟨0, by rw [ev]; simp, by decide⟩, by rw [ev]; exact Nat.le_trans h.size (Nat.le_add_right _ _)⟩
  · rw [if_neg h0]
    by_cases h1 : 0 < s.rep ∧ s.lit = [] ∧ (s.rep = s.buf.length ∨ s.buf = [])
    · rw [if_pos h1]
      obtain ⟨e1, e2, e3⟩ := h1
      have hpend : pend s = List.replicate s.rep s.cur := by
        unfold pend
        by_cases h8 : 8 ≤ s.rep
        · rw [if_pos h8]
        · rw [if_neg h8]
          obtain ⟨hb, a, ha⟩ := h.few (by omega)
          have hl := congrArg List.length ha
          rw [List.length_append, List.length_replicate] at hl
          rcases e3 with e3 | e3
          · have : a = [] := List.length_eq_zero_iff.1 (by omega)
            rw [this, List.nil_append] at ha
            exact ha
          · rw [e3] at hl
            simp at hl
            omega
      have hr3 : s.rep ≤ 3000 := by
        by_cases h8 : 8 ≤ s.rep
        · exact hrn h8
        · omega
      have ev : valss (s.done ++ [.rep s.rep s.cur]) = valS s := by
        rw [valss_snoc]
        unfold valS
        rw [hpend, e2]
        simp [vals]
      refine ⟨runs_snoc h.runs ⟨e1, hr3, h.curV⟩, ⟨0, by rw [ev]; simp, by decide⟩, ?_⟩
      have el : (encR wd (.rep s.rep s.cur)).length ≤ 2 + (wd + 7) / 8 := by
        show (repB wd s.rep s.cur).length ≤ _
        rw [repB_len]
        have := uv_len2 (x := 2 * s.rep) (by omega)
        omega
      have hm : (1 + wd) * (valss s.done).length ≤ (1 + wd) * (valS s).length := Nat.mul_le_mul_left _ (by unfold valS; rw [List.length_append, List.length_append]; omega)
      rw [encs_snoc, List.length_append]
      omega
    · rw [if_neg h1]
      have hr7 : s.rep < 8 := by
        refine Nat.lt_of_not_le fun h8 => h1 ?_
        obtain ⟨e1, e2⟩ := h.big h8
        exact ⟨by omega, e2, .inr e1⟩
      obtain ⟨hb, a, ha⟩ := h.few hr7
      obtain ⟨p1, p2⟩ := padS_len (Nat.le_of_lt hb)
      have hne : s.lit ++ padS s.buf ≠ [] := fun e => by
        obtain ⟨e1, e2⟩ := List.append_eq_nil_iff.1 e
        have e3 : s.buf = [] := by
          unfold padS at e2
          by_cases hbn : s.buf = []
          · exact hbn
          · rw [if_neg hbn] at e2
            exact (List.append_eq_nil_iff.1 e2).1
        have e4 : s.rep = 0 := by
          have := congrArg List.length ha
          rw [e3, List.length_append, List.length_replicate, List.length_nil] at this
          omega
        exact h0 ⟨e1, e4, e3⟩
      have hpV : ∀ x ∈ padS s.buf, x < 2 ^ wd := fun x hx => by
        unfold padS at hx
        by_cases hbn : s.buf = []
        · rw [if_pos hbn] at hx
          simp at hx
        · rw [if_neg hbn] at hx
          rcases List.mem_append.1 hx with hx1 | hx1
          · exact h.bufV x hx1
          · rw [List.eq_of_mem_replicate hx1]
            exact Nat.two_pow_pos wd
      have h8 : (s.lit ++ padS s.buf).length % 8 = 0 := by
        have := h.lit8
        rw [List.length_append]
        omega
      have hV : ∀ x ∈ s.lit ++ padS s.buf, x < 2 ^ wd := fun x hx => (List.mem_append.1 hx).elim (h.litV x) (hpV x)
      have h504 : (s.lit ++ padS s.buf).length ≤ 504 := by
        have := h.litN
        rw [List.length_append]
        omega
      refine ⟨runs_snoc h.runs ⟨hne, h8, h504, hV⟩, ?_, ?_⟩
      · rw [valss_snoc]
        unfold valS
        rw [pend_len s hr7]
        by_cases hbn : s.buf = []
        · exact ⟨0, by rw [hbn]; simp [vals, padS], by decide⟩
        · refine ⟨8 - s.buf.length, ?_, by have := List.length_pos_iff.2 hbn; omega⟩
          simp [vals, padS, hbn]
      · have e1 := encR_lit_size (wd := wd) h8 hne
        have e2 : (vals (.lit (s.lit ++ padS s.buf))).length ≤ s.lit.length + 8 := by
          show (s.lit ++ padS s.buf).length ≤ _
          rw [List.length_append]
          omega
        have e3 := Nat.mul_le_mul_left (1 + wd) e2
        have e4 : (1 + wd) * ((valss s.done).length + s.lit.length) ≤ (1 + wd) * (valS s).length := Nat.mul_le_mul_left _ (by unfold valS; rw [List.length_append, List.length_append]; omega)
        rw [encs_snoc, List.length_append]
        rw [Nat.mul_add] at e3 e4
        omega

end Go.Proofs.Ytmlfgolmdeignaa.Pk
