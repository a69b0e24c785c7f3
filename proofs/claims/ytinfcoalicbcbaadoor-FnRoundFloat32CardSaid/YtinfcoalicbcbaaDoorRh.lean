/- What impl.RoundFloat32 answers. -/
import Derived.Test.YtinfcoalicbcbaaDoorRg
namespace Go.Proofs.YtinfcoalicbcbaaDoor.Rd
set_option linter.unusedVariables false
set_option linter.unusedSimpArgs false
open Go.RowKit Go.IntWalk Go.Proofs.YtinfcoalicbcbaaDoorW.PrintWords Go.Proofs.YtinfcoalicbcbaaDoorW.PrintLast Go.Proofs.YtinfcoalicbcbaaDoorW.PrintMore
attribute [local go_sem] max2_int min2_int max_two min_two max_three min_three max_four min_four
open Ieee in
theorem write32_lt (d : Datum) (h : d.isNaN = false) : single.write d < 4294967296 := by
  have e1 : single.signWeight = 2147483648 := by decide
  have e3 : single.infRung = 2139095040 := by decide
  have hw : ∀ s r, r ≤ 2139095040 → single.word s r < 4294967296 := by
    intro s r hr
    unfold Format.word
    rw [e1]
    split <;> omega
  cases d with
  | nan s t => cases h
  | infinity s => exact hw s _ (by rw [e3]; exact Nat.le_refl _)
  | number s m e =>
    show single.nearest s m e < _
    unfold Format.nearest
    by_cases hm : m = 0
    · rw [if_pos hm]; exact hw s 0 (by decide)
    · rw [if_neg hm]; exact hw s _ (by rw [e3]; exact Nat.min_le_right _ _)
def op1 (d : Int) (x p : Nat) : Option Nat := if 0 ≤ d then Ieee.single.mul x p else Ieee.single.div x p
def op2 (d : Int) (x p : Nat) : Option Nat := if 0 < d then Ieee.single.div x p else Ieee.single.mul x p
open Ieee in
theorem pw_num : ∀ n, n ≤ 10 → ∃ m j, single.read (pw32.getD n 0) = .number false m j ∧ m ≠ 0
  | 0, _ => ⟨8388608, -23, by decide, by decide⟩
  | 1, _ => ⟨10485760, -20, by decide, by decide⟩
  | 2, _ => ⟨13107200, -17, by decide, by decide⟩
  | 3, _ => ⟨16384000, -14, by decide, by decide⟩
  | 4, _ => ⟨10240000, -10, by decide, by decide⟩
  | 5, _ => ⟨12800000, -7, by decide, by decide⟩
  | 6, _ => ⟨16000000, -4, by decide, by decide⟩
  | 7, _ => ⟨10000000, 0, by decide, by decide⟩
  | 8, _ => ⟨12500000, 3, by decide, by decide⟩
  | 9, _ => ⟨15625000, 6, by decide, by decide⟩
  | 10, _ => ⟨9765625, 10, by decide, by decide⟩
  | n + 11, h => absurd h (by omega)
open Ieee in
theorem mul_num {x p : Nat} {s : Bool} {m n : Nat} {i j : Int} (h : single.read x = .number s m i) (hp : single.read p = .number false n j) : ∃ q, single.mul x p = some q ∧ (single.read q).isNaN = false ∧ q < 4294967296 := by
  rw [mul_val h hp]
  exact ⟨_, rfl, nn32 _ _ _, write32_lt (.number _ _ _) rfl⟩
open Ieee in
theorem div_num {x p : Nat} {s : Bool} {m n : Nat} {i j : Int} (h : single.read x = .number s m i) (hp : single.read p = .number false n j) (hn : n ≠ 0) : ∃ q, single.div x p = some q ∧ (single.read q).isNaN = false ∧ q < 4294967296 := by
  obtain ⟨z, e, hq⟩ := div_val h hp hn
  rw [hq]
  exact ⟨_, rfl, nn32 _ _ _, write32_lt (.number _ _ _) rfl⟩
theorem op1_num {d : Int} {x p : Nat} {s : Bool} {m n : Nat} {i j : Int} (h : Ieee.single.read x = .number s m i) (hp : Ieee.single.read p = .number false n j) (hn : n ≠ 0) : ∃ q, op1 d x p = some q ∧ (Ieee.single.read q).isNaN = false ∧ q < 4294967296 := by
  unfold op1
  split
  · exact mul_num h hp
  · exact div_num h hp hn
theorem op2_num {d : Int} {x p : Nat} {s : Bool} {m n : Nat} {i j : Int} (h : Ieee.single.read x = .number s m i) (hp : Ieee.single.read p = .number false n j) (hn : n ≠ 0) : ∃ q, op2 d x p = some q ∧ (Ieee.single.read q).isNaN = false ∧ q < 4294967296 := by
  unfold op2
  split
  · exact div_num h hp hn
  · exact mul_num h hp
theorem I32_num {s : Bool} {n : Nat} (h : n < 2 ^ 24) : ∃ m i, Ieee.single.read (I32 s n) = .number s m i := by
  obtain ⟨a, ha, _⟩ := some32 s h (e := 0) (by omega) (by omega)
  exact ⟨_, _, ha⟩
/-- Where a number with a fraction goes. -/
def goal32 (mode : Nat) (b5 : Bool) (s : Bool) (m k : Nat) : Nat := if 4 ≤ mode ∧ b5 = true then near m k else clo mode s m k
/-- What impl.RoundFloat32 answers. -/
structure RSP (v : Nat) (d : Int) (mode : Nat) (p out : Nat) (ok : Bool) : Prop where
  self : ((Ieee.single.read v).isNaN = true ∨ (Ieee.single.read v).isInfinity = true) → out = v ∧ ok = true
  whole : (Ieee.single.read v).isNaN = false → (Ieee.single.read v).isInfinity = false → ∀ s, op1 d v p = some s → (Ieee.single.read s).isInfinity = false → (∀ sg_ m k, ¬ frc s sg_ m k) → out = v ∧ ok = true
  frac : (Ieee.single.read v).isNaN = false → (Ieee.single.read v).isInfinity = false → ∀ s, op1 d v p = some s → ∀ sg_ m k, frc s sg_ m k → ∀ fr, Ieee.single.sub s (I32 sg_ (dnq sg_ m k)) = some fr → (Ieee.single.order fr 0 == some .eq) = false → ∀ b5, (Ieee.single.order fr 1056964608 != some .eq) = b5 → ∀ q, op2 d (I32 sg_ (goal32 mode b5 sg_ m k)) p = some q → if (Ieee.single.read q).isInfinity = true then ok = false else ok = true ∧ out = q
theorem CallP.imp {E : Nat} {w : World} {Q Q' : Nat → Bool → Prop} (h : ∀ out ok, Q out ok → Q' out ok) {e : Ending} {w' : World} (hc : CallP E w Q e w') : CallP E w Q' e w' := by
  obtain ⟨out, errv, h1, h2, h3, h4⟩ := hc
  refine ⟨out, errv, h1, h2, h3, ?_⟩
  rcases h4 with ⟨a, b⟩ | ⟨a, b⟩
  · exact .inl ⟨a, h _ _ b⟩
  · exact .inr ⟨a, h _ _ b⟩
theorem frc_same {x : Nat} {s t : Bool} {m n k l : Nat} (h1 : frc x s m k) (h2 : frc x t n l) : s = t ∧ m = n ∧ k = l := by
  have h := h1.1.symm.trans h2.1
  injection h with a b c
  exact ⟨a, b, by omega⟩
theorem call_all (R E fo mode n v : Nat) (d : Int) (hn : n ≤ 10) (hv32 : v < 4294967296) (W : World) (hC : CloC fo mode) (hI : mode < 4 → CloI fo) (hE : ∀ (args : Array Value) (w : World), Sem.run Tryd.prog (callFunc fo args) w = .ok (.enter fo args) w)
    (hR : W.heap[R]? = some (.cells #[.float .f32 (pw32.getD n 0), .int .i64 d, .int .i8 mode, .func (.func fo) #[] #[]] 50 (0, 0))) (hEE : W.heap[E]? = some (.cells #[.nilIface] 39 (0, 0))) :
    Calls Tryd.prog 20 #[.pointer (some ⟨R, 0, none⟩), .float .f32 v, .pointer (some ⟨E, 0, none⟩)] W (CallP E W (RSP v d mode (pw32.getD n 0))) := by
  obtain ⟨pm, pj, hp, hpm⟩ := pw_num n hn
  obtain ⟨p, hpp⟩ : ∃ p, p = pw32.getD n 0 := ⟨_, rfl⟩
  rw [← hpp] at hR hp ⊢
  rcases single_cases v with ⟨s, m, e, h1, h2, h3, h4⟩ | ⟨s, h1⟩ | ⟨s, t, h1⟩
  · have hvn : (Ieee.single.read v).isNaN = false := by rw [h1]; rfl
    have hvi : (Ieee.single.read v).isInfinity = false := by rw [h1]; rfl
    have hself : ¬ ((Ieee.single.read v).isNaN = true ∨ (Ieee.single.read v).isInfinity = true) := by rw [hvn, hvi]; simp
    obtain ⟨s1, hs1, hn1, hl1⟩ := op1_num (d := d) h1 hp hpm
    rcases single_cases s1 with ⟨sg_, sm, se, g1, g2, g3, g4⟩ | ⟨sg_, g1⟩ | ⟨sg_, t, g1⟩
    · have hsi : (Ieee.single.read s1).isInfinity = false := by rw [g1]; rfl
      by_cases hfrac : ∃ k : Nat, se = -(k : Int) ∧ 0 < k ∧ sm % 2 ^ k ≠ 0
      · obtain ⟨k, rfl, hk, hr⟩ := hfrac
        have hf : frc s1 sg_ sm k := ⟨g1, g2, hk, by omega, hr⟩
        obtain ⟨lm, li, hlo⟩ := I32_num (s := sg_) (n := dnq sg_ sm k) (Nat.lt_of_le_of_lt (dnq_le g2 hk) (by decide))
        obtain ⟨fr, hfr, _⟩ := sub_some g1 hlo
        obtain ⟨b0, h0⟩ : ∃ b, (Ieee.single.order fr 0 == some Ordering.eq) = b := ⟨_, rfl⟩
        obtain ⟨b5, h5⟩ : ∃ b, (Ieee.single.order fr 1056964608 != some Ordering.eq) = b := ⟨_, rfl⟩
        obtain ⟨nm, ni, hnr⟩ := I32_num (s := sg_) (near_lt g2 hk)
        obtain ⟨cm, cj, hcl⟩ := I32_num (s := sg_) (clo_lt (mode := mode) (s := sg_) g2 hk)
        obtain ⟨q1, hq1, hqn1, _⟩ := op2_num (d := d) hnr hp hpm
        obtain ⟨q2, hq2, hqn2, _⟩ := op2_num (d := d) hcl hp hpm
        have himp : ∀ out ok, (if b0 = true then out = v ∧ ok = true else if 4 ≤ mode ∧ b5 = true then (if (Ieee.single.read q1).isInfinity = true then ok = false else ok = true ∧ out = q1) else (if (Ieee.single.read q2).isInfinity = true then ok = false else ok = true ∧ out = q2)) → RSP v d mode p out ok := by
          intro out ok hQ
          refine ⟨fun h => absurd h hself, fun _ _ s2 hs2 _ hno => ?_, fun _ _ s2 hs2 sg2 m2 k2 hf2 fr2 hfr2 h02 b52 h52 q hq => ?_⟩
          · rw [hs1] at hs2
            cases hs2
            exact absurd hf (hno _ _ _)
          · rw [hs1] at hs2
            cases hs2
            obtain ⟨rfl, rfl, rfl⟩ := frc_same hf hf2
            rw [hfr] at hfr2
            cases hfr2
            rw [h0] at h02
            rw [h5] at h52
            subst h02 h52
            rw [if_neg (by decide)] at hQ
            unfold goal32 at hq
            by_cases h4 : 4 ≤ mode ∧ b5 = true
            · rw [if_pos h4] at hQ hq
              rw [hq1] at hq
              cases hq
              exact hQ
            · rw [if_neg h4] at hQ hq
              rw [hq2] at hq
              cases hq
              exact hQ
        rcases (show 0 < d ∨ d = 0 ∨ d < 0 by omega) with hd | hd | hd
        · unfold op1 at hs1
          unfold op2 at hq1 hq2
          rw [if_pos (by omega)] at hs1
          rw [if_pos hd] at hq1 hq2
          exact Calls.mono (call_pos R E fo mode d p v s1 sg_ sm k b0 b5 fr q1 q2 W hd hC hE hR hEE hvn hvi hs1 hf hfr h0 h5 hq1 hq2 hqn1 hqn2) (fun e w' h => CallP.imp himp h)
        · unfold op1 at hs1
          unfold op2 at hq1 hq2
          rw [if_pos (by omega)] at hs1
          rw [if_neg (by omega)] at hq1 hq2
          exact Calls.mono (call_zero R E fo mode d p v s1 sg_ sm k b0 b5 fr q1 q2 W hd hC hE hR hEE hvn hvi hs1 hf hfr h0 h5 hq1 hq2 hqn1 hqn2) (fun e w' h => CallP.imp himp h)
        · unfold op1 at hs1
          unfold op2 at hq1 hq2
          rw [if_neg (by omega)] at hs1
          rw [if_neg (by omega)] at hq1 hq2
          exact Calls.mono (call_neg R E fo mode d p v s1 sg_ sm k b0 b5 fr q1 q2 W hd hC hE hR hEE hvn hvi hs1 hf hfr h0 h5 hq1 hq2 hqn1 hqn2) (fun e w' h => CallP.imp himp h)
      · have hfl : fl .down (up s1) = up s1 := by
          rw [up_num g1]
          by_cases he : 0 ≤ se
          · obtain ⟨x, rfl⟩ := Int.eq_ofNat_of_zero_le he
            exact fl_whole .down sg_ (Nat.lt_trans g2 (by decide)) (by omega)
          · obtain ⟨k, hk⟩ : ∃ k : Nat, se = -(k : Int) := ⟨(-se).toNat, by omega⟩
            subst hk
            have hr : sm % 2 ^ k = 0 := by
              rcases Nat.eq_zero_or_pos (sm % 2 ^ k) with h | h
              · exact h
              · exact absurd ⟨k, rfl, by omega, by omega⟩ hfrac
            exact fl_same .down sg_ (Nat.lt_trans g2 (by decide)) (by omega) hr
        have hsub : Ieee.single.sub s1 s1 = some 0 := by
          rw [sub_zero g1 g1 se (Int.le_refl _) (Int.le_refl _) rfl]
          cases sg_ <;> decide
        have himp : ∀ out ok, (out = v ∧ ok = true) → RSP v d mode p out ok := by
          intro out ok hQ
          refine ⟨fun h => absurd h hself, fun _ _ _ _ _ _ => hQ, fun _ _ s2 hs2 sg2 m2 k2 hf2 => ?_⟩
          rw [hs1] at hs2
          cases hs2
          have h := g1.symm.trans hf2.1
          injection h with a b c
          subst b c
          exact absurd ⟨k2, rfl, hf2.2.2.1, hf2.2.2.2.2⟩ hfrac
        by_cases hd : 0 ≤ d
        · unfold op1 at hs1
          rw [if_pos hd] at hs1
          exact Calls.mono (whole_mul R E fo mode d p v s1 W hd hR hEE hvn hvi hs1 hl1 hn1 hfl hsub) (fun e w' h => CallP.imp himp h)
        · unfold op1 at hs1
          rw [if_neg hd] at hs1
          exact Calls.mono (whole_div R E fo mode d p v s1 W hd hR hEE hvn hvi hs1 hl1 hn1 hfl hsub) (fun e w' h => CallP.imp himp h)
    · have himp : ∀ out ok, (ok = false) → RSP v d mode p out ok := by
        intro out ok hQ
        refine ⟨fun h => absurd h hself, fun _ _ s2 hs2 hi2 _ => ?_, fun _ _ s2 hs2 sg2 m2 k2 hf2 => ?_⟩
        · rw [hs1] at hs2
          cases hs2
          rw [g1] at hi2
          cases hi2
        · rw [hs1] at hs2
          cases hs2
          have h := g1.symm.trans hf2.1
          cases h
      rcases (show 0 < d ∨ d = 0 ∨ d < 0 by omega) with hd | hd | hd
      · unfold op1 at hs1
        rw [if_pos (by omega)] at hs1
        obtain ⟨q, hq, hqn, hqi⟩ := div_inf g1 hp
        exact Calls.mono (inf_pos R E fo mode d p v s1 q sg_ W hd hI hE hR hEE hvn hvi hs1 hl1 g1 hq hqn hqi) (fun e w' h => CallP.imp himp h)
      · unfold op1 at hs1
        rw [if_pos (by omega)] at hs1
        obtain ⟨q, hq, hqn, hqi⟩ := mul_inf g1 hp hpm
        exact Calls.mono (inf_zero R E fo mode d p v s1 q sg_ W hd hI hE hR hEE hvn hvi hs1 hl1 g1 hq hqn hqi) (fun e w' h => CallP.imp himp h)
      · unfold op1 at hs1
        rw [if_neg (by omega)] at hs1
        obtain ⟨q, hq, hqn, hqi⟩ := mul_inf g1 hp hpm
        exact Calls.mono (inf_neg R E fo mode d p v s1 q sg_ W hd hI hE hR hEE hvn hvi hs1 hl1 g1 hq hqn hqi) (fun e w' h => CallP.imp himp h)
    · rw [g1] at hn1
      cases hn1
  · have hvi : (Ieee.single.read v).isInfinity = true := by rw [h1]; rfl
    refine Calls.mono (call_self R E v W hEE (.inr hvi)) (fun e w' h => CallP.imp (fun out ok hQ => ⟨fun _ => hQ, fun _ h => ?_, fun _ h => ?_⟩) h)
    · rw [hvi] at h; cases h
    · rw [hvi] at h; cases h
  · have hvn : (Ieee.single.read v).isNaN = true := by rw [h1]; rfl
    refine Calls.mono (call_self R E v W hEE (.inl hvn)) (fun e w' h => CallP.imp (fun out ok hQ => ⟨fun _ => hQ, fun h => ?_, fun h => ?_⟩) h)
    · rw [hvn] at h; cases h
    · rw [hvn] at h; cases h
/-- impl.RoundFloat32. -/
theorem implR (d : Int) (n mode v : Nat) (hd : d.natAbs = n) (hn : n ≤ 10) (hm : mode ≤ 9) (hv : v < 4294967296) (w : World) (hT : Tens w) :
    Calls Tryd.prog 4 #[.int .u32 v, .int .i64 d, .int .i64 mode] w fun e w' => ∃ out ok, e = .returned (.tuple #[.int .u32 ((out : Nat) : Int), .bool ok]) ∧ Below w.heap.size w w' ∧ RSP v d mode (pw32.getD n 0) out ok :=
  impl4 d mode v hm _ w fun W hW => round13 d n mode v hd hn hm _ W (hT.below hW hT.lt) fun fo R E W' hC hI hE hR hEE => call_all R E fo mode n v d hn hv W' hC hI hE hR hEE

end Go.Proofs.YtinfcoalicbcbaaDoor.Rd
