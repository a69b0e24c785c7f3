/- The maths of a writer of bits: bytes and the number that they are. -/
import Derived.Test.YtmlfgolmdeignaaProg
import Derived.Below
import Derived.Deep.Draws
import Derived.Deep.AppendLies
import Derived.Maps.AppendAt
import Derived.OwnWalk
import Derived.Laws.BytesArg
import Derived.Laws.MakeOwn
import Derived.Laws.OwnMore
import Derived.Deep.OwnRows
import Derived.Tactics
import Derived.Lib.ConvBytes
import Derived.Laws.Slices
import Derived.WalkKit
import Derived.KernelRfl
import Derived.RowKit3
import Derived.Deep.LoopGhost
import Derived.Deep.QuietTactic
import Derived.BigQuiet
import Derived.WideLaws
import Derived.Deep.DeepCutAuto
import Derived.Deep.CutBlock
import Derived.Deep.RegionHeld3
import Derived.Laws.Rows
import Derived.Lib.AppendStr
import Derived.ArgAppend
import Derived.Laws.IdiomCopy
import Derived.OrdersHeld
import Derived.Laws.BitsLemmas
import Derived.RowKit
import Derived.Outline
import Derived.IntWalk
import Derived.Deep.DeepMust
import Derived.Laws.CopyOwn
import Derived.Laws.BitsAllLaws
import Derived.Deep.RegionLaw
import Derived.StillTailTactics
import Derived.Test.YtmlfgolmdeignaaWWords
import Derived.Test.YtmlfgolmdeignaaWLast
import Derived.Test.YtmlfgolmdeignaaWTab
import Derived.Test.YtmlfgolmdeignaaWFour
import Derived.Test.YtmlfgolmdeignaaWQPut
import Derived.Test.YtmlfgolmdeignaaWApart
import Derived.Test.YtmlfgolmdeignaaWArr
import Derived.Test.YtmlfgolmdeignaaWZeros
import Derived.Test.YtmlfgolmdeignaaWFoot
import Derived.Test.YtmlfgolmdeignaaWKept
import Derived.Test.YtmlfgolmdeignaaWShare
import Derived.Test.YtmlfgolmdeignaaWN
import Derived.Test.YtmlfgolmdeignaaWFootNe
import Derived.Test.YtmlfgolmdeignaaWAt
import Derived.Test.YtmlfgolmdeignaaWEqStruct
import Derived.Test.YtmlfgolmdeignaaWRepsOne
import Derived.Test.YtmlfgolmdeignaaWInv
import Derived.Test.YtmlfgolmdeignaaWInvWords
import Derived.Test.YtmlfgolmdeignaaWGuard
import Derived.Test.YtmlfgolmdeignaaWNEv
import Derived.Test.YtmlfgolmdeignaaWMore
namespace Go.Proofs.Ytmlfgolmdeignaa.Pk
open Go.RowKit Go.IntWalk Go.Proofs.YtmlfgolmdeignaaW.PrintWords Go.Proofs.YtmlfgolmdeignaaW.PrintLast Go.Proofs.YtmlfgolmdeignaaW.PrintMore
attribute [local go_sem] max2_int min2_int max_two min_two max_three min_three max_four min_four
set_option linter.unusedVariables false
set_option linter.unusedSimpArgs false
/-- The number that bytes stand for, the lowest first. -/
def num : List Int → Nat
  | [] => 0
  | x :: r => x.toNat + 256 * num r
def Bytes (l : List Int) : Prop := ∀ x ∈ l, 0 ≤ x ∧ x < 256
theorem num_cons (x : Int) (r : List Int) : num (x :: r) = x.toNat + 256 * num r := rfl
theorem Bytes.tail {x : Int} {l : List Int} (h : Bytes (x :: l)) : Bytes l := fun y hy => h y (List.mem_cons_of_mem _ hy)
theorem Bytes.append {a b : List Int} (ha : Bytes a) (hb : Bytes b) : Bytes (a ++ b) := fun x hx => (List.mem_append.1 hx).elim (ha x) (hb x)
theorem Bytes.take {l : List Int} (h : Bytes l) (k : Nat) : Bytes (l.take k) := fun x hx => h x (List.mem_of_mem_take hx)
theorem Bytes.drop {l : List Int} (h : Bytes l) (k : Nat) : Bytes (l.drop k) := fun x hx => h x (List.mem_of_mem_drop hx)
theorem Bytes.zeros (n : Nat) : Bytes (List.replicate n 0) := fun x hx => by
  have := List.eq_of_mem_replicate hx
  omega
theorem num_zeros (n : Nat) : num (List.replicate n 0) = 0 := by
  induction n with
  | zero => rfl
  | succ n ih => rw [List.replicate_succ, num_cons, ih]; rfl
theorem num_append (a b : List Int) : num (a ++ b) = num a + 256 ^ a.length * num b := by
  induction a with
  | nil => simp [num]
  | cons x r ih =>
    rw [List.cons_append, num_cons, num_cons, ih, List.length_cons, Nat.pow_succ, Nat.mul_add, ← Nat.mul_assoc, Nat.mul_comm (256 ^ r.length) 256]
    omega
theorem num_lt {l : List Int} (h : Bytes l) : num l < 256 ^ l.length := by
  induction l with
  | nil => simp [num]
  | cons x r ih =>
    have hx := h x List.mem_cons_self
    have := ih h.tail
    rw [num_cons, List.length_cons, Nat.pow_succ]
    omega
theorem num_inj : ∀ {a b : List Int}, Bytes a → Bytes b → a.length = b.length → num a = num b → a = b
  | [], [], _, _, _, _ => rfl
  | [], _ :: _, _, _, h, _ => by simp at h
  | _ :: _, [], _, _, h, _ => by simp at h
  | x :: a, y :: b, ha, hb, hl, hn => by
    have hx := ha x List.mem_cons_self
    have hy := hb y List.mem_cons_self
    rw [num_cons, num_cons] at hn
    have e : num a = num b := by omega
    have e2 : x = y := by omega
    rw [e2, num_inj ha.tail hb.tail (by simpa using hl) e]
theorem num_split (l : List Int) (k : Nat) (h : k ≤ l.length) : num l = num (l.take k) + 256 ^ k * num (l.drop k) := by
  have := num_append (l.take k) (l.drop k)
  rw [List.take_append_drop, List.length_take, Nat.min_eq_left h] at this
  exact this
/-- The lowest k bytes of a number. -/
def low (k v : Nat) : List Int := (List.range k).map fun i => ((v / 256 ^ i % 256 : Nat) : Int)
theorem low_len (k v : Nat) : (low k v).length = k := by simp [low]
theorem low_bytes (k v : Nat) : Bytes (low k v) := by
  intro x hx
  obtain ⟨i, _, rfl⟩ := List.mem_map.1 hx
  have := Nat.mod_lt (v / 256 ^ i) (show 0 < 256 by decide)
  omega
theorem low_succ (k v : Nat) : low (k + 1) v = ((v % 256 : Nat) : Int) :: low k (v / 256) := by
  unfold low
  rw [List.range_succ_eq_map, List.map_cons, List.map_map]
  congr 1
  · simp
  · refine List.map_congr_left fun i _ => ?_
    simp only [Function.comp]
    rw [Nat.pow_succ, Nat.mul_comm, Nat.div_div_eq_div_mul]
theorem num_low (k v : Nat) : num (low k v) = v % 256 ^ k := by
  induction k generalizing v with
  | zero => simp [low, num, Nat.mod_one]
  | succ k ih =>
    rw [low_succ, num_cons, ih, Nat.pow_succ, Nat.mul_comm (256 ^ k) 256, Nat.mod_mul, Int.toNat_natCast]
/-- Bytes laid over others from a place on. -/
def over (D : List Int) (o : Nat) (P : List Int) : List Int := D.take o ++ P ++ D.drop (o + P.length)
theorem over_len {D P : List Int} {o : Nat} (h : o + P.length ≤ D.length) : (over D o P).length = D.length := by
  unfold over
  rw [List.length_append, List.length_append, List.length_take, List.length_drop]
  omega
theorem over_bytes {D P : List Int} (o : Nat) (hD : Bytes D) (hP : Bytes P) : Bytes (over D o P) := ((hD.take o).append hP).append (hD.drop _)
/-- What stands from byte o on is zero. -/
theorem num_over {D P : List Int} {o : Nat} (h : o + P.length ≤ D.length) (hz : num D < 256 ^ o) : num (over D o P) = num D + 256 ^ o * num P := by
  have h1 := num_split D o (by omega)
  have h2 : num (D.drop o) = 0 := by
    rcases Nat.eq_zero_or_pos (num (D.drop o)) with h | h
    · exact h
    · have := Nat.mul_le_mul_left (256 ^ o) h
      omega
  have h3 := num_split (D.drop o) P.length (by rw [List.length_drop]; omega)
  rw [h2, List.drop_drop] at h3
  have h4 : num (D.drop (o + P.length)) = 0 := by
    rcases Nat.eq_zero_or_pos (num (D.drop (o + P.length))) with h | h
    · exact h
    · have h5 := Nat.mul_le_mul_left (256 ^ P.length) h
      have h6 : 0 < 256 ^ P.length := Nat.pow_pos (by decide)
      omega
  unfold over
  rw [num_append, num_append, h4, List.length_take, Nat.min_eq_left (by omega), h1, h2]
  omega
/-- Bytes that agree with a number, and zeros behind them. -/
theorem is_over {D W : List Int} (hD : Bytes D) (hW : Bytes W) (hl : W.length ≤ D.length) (hn : num D = num W) : D = W ++ List.replicate (D.length - W.length) 0 := by
  refine num_inj hD (hW.append (Bytes.zeros _)) (by rw [List.length_append, List.length_replicate]; omega) ?_
  rw [num_append, num_zeros, hn]
  omega

/-- Where a bit writer stands: D what is written, o bytes of it full, t bits (B) not yet laid; X the number of n bits that all of them are. -/
structure Rel (D : List Int) (o t B X n : Nat) : Prop where
  bytes : Bytes D
  room : o ≤ D.length
  zero : num D < 256 ^ o
  bits : t < 64
  buf : B < 2 ^ t
  all : X = num D + 256 ^ o * B
  at_ : n = 8 * o + t
theorem p256 (o : Nat) : 256 ^ o = 2 ^ (8 * o) := by rw [Nat.pow_mul]
/-- A number of k bits put behind t bits that stay below 64. -/
theorem Rel.stay {D : List Int} {o t B X n : Nat} (h : Rel D o t B X n) (v k : Nat) (hv : v < 2 ^ k) (ht : t + k < 64) : Rel D o (t + k) (B + v * 2 ^ t) (X + v * 2 ^ n) (n + k) := by
  refine ⟨h.bytes, h.room, h.zero, ht, ?_, ?_, by rw [h.at_]; omega⟩
  · have h1 := h.buf
    have h2 : v * 2 ^ t + 2 ^ t ≤ 2 ^ k * 2 ^ t := by
      rw [← Nat.succ_mul]
      exact Nat.mul_le_mul_right _ hv
    rw [Nat.add_comm t k, Nat.pow_add]
    omega
  · rw [h.all, h.at_, p256, Nat.pow_add, Nat.mul_add]
    rw [Nat.mul_comm (2 ^ (8 * o)) (v * 2 ^ t), Nat.mul_assoc v (2 ^ t), Nat.mul_comm (2 ^ t) (2 ^ (8 * o))]
    omega
/-- .. that fill the 64. -/
theorem Rel.full {D : List Int} {o t B X n : Nat} (h : Rel D o t B X n) (v k : Nat) (hv : v < 2 ^ k) (hk : k ≤ 64) (ht : 64 ≤ t + k) (hr : o + 8 ≤ D.length) :
    Rel (over D o (low 8 ((B + v * 2 ^ t) % 2 ^ 64))) (o + 8) (t + k - 64) (v / 2 ^ (64 - t)) (X + v * 2 ^ n) (n + k) := by
  have hb := h.bits
  have hlo : (low 8 ((B + v * 2 ^ t) % 2 ^ 64)).length = 8 := low_len _ _
  have hnum : num (low 8 ((B + v * 2 ^ t) % 2 ^ 64)) = (B + v * 2 ^ t) % 2 ^ 64 := by
    rw [num_low, p256, show 8 * 8 = 64 from rfl, Nat.mod_mod]
  have hdiv : (B + v * 2 ^ t) / 2 ^ 64 = v / 2 ^ (64 - t) := by
    rw [show (2 : Nat) ^ 64 = 2 ^ t * 2 ^ (64 - t) by rw [← Nat.pow_add]; congr 1; omega, ← Nat.div_div_eq_div_mul, Nat.add_mul_div_right _ _ (Nat.two_pow_pos t), Nat.div_eq_of_lt h.buf, Nat.zero_add]
  have hdm := Nat.div_add_mod (B + v * 2 ^ t) (2 ^ 64)
  rw [hdiv] at hdm
  have hov := num_over (P := low 8 ((B + v * 2 ^ t) % 2 ^ 64)) (by rw [hlo]; exact hr) h.zero
  rw [hnum] at hov
  have hm := Nat.mod_lt (B + v * 2 ^ t) (Nat.two_pow_pos 64)
  refine ⟨over_bytes o h.bytes (low_bytes _ _), by rw [over_len (by rw [hlo]; exact hr)]; exact hr, ?_, by omega, ?_, ?_, by rw [h.at_]; omega⟩
  · rw [hov, Nat.pow_add, show (256 : Nat) ^ 8 = 2 ^ 64 from rfl]
    have h1 := h.zero
    have h2 := Nat.mul_le_mul_left (256 ^ o) (show (B + v * 2 ^ t) % 2 ^ 64 + 1 ≤ 2 ^ 64 from hm)
    rw [Nat.mul_add] at h2
    omega
  · rw [Nat.div_lt_iff_lt_mul (Nat.two_pow_pos _), ← Nat.pow_add, show t + k - 64 + (64 - t) = k by omega]
    exact hv
  · rw [hov, h.all, h.at_, Nat.pow_add 256, show (256 : Nat) ^ 8 = 2 ^ 64 from rfl, p256, Nat.pow_add 2]
    have e : 2 ^ (8 * o) * (B + v * 2 ^ t) = 2 ^ (8 * o) * (2 ^ 64 * (v / 2 ^ (64 - t)) + (B + v * 2 ^ t) % 2 ^ 64) := by rw [hdm]
    rw [Nat.mul_add, Nat.mul_add, ← Nat.mul_assoc (2 ^ (8 * o)) (2 ^ 64)] at e
    rw [← Nat.mul_assoc v, Nat.mul_comm v, Nat.mul_assoc (2 ^ (8 * o)) v, Nat.add_assoc, e]
    omega
/-- All that was buffered is laid, and the next byte is a whole one. -/
theorem Rel.flush {D : List Int} {o t B X n : Nat} (h : Rel D o t B X n) (hr : o + (t + 7) / 8 ≤ D.length) :
    Rel (over D o (low ((t + 7) / 8) B)) (o + (t + 7) / 8) 0 0 X (8 * (o + (t + 7) / 8)) := by
  have hb := h.bits
  have hlo : (low ((t + 7) / 8) B).length = (t + 7) / 8 := low_len _ _
  have hB : B < 256 ^ ((t + 7) / 8) := by
    rw [p256]
    exact Nat.lt_of_lt_of_le h.buf (Nat.pow_le_pow_right (by decide) (by omega))
  have hnum : num (low ((t + 7) / 8) B) = B := by rw [num_low, Nat.mod_eq_of_lt hB]
  have hov := num_over (P := low ((t + 7) / 8) B) (by rw [hlo]; exact hr) h.zero
  rw [hnum] at hov
  refine ⟨over_bytes o h.bytes (low_bytes _ _), by rw [over_len (by rw [hlo]; exact hr)]; exact hr, ?_, by decide, by decide, ?_, by omega⟩
  · rw [hov, Nat.pow_add]
    have h1 := h.zero
    have h2 := Nat.mul_le_mul_left (256 ^ o) (show B + 1 ≤ 256 ^ ((t + 7) / 8) from hB)
    rw [Nat.mul_add] at h2
    omega
  · rw [hov, h.all]
    omega
/-- Bytes laid at a whole byte. -/
theorem Rel.lay {D : List Int} {o X n : Nat} (h : Rel D o 0 0 X n) {P : List Int} (hP : Bytes P) (hr : o + P.length ≤ D.length) : Rel (over D o P) (o + P.length) 0 0 (X + num P * 2 ^ n) (n + 8 * P.length) := by
  have hov := num_over hr h.zero
  have e := h.at_
  refine ⟨over_bytes o h.bytes hP, by rw [over_len hr]; exact hr, ?_, by decide, by decide, ?_, by omega⟩
  · rw [hov, Nat.pow_add]
    have h1 := h.zero
    have h2 := Nat.mul_le_mul_left (256 ^ o) (show num P + 1 ≤ 256 ^ P.length from num_lt hP)
    rw [Nat.mul_add] at h2
    omega
  · rw [hov, h.all, e, Nat.add_zero, p256, Nat.mul_comm (num P)]
    omega
/-- Bytes left out. -/
theorem Rel.skip {D : List Int} {o X n : Nat} (h : Rel D o 0 0 X n) (k : Nat) (hr : o + k ≤ D.length) : Rel D (o + k) 0 0 X (n + 8 * k) := by
  have h1 := h.zero
  have e := h.at_
  have h2 : 256 ^ o ≤ 256 ^ (o + k) := Nat.pow_le_pow_right (by decide) (by omega)
  have h3 := h.all
  exact ⟨h.bytes, hr, by omega, by decide, by decide, by omega, by omega⟩

end Go.Proofs.Ytmlfgolmdeignaa.Pk
