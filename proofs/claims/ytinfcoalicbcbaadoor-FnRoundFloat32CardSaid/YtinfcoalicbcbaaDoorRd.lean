/- What is no number, what is endless, what is whole. -/
import Derived.Test.YtinfcoalicbcbaaDoorRc
namespace Go.Proofs.YtinfcoalicbcbaaDoor.Rd
set_option linter.unusedVariables false
set_option linter.unusedSimpArgs false
open Go.RowKit Go.IntWalk Go.Proofs.YtinfcoalicbcbaaDoorW.PrintWords Go.Proofs.YtinfcoalicbcbaaDoorW.PrintLast Go.Proofs.YtinfcoalicbcbaaDoorW.PrintMore
attribute [local go_sem] max2_int min2_int max_two min_two max_three min_three max_four min_four
attribute [local go_sem] run5 run6 run21 run22 run_store_float
theorem run_up_nan {x : Nat} (h : (Ieee.single.read x).isNaN = true) (w : World) : ∃ y, (convert 26 29 (.float .f32 x)).run Tryd.prog w = .ok (.float .f64 y) w.drew ∧ (Ieee.double.read y).isNaN = true ∧ y < 18446744073709551616 := by
  have hc : (convert 26 29 (.float .f32 x)).run Tryd.prog w = (Conv.floatToFloat .f32 x .f64).run Tryd.prog w := by
    simp [convert, run_underlying Tryd.underlying26, run_underlying Tryd.underlying29]
  have hd : FloatKind.f32.decode x = Ieee.single.read x := rfl
  rw [hc]
  rcases single_cases x with ⟨s, m, e, h1, h2, h3, h4⟩ | ⟨s, h1⟩ | ⟨s, t, h1⟩
  · rw [h1] at h; cases h
  · rw [h1] at h; cases h
  · obtain ⟨y, hy⟩ : ∃ y, y = (Question.nanConv .f64 x).cut (w.tape w.drawn (.nanConv .f64 x)) := ⟨_, rfl⟩
    refine ⟨y, ?_, ?_, ?_⟩
    · unfold Conv.floatToFloat
      rw [if_neg (by decide), hd, h1, hy]
      simp [Question.forced]
    · rw [hy]
      generalize w.tape w.drawn (.nanConv .f64 x) = t
      exact nan_word (t % 2) (t / 2 % 4503599627370495) (Nat.mod_lt _ (by decide)) (Nat.mod_lt _ (by decide))
    · rw [hy]
      generalize w.tape w.drawn (.nanConv .f64 x) = t
      show t % 2 * 9223372036854775808 + 9218868437227405312 + 1 + t / 2 % 4503599627370495 < _
      omega
theorem run_sub_inf {x : Nat} {s : Bool} (h : Ieee.single.read x = .infinity s) (w : World) : ∃ y, (binOp .sub 26 (.float .f32 x) (.float .f32 x)).run Tryd.prog w = .ok (.float .f32 y) w.drew ∧ (Ieee.single.read y).isNaN = true := by
  have hn : Ieee.single.sub x x = none := by
    unfold Ieee.Format.sub
    rw [h]
    cases s <;> rfl
  obtain ⟨y, hy⟩ : ∃ y, y = (Question.nanBits .f32 x x).cut (w.tape w.drawn (.nanBits .f32 x x)) := ⟨_, rfl⟩
  refine ⟨y, ?_, ?_⟩
  · rw [hy]
    simp [binOp, Op.floatArith, FloatKind.format, hn, Question.forced]
  · rw [hy]
    generalize w.tape w.drawn (.nanBits .f32 x x) = t
    exact nan_word32 (t % 2) (t / 2 % 8388607) (Nat.mod_lt _ (by decide)) (Nat.mod_lt _ (by decide))
theorem run_dn_up {x : Nat} (hx : x < 4294967296) (h : (Ieee.single.read x).isNaN = false) (w : World) : (convert 29 26 (.float .f64 (up x))).run Tryd.prog w = .ok (.float .f32 x) w := by
  have hc : (convert 29 26 (.float .f64 (up x))).run Tryd.prog w = (Conv.floatToFloat .f64 (up x) .f32).run Tryd.prog w := by
    simp [convert, run_underlying Tryd.underlying26, run_underlying Tryd.underlying29]
  have hd : FloatKind.f64.decode (up x) = Ieee.double.read (up x) := rfl
  rw [hc]
  unfold Conv.floatToFloat
  rw [if_neg (by decide), hd]
  rcases single_cases x with ⟨s, m, e, h1, h2, h3, h4⟩ | ⟨s, h1⟩ | ⟨s, t, h1⟩
  · obtain ⟨a, ha⟩ := wide_number (s := s) h2 h3 h4
    have hu : Ieee.double.read (up x) = .number s (m * 2 ^ a) (e - a) := by unfold up; rw [h1]; exact ha
    obtain ⟨i, hi⟩ : ∃ i : Int, i = e - a := ⟨_, rfl⟩
    rw [← hi] at hu
    have hw : FloatKind.f32.encode (.number s (m * 2 ^ a) i) = x := by
      have := dn_up hx h1 h2 h3 h4
      unfold dn at this
      rw [hu] at this
      exact this
    have hif : (FloatKind.f32.decode x).isInfinity = false := by
      show (Ieee.single.read x).isInfinity = false
      rw [h1]
      rfl
    rw [hu]
    simp [hw, hif]
  · have hu : Ieee.double.read (up x) = .infinity s := by
      unfold up
      rw [h1]
      exact read_inf s
    rw [hu]
    have hw : FloatKind.f32.encode (.infinity s) = x := inf_word hx h1
    show Result.ok (Value.float .f32 (FloatKind.f32.encode (.infinity s))) w = _
    rw [hw]
  · rw [h1] at h
    cases h
set_option maxRecDepth 100000 in
theorem call_self (R E v : Nat) (w : World) (hEE : w.heap[E]? = some (.cells #[.nilIface] 39 (0, 0))) (hv : (Ieee.single.read v).isNaN = true ∨ (Ieee.single.read v).isInfinity = true) :
    Calls Tryd.prog 20 #[.pointer (some ⟨R, 0, none⟩), .float .f32 v, .pointer (some ⟨E, 0, none⟩)] w (CallP E w fun out ok => out = v ∧ ok = true) := by
  have HEE := Aside0.mk hEE
  clear hEE
  cases hn : (Ieee.single.read v).isNaN with
  | true =>
    obtain ⟨y, u1, yn, yl⟩ := run_up_nan hn w
    have i1 : (FloatKind.f64.format.order (y % 9223372036854775808) 9218868437227405311 == some Ordering.gt) = false := by
      refine (inf_test y).trans ?_
      cases hy : Ieee.double.read y with
      | nan s t => rfl
      | infinity s => rw [hy] at yn; cases yn
      | number s m e => rfl
    have i2 : (FloatKind.f64.format.order y y != some Ordering.eq) = true := (nan_test y).trans yn
    have HI := Aside0.mk (fun W => isInf7 y yl W)
    have HN := Aside0.mk (fun W => isNaN8 y W)
    clear hv hn yn yl
    go_enter Tryd.func20, Tryd.ntmps20
    go_wp2_with (first | (go_at_call 7; refine Calls.mono (HI.out _) ?_; rintro r w1 ⟨rfl, rfl⟩) | (go_at_call 8; refine Calls.mono (HN.out _) ?_; rintro r w1 ⟨rfl, rfl⟩))
    go_ret
    exact ⟨v, .nilIface, rfl, HEE.out, (Below.refl _ _).drew, .inl ⟨rfl, rfl, rfl⟩⟩
  | false =>
    have hi : (Ieee.single.read v).isInfinity = true := by
      rcases hv with h | h
      · rw [hn] at h; cases h
      · exact h
    have u1 := run_up hn
    obtain ⟨y, hy⟩ : ∃ y, y = up v := ⟨_, rfl⟩
    rw [← hy] at u1
    have i1 : (FloatKind.f64.format.order (y % 9223372036854775808) 9218868437227405311 == some Ordering.gt) = true := by rw [hy]; exact (inf_test _).trans ((up_class v hn).2.trans hi)
    have HI := Aside0.mk (fun W => isInf7 y (by rw [hy]; exact up_lt hn) W)
    clear hv hn hi hy
    go_enter Tryd.func20, Tryd.ntmps20
    go_wp2_with (go_at_call 7; refine Calls.mono (HI.out _) ?_; rintro r w1 ⟨rfl, rfl⟩)
    go_ret
    exact ⟨v, .nilIface, rfl, HEE.out, Below.refl _ _, .inl ⟨rfl, rfl, rfl⟩⟩

end Go.Proofs.YtinfcoalicbcbaaDoor.Rd
