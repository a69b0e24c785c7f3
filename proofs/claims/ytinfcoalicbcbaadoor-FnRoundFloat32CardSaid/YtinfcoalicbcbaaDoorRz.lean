/- The functions of the modes. -/
import Derived.Test.YtinfcoalicbcbaaDoorRy
namespace Go.Proofs.YtinfcoalicbcbaaDoor.Rd
set_option linter.unusedVariables false
set_option linter.unusedSimpArgs false
open Go.RowKit Go.IntWalk Go.Proofs.YtinfcoalicbcbaaDoorW.PrintWords Go.Proofs.YtinfcoalicbcbaaDoorW.PrintLast Go.Proofs.YtinfcoalicbcbaaDoorW.PrintMore
attribute [local go_sem] max2_int min2_int max_two min_two max_three min_three max_four min_four
attribute [local go_sem] run5 run6 run21 run22 run40
theorem run_up {x : Nat} (h : (Ieee.single.read x).isNaN = false) (w : World) : (convert 26 29 (.float .f32 x)).run Tryd.prog w = .ok (.float .f64 (up x)) w := by
  have hc : (convert 26 29 (.float .f32 x)).run Tryd.prog w = (Conv.floatToFloat .f32 x .f64).run Tryd.prog w := by
    simp [convert, run_underlying Tryd.underlying26, run_underlying Tryd.underlying29]
  have hd : FloatKind.f32.decode x = Ieee.single.read x := rfl
  rw [hc]
  unfold up
  rcases single_cases x with ⟨s, m, e, h1, h2, h3, h4⟩ | ⟨s, h1⟩ | ⟨s, t, h1⟩
  · obtain ⟨a, ha⟩ := wide_number (s := s) h2 h3 h4
    have hw : FloatKind.f64.encode (.number s m e) = Ieee.double.write (.number s m e) := rfl
    have hn : (FloatKind.f64.decode (Ieee.double.write (.number s m e))).isInfinity = false := by
      show (Ieee.double.read (Ieee.double.write (.number s m e))).isInfinity = false
      rw [ha]
      rfl
    unfold Conv.floatToFloat
    rw [if_neg (by decide), hd, h1]
    simp [hw, hn]
  · unfold Conv.floatToFloat
    rw [if_neg (by decide), hd, h1]
    rfl
  · rw [h1] at h
    cases h
theorem run_dn {y : Nat} {s : Bool} {n : Nat} (hy : y = I64 s n) (hn : n < 2 ^ 24) (w : World) : (convert 29 26 (.float .f64 y)).run Tryd.prog w = .ok (.float .f32 (I32 s n)) w := by
  subst hy
  have hc : (convert 29 26 (.float .f64 (I64 s n))).run Tryd.prog w = (Conv.floatToFloat .f64 (I64 s n) .f32).run Tryd.prog w := by
    simp [convert, run_underlying Tryd.underlying26, run_underlying Tryd.underlying29]
  have hd : FloatKind.f64.decode (I64 s n) = Ieee.double.read (I64 s n) := rfl
  have hdn := dn_I (s := s) (n := n) (Nat.lt_trans hn (by decide))
  obtain ⟨a, ha, _⟩ := some64 s (m := n) (e := 0) (Nat.lt_trans hn (by decide)) (by omega) (by omega)
  obtain ⟨i, hi0⟩ : ∃ i : Int, i = (0 : Int) - a := ⟨_, rfl⟩
  rw [← hi0] at ha
  have ha' : Ieee.double.read (I64 s n) = _ := ha
  obtain ⟨b, hb, _⟩ := some32 s hn (e := 0) (by omega) (by omega)
  rw [hc]
  unfold Conv.floatToFloat
  rw [if_neg (by decide), hd, ha']
  have hw : FloatKind.f32.encode (.number s (n * 2 ^ a) i) = I32 s n := by
    rw [← hdn]
    unfold dn
    rw [ha']
    rfl
  have hi : (FloatKind.f32.decode (I32 s n)).isInfinity = false := by
    show (Ieee.single.read (Ieee.single.nearest s n 0)).isInfinity = false
    rw [hb]
    rfl
  simp [hw, hi]
/-- What a mode's function answers. -/
def CloC (fo mode : Nat) : Prop := ∀ (x : Nat) (s : Bool) (m k : Nat) (h : frc x s m k) (w : World), Calls Tryd.prog fo #[.float .f32 x] w fun e w' => e = .returned (.float .f32 (I32 s (clo mode s m k))) ∧ w' = w
set_option maxRecDepth 100000 in
theorem clo28 : CloC 28 0 := fun x s m k h w => by
  have h1 := run_up h.nn.1
  have h2 : ∀ w, (convert 29 26 (.float .f64 (fl .down (up x)))).run Tryd.prog w = .ok (.float .f32 (I32 s (clo 0 s m k))) w := run_dn (by rw [h.fl .down, cut_down h.2.2.2.2]; rfl) (clo_lt h.2.1 h.2.2.1)
  have HF := Aside0.mk (floor15 (up x) h.nn.2.1 w)
  clear h
  go_enter Tryd.func28, Tryd.ntmps28
  go_wp2_with (go_at_call 15; refine Calls.mono HF.out ?_; rintro r w1 ⟨rfl, rfl⟩)
  go_ret
  exact ⟨rfl, rfl⟩
set_option maxRecDepth 100000 in
theorem clo29 : CloC 29 1 := fun x s m k h w => by
  have h1 := run_up h.nn.1
  have h2 : ∀ w, (convert 29 26 (.float .f64 (fl .up (up x)))).run Tryd.prog w = .ok (.float .f32 (I32 s (clo 1 s m k))) w := run_dn (by rw [h.fl .up, cut_up h.2.2.2.2]; rfl) (clo_lt h.2.1 h.2.2.1)
  have HF := Aside0.mk (ceil30 (up x) h.nn.2.1 w)
  clear h
  go_enter Tryd.func29, Tryd.ntmps29
  go_wp2_with (go_at_call 30; refine Calls.mono HF.out ?_; rintro r w1 ⟨rfl, rfl⟩)
  go_ret
  exact ⟨rfl, rfl⟩
set_option maxRecDepth 100000 in
theorem clo31 : CloC 31 2 := fun x s m k h w => by
  have h1 := run_up h.nn.1
  have h2 : ∀ w, (convert 29 26 (.float .f64 (fl .zero (up x)))).run Tryd.prog w = .ok (.float .f32 (I32 s (clo 2 s m k))) w := run_dn (by rw [h.fl .zero, cut_zero]; rfl) (clo_lt h.2.1 h.2.2.1)
  have HF := Aside0.mk (trunc32 (up x) h.nn.2.1 w)
  clear h
  go_enter Tryd.func31, Tryd.ntmps31
  go_wp2_with (go_at_call 32; refine Calls.mono HF.out ?_; rintro r w1 ⟨rfl, rfl⟩)
  go_ret
  exact ⟨rfl, rfl⟩
set_option maxRecDepth 100000 in
theorem clo35 : CloC 35 4 := fun x s m k h w => by
  have h1 := run_up h.nn.1
  have h2 : ∀ w, (convert 29 26 (.float .f64 (fl .down (up x)))).run Tryd.prog w = .ok (.float .f32 (I32 s (clo 4 s m k))) w := run_dn (by rw [h.fl .down, cut_down h.2.2.2.2]; rfl) (clo_lt h.2.1 h.2.2.1)
  have HF := Aside0.mk (floor15 (up x) h.nn.2.1 w)
  clear h
  go_enter Tryd.func35, Tryd.ntmps35
  go_wp2_with (go_at_call 15; refine Calls.mono HF.out ?_; rintro r w1 ⟨rfl, rfl⟩)
  go_ret
  exact ⟨rfl, rfl⟩
set_option maxRecDepth 100000 in
theorem clo36 : CloC 36 5 := fun x s m k h w => by
  have h1 := run_up h.nn.1
  have h2 : ∀ w, (convert 29 26 (.float .f64 (fl .up (up x)))).run Tryd.prog w = .ok (.float .f32 (I32 s (clo 5 s m k))) w := run_dn (by rw [h.fl .up, cut_up h.2.2.2.2]; rfl) (clo_lt h.2.1 h.2.2.1)
  have HF := Aside0.mk (ceil30 (up x) h.nn.2.1 w)
  clear h
  go_enter Tryd.func36, Tryd.ntmps36
  go_wp2_with (go_at_call 30; refine Calls.mono HF.out ?_; rintro r w1 ⟨rfl, rfl⟩)
  go_ret
  exact ⟨rfl, rfl⟩
set_option maxRecDepth 100000 in
theorem clo37 : CloC 37 6 := fun x s m k h w => by
  have h1 := run_up h.nn.1
  have h2 : ∀ w, (convert 29 26 (.float .f64 (fl .zero (up x)))).run Tryd.prog w = .ok (.float .f32 (I32 s (clo 6 s m k))) w := run_dn (by rw [h.fl .zero, cut_zero]; rfl) (clo_lt h.2.1 h.2.2.1)
  have HF := Aside0.mk (trunc32 (up x) h.nn.2.1 w)
  clear h
  go_enter Tryd.func37, Tryd.ntmps37
  go_wp2_with (go_at_call 32; refine Calls.mono HF.out ?_; rintro r w1 ⟨rfl, rfl⟩)
  go_ret
  exact ⟨rfl, rfl⟩
set_option maxRecDepth 100000 in
theorem clo39 : CloC 39 8 := fun x s m k h w => by
  have h1 := run_up h.nn.1
  have h2 : ∀ w, (convert 29 26 (.float .f64 (fl .even (up x)))).run Tryd.prog w = .ok (.float .f32 (I32 s (clo 8 s m k))) w := run_dn (by rw [h.fl .even]; rfl) (clo_lt h.2.1 h.2.2.1)
  have hn := h.nn.2.1
  clear h
  go_enter Tryd.func39, Tryd.ntmps39
  go_wp2
  go_ret
  exact ⟨rfl, rfl⟩
set_option maxRecDepth 100000 in
theorem clo33 : CloC 33 3 := fun x s m k h w => by
  have h1 := run_up h.nn.1
  have HF := Aside0.mk (floor15 (up x) h.nn.2.1 w)
  have HC := Aside0.mk (ceil30 (up x) h.nn.2.1 w)
  have HS := Aside0.mk (sign34 (up x) h.lt.1 w)
  rw [h.lt.2] at HS
  have hf := h.fl .down
  have hc := h.fl .up
  rw [cut_down h.2.2.2.2] at hf
  rw [cut_up h.2.2.2.2] at hc
  have hlt := clo_lt (mode := 3) (s := s) h.2.1 h.2.2.1
  clear h
  cases s with
  | true =>
    have h2 : ∀ w, (convert 29 26 (.float .f64 (fl .down (up x)))).run Tryd.prog w = .ok (.float .f32 (I32 true (clo 3 true m k))) w := run_dn (by rw [hf]; rfl) hlt
    clear hf hc hlt
    go_enter Tryd.func33, Tryd.ntmps33
    go_wp2_with (first | (go_at_call 34; refine Calls.mono HS.out ?_; rintro r w1 ⟨rfl, rfl⟩) | (go_at_call 15; refine Calls.mono HF.out ?_; rintro r w1 ⟨rfl, rfl⟩))
    go_ret
    exact ⟨rfl, rfl⟩
  | false =>
    have h2 : ∀ w, (convert 29 26 (.float .f64 (fl .up (up x)))).run Tryd.prog w = .ok (.float .f32 (I32 false (clo 3 false m k))) w := run_dn (by rw [hc]; rfl) hlt
    clear hf hc hlt
    go_enter Tryd.func33, Tryd.ntmps33
    go_wp2_with (first | (go_at_call 34; refine Calls.mono HS.out ?_; rintro r w1 ⟨rfl, rfl⟩) | (go_at_call 30; refine Calls.mono HC.out ?_; rintro r w1 ⟨rfl, rfl⟩))
    go_ret
    exact ⟨rfl, rfl⟩
set_option maxRecDepth 100000 in
theorem clo38 : CloC 38 7 := fun x s m k h w => by
  have h1 := run_up h.nn.1
  have HF := Aside0.mk (floor15 (up x) h.nn.2.1 w)
  have HC := Aside0.mk (ceil30 (up x) h.nn.2.1 w)
  have HS := Aside0.mk (sign34 (up x) h.lt.1 w)
  rw [h.lt.2] at HS
  have hf := h.fl .down
  have hc := h.fl .up
  rw [cut_down h.2.2.2.2] at hf
  rw [cut_up h.2.2.2.2] at hc
  have hlt := clo_lt (mode := 7) (s := s) h.2.1 h.2.2.1
  clear h
  cases s with
  | true =>
    have h2 : ∀ w, (convert 29 26 (.float .f64 (fl .down (up x)))).run Tryd.prog w = .ok (.float .f32 (I32 true (clo 7 true m k))) w := run_dn (by rw [hf]; rfl) hlt
    clear hf hc hlt
    go_enter Tryd.func38, Tryd.ntmps38
    go_wp2_with (first | (go_at_call 34; refine Calls.mono HS.out ?_; rintro r w1 ⟨rfl, rfl⟩) | (go_at_call 15; refine Calls.mono HF.out ?_; rintro r w1 ⟨rfl, rfl⟩))
    go_ret
    exact ⟨rfl, rfl⟩
  | false =>
    have h2 : ∀ w, (convert 29 26 (.float .f64 (fl .up (up x)))).run Tryd.prog w = .ok (.float .f32 (I32 false (clo 7 false m k))) w := run_dn (by rw [hc]; rfl) hlt
    clear hf hc hlt
    go_enter Tryd.func38, Tryd.ntmps38
    go_wp2_with (first | (go_at_call 34; refine Calls.mono HS.out ?_; rintro r w1 ⟨rfl, rfl⟩) | (go_at_call 30; refine Calls.mono HC.out ?_; rintro r w1 ⟨rfl, rfl⟩))
    go_ret
    exact ⟨rfl, rfl⟩
set_option maxRecDepth 100000 in
theorem clo41 : CloC 41 9 := fun x s m k h w => by
  have h1 := run_up h.nn.1
  obtain ⟨z, hz⟩ : ∃ z, z = Ieee.double.nearest s m (-((k + 1 : Nat) : Int)) := ⟨_, rfl⟩
  have hmul := fmul64 (h.half.trans (congrArg some hz.symm)) 29
  have hk2 : k + 1 ≤ 900 := by have := h.2.2.2.1; omega
  have hf : fl .down z = I64 s (Ieee.Toward.down.cut s m (k + 1)) := by rw [hz]; exact fl_frac .down s (Nat.lt_trans h.2.1 (by decide)) hk2
  have hc : fl .up z = I64 s (Ieee.Toward.up.cut s m (k + 1)) := by rw [hz]; exact fl_frac .up s (Nat.lt_trans h.2.1 (by decide)) hk2
  have hzn : (Ieee.double.read z).isNaN = false := by
    obtain ⟨a, ha, _⟩ := some64 s (m := m) (e := -((k + 1 : Nat) : Int)) (Nat.lt_trans h.2.1 (by decide)) (by omega) (by omega)
    rw [hz, ha]
    rfl
  have hadd := fadd64 h.odd 29
  rw [← hf, ← hc] at hadd
  have h2 : ∀ w, (convert 29 26 (.float .f64 (I64 s (2 * (m / 2 ^ (k + 1)) + 1)))).run Tryd.prog w = .ok (.float .f32 (I32 s (clo 9 s m k))) w := run_dn rfl (clo_lt (mode := 9) h.2.1 h.2.2.1)
  obtain ⟨u, hu⟩ : ∃ u, u = I64 s (2 * (m / 2 ^ (k + 1)) + 1) := ⟨_, rfl⟩
  rw [← hu] at hadd h2
  have HF := Aside0.mk (floor15 z hzn w)
  have HC := Aside0.mk (ceil30 z hzn w)
  clear h hf hc hz hu hzn hk2
  go_enter Tryd.func41, Tryd.ntmps41
  go_wp2_with (first | (go_at_call 15; refine Calls.mono HF.out ?_; rintro r w1 ⟨rfl, rfl⟩) | (go_at_call 30; refine Calls.mono HC.out ?_; rintro r w1 ⟨rfl, rfl⟩))
  go_ret
  exact ⟨rfl, rfl⟩

end Go.Proofs.YtinfcoalicbcbaaDoor.Rd
