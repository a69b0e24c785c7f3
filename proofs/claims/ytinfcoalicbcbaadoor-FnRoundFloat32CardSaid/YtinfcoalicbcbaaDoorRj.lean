/- The law's small functions. -/
import Derived.Test.YtinfcoalicbcbaaDoorRi
namespace Go.Proofs.YtinfcoalicbcbaaDoor.Rd
set_option linter.unusedVariables false
set_option linter.unusedSimpArgs false
open Go.RowKit Go.IntWalk Go.Proofs.YtinfcoalicbcbaaDoorW.PrintWords Go.Proofs.YtinfcoalicbcbaaDoorW.PrintLast Go.Proofs.YtinfcoalicbcbaaDoorW.PrintMore
attribute [local go_sem] max2_int min2_int max_two min_two max_three min_three max_four min_four
attribute [local go_sem] run5 run6 run21 run22 run_store_float
theorem ten_step : ∀ i, i < 10 → Ieee.double.mul (pw64.getD i 0) 4621819117588971520 = some (pw64.getD (i + 1) 0)
  | 0, _ => by decide +kernel
  | 1, _ => by decide +kernel
  | 2, _ => by decide +kernel
  | 3, _ => by decide +kernel
  | 4, _ => by decide +kernel
  | 5, _ => by decide +kernel
  | 6, _ => by decide +kernel
  | 7, _ => by decide +kernel
  | 8, _ => by decide +kernel
  | 9, _ => by decide +kernel
  | n + 10, h => absurd h (by omega)
set_option maxRecDepth 100000 in
theorem ten9 (n : Nat) (hn : n ≤ 10) (w : World) : Calls Tryd.prog 9 #[.int .i64 n] w fun e w' => e = .returned (.float .f64 (pw64.getD n 0)) ∧ w' = w := by
  go_enter Tryd.func9, Tryd.ntmps9
  go_wp2
  go_loopg [3, 4] n (fun kq v3 v4 w' => ∃ i : Nat, v3 = .float .f64 (pw64.getD i 0) ∧ v4 = .int .i64 i ∧ Aside0 (kq + i = n) ∧ w' = w)
  case atStart => exact ⟨0, rfl, rfl, ⟨by omega⟩, rfl⟩
  case round =>
    obtain ⟨i, rfl, rfl, HJ, rfl⟩ := hrel
    have hi0 : i ≤ n := by have := HJ.out; omega
    by_cases hi : i < n
    · have hiI : (i : Int) < (n : Int) := by omega
      have hmul := fmul64 (ten_step i (by omega)) 29
      obtain ⟨a, ha⟩ : ∃ a, a = pw64.getD i 0 := ⟨_, rfl⟩
      obtain ⟨b, hb⟩ : ∃ b, b = pw64.getD (i + 1) 0 := ⟨_, rfl⟩
      have HB := Aside0.mk hb
      rw [← ha, ← hb] at hmul
      rw [← ha]
      clear ha hb
      go_wp2
      go_roundg (gk - 1)
      case measure => have := HJ.out; omega
      case rel => exact ⟨i + 1, by rw [HB.out], by go_num, ⟨by have := HJ.out; omega⟩, rfl⟩
    · have hiI : ¬ (i : Int) < (n : Int) := by omega
      have e : i = n := by omega
      subst e
      go_wp2
      go_ret
      exact ⟨rfl, rfl⟩
set_option maxRecDepth 100000 in
/-- exactPart of a number with a fraction. -/
theorem exact10 (x : Nat) (s : Bool) (m k fr : Nat) (h : frc x s m k) (hfr : Ieee.single.sub x (I32 s (dnq s m k)) = some fr) (hfn : (Ieee.single.read fr).isNaN = false) (w : World) :
    Calls Tryd.prog 10 #[.float .f32 x] w fun e w' => e = .returned (.bool (Ieee.double.order (up fr) (Ieee.double.nearest false (rest s m k) (-(k : Int))) == some .eq)) ∧ w' = w := by
  have hdl : dnq s m k < 2 ^ 24 := Nat.lt_of_le_of_lt (dnq_le h.2.1 h.2.2.1) (by decide)
  have HF := Aside0.mk (floor15 (up x) h.nn.2.1 w)
  rw [h.fl .down, cut_down h.2.2.2.2] at HF
  have u1 := run_up h.nn.1
  have u2 := run_up hfn
  obtain ⟨lo, hlo⟩ : ∃ l, l = I64 s (dnq s m k) := ⟨_, rfl⟩
  have u3 : ∀ w, (convert 29 26 (.float .f64 lo)).run Tryd.prog w = .ok (.float .f32 (I32 s (dnq s m k))) w := run_dn hlo hdl
  have a1 := fsub32 hfr 26
  have a2 := fsub64 (frac64 (s := s) h.2.1 h.2.2.1 h.2.2.2.1 h.2.2.2.2) 29
  rw [← h.up, ← hlo] at a2
  rw [← hlo] at HF
  obtain ⟨l32, hl32⟩ : ∃ l, l = I32 s (dnq s m k) := ⟨_, rfl⟩
  rw [← hl32] at u3 a1
  obtain ⟨y, hy⟩ : ∃ y, y = up x := ⟨_, rfl⟩
  obtain ⟨z, hz⟩ : ∃ z, z = up fr := ⟨_, rfl⟩
  obtain ⟨dd, hdd⟩ : ∃ d, d = Ieee.double.nearest false (rest s m k) (-(k : Int)) := ⟨_, rfl⟩
  rw [← hy] at HF u1 a2
  rw [← hz] at u2 ⊢
  rw [← hdd] at a2 ⊢
  obtain ⟨b, hb⟩ : ∃ b, b = (Ieee.double.order z dd == some Ordering.eq) := ⟨_, rfl⟩
  have t : (FloatKind.f64.format.order z dd == some Ordering.eq) = b := hb.symm
  rw [← hb]
  clear h hfr hfn hdl hlo hl32 hy hz hdd hb
  go_enter Tryd.func10, Tryd.ntmps10
  go_wp2_with (go_at_call 15; refine Calls.mono HF.out ?_; rintro r w1 ⟨rfl, hw⟩; rw [hw]; clear hw)
  go_ret
  exact ⟨rfl, rfl⟩
set_option maxRecDepth 100000 in
/-- exactPart of what is whole. -/
theorem exact10w (x : Nat) (hx : x < 4294967296) (hn : (Ieee.single.read x).isNaN = false) (hfl : fl .down (up x) = up x) (h32 : Ieee.single.sub x x = some 0) (h64 : Ieee.double.sub (up x) (up x) = some 0) (w : World) :
    Calls Tryd.prog 10 #[.float .f32 x] w fun e w' => e = .returned (.bool true) ∧ w' = w := by
  have HF := Aside0.mk (floor15 (up x) (up_class x hn).1 w)
  rw [hfl] at HF
  have u1 := run_up hn
  have u3 := run_dn_up hx hn
  have u2 : ∀ w, (convert 26 29 (.float .f32 0)).run Tryd.prog w = .ok (.float .f64 0) w := fun w => by
    have := run_up (x := 0) (by decide) w
    rw [zero32] at this
    exact this
  have a1 := fsub32 h32 26
  have a2 := fsub64 h64 29
  have t : (FloatKind.f64.format.order 0 0 == some Ordering.eq) = true := by decide
  obtain ⟨y, hy⟩ : ∃ y, y = up x := ⟨_, rfl⟩
  rw [← hy] at HF u1 u3 a2
  clear hn hfl h32 h64 hy
  go_enter Tryd.func10, Tryd.ntmps10
  go_wp2_with (go_at_call 15; refine Calls.mono HF.out ?_; rintro r w1 ⟨rfl, hw⟩; rw [hw]; clear hw)
  go_ret
  exact ⟨rfl, rfl⟩
set_option maxRecDepth 100000 in
/-- spec.RoundFloat of what is whole. -/
theorem spec11w (y mode : Nat) (hn : (Ieee.double.read y).isNaN = false) (hfl : fl .down y = y) (w : World) :
    Calls Tryd.prog 11 #[.float .f64 y, .int .i64 mode] w fun e w' => e = .returned (.float .f64 y) ∧ w' = w := by
  have HF := Aside0.mk (floor15 y hn w)
  rw [hfl] at HF
  have t : (FloatKind.f64.format.order y y == some Ordering.eq) = true := by
    have h := nan_test y
    rw [hn] at h
    have h2 : (!(Ieee.double.order y y == some Ordering.eq)) = false := h
    show (Ieee.double.order y y == some Ordering.eq) = true
    cases hb : (Ieee.double.order y y == some Ordering.eq) with
    | true => rfl
    | false => rw [hb] at h2; cases h2
  clear hn hfl
  go_enter Tryd.func11, Tryd.ntmps11
  go_wp2_with (go_at_call 15; refine Calls.mono HF.out ?_; rintro r w1 ⟨rfl, hw⟩; rw [hw]; clear hw)
  go_ret
  exact ⟨rfl, rfl⟩

end Go.Proofs.YtinfcoalicbcbaaDoor.Rd
