/- math.Mod by two. -/
import Derived.Test.YtinfcoalicbcbaaDoorRx
namespace Go.Proofs.YtinfcoalicbcbaaDoor.Rd
set_option linter.unusedVariables false
set_option linter.unusedSimpArgs false
open Go.RowKit Go.IntWalk Go.Proofs.YtinfcoalicbcbaaDoorW.PrintWords Go.Proofs.YtinfcoalicbcbaaDoorW.PrintLast Go.Proofs.YtinfcoalicbcbaaDoorW.PrintMore
attribute [local go_sem] max2_int min2_int max_two min_two max_three min_three max_four min_four
theorem step_ok {j L n gk : Nat} (h3 : j ≤ gk ∧ j ≤ n ∧ j % 2 = n % 2) (hlo : 2 ^ L ≤ j) (hl1 : 1 ≤ L) : j - 2 ^ L ≤ gk - 1 ∧ j - 2 ^ L ≤ n ∧ (j - 2 ^ L) % 2 = n % 2 := by
  obtain ⟨i, hi⟩ : ∃ i, L = i + 1 := ⟨L - 1, by omega⟩
  have h4 : 2 ^ L = 2 * 2 ^ i := by rw [hi]; exact Nat.pow_succ'
  have := Nat.two_pow_pos i
  rw [h4] at hlo ⊢
  clear h4
  generalize 2 ^ i = q at *
  omega
theorem pow_word {P d L : Nat} (hP : P = (d + 1024) * 4503599627370496) (hd : d = L - 1) (hl1 : 1 ≤ L) (hl23 : L ≤ 23) : P = I64 false (2 ^ L) := by
  rw [hP, I_pow (show L ≤ 52 by omega), show d + 1024 = L + 1023 by omega]
theorem w64d {d : Nat} (h : d ≤ 30) : wrap64 (d : Int) = (d : Int) := by unfold wrap64; omega
theorem un_neg (a : Nat) : Op.unary .neg (.float .f64 a) = pure (.float .f64 (Op.negFloat .f64 a)) := rfl
attribute [local go_sem] un_neg
set_option maxHeartbeats 1000000 in
set_option maxRecDepth 100000 in
theorem mod26 (s : Bool) (n : Nat) (hn : n < 2 ^ 24) (hy : I64 s n < 18446744073709551616) (hnn : (Ieee.double.read (I64 s n)).isNaN = false) (hni : (Ieee.double.read (I64 s n)).isInfinity = false) (w : World) : Calls Tryd.prog 26 #[.float .f64 (I64 s n), .float .f64 4611686018427387904] w fun r w' => ∃ y, r = .returned (.float .f64 y) ∧ w' = w ∧ (Ieee.double.order y 0 == some .eq) = decide (n % 2 = 0) := by
  have hn53 : n < 2 ^ 53 := by omega
  have q1 : (FloatKind.f64.format.order 4611686018427387904 0 == some Ordering.eq) = false := two_nrm.facts.1
  have q2 : (FloatKind.f64.format.order 4611686018427387904 4611686018427387904 != some Ordering.eq) = false := two_nrm.facts.2.2.1
  have q3 : (FloatKind.f64.format.order (I64 s n % 9223372036854775808) 9218868437227405311 == some Ordering.gt) = false := (inf_test _).trans hni
  have q4 : (FloatKind.f64.format.order (I64 s n) (I64 s n) != some Ordering.eq) = false := (nan_test _).trans hnn
  have q5 : (FloatKind.f64.format.order (I64 s n) 0 == some Ordering.lt) = (s && decide (n ≠ 0)) := lt_zero s hn53
  obtain ⟨x, hx⟩ : ∃ x, x = I64 s n := ⟨_, rfl⟩
  have HNEG := Aside0.mk (show Op.negFloat .f64 x = I64 (!s) n by rw [hx]; exact neg_I s n hn53)
  have HX := Aside0.mk hx
  rw [← hx] at hy q3 q4 q5 ⊢
  have HI := Aside0.mk (isInf7 x hy w)
  have HN := Aside0.mk (isNaN8 x w)
  have HN2 := Aside0.mk (isNaN8 4611686018427387904 w)
  have HA := Aside0.mk (abs14 4611686018427387904 (by decide) w)
  have HF := Aside0.mk (frexp46 4611686018427387904 1024 0 two_nrm w)
  have HL := Aside0.mk (fun (d : Nat) (hd : d ≤ 30) => ldexp47 d hd (mul_one64 hd) w)
  clear hx hnn hni
  obtain ⟨b, hb⟩ : ∃ b, b = (s && decide (n ≠ 0)) := ⟨_, rfl⟩
  rw [← hb] at q5
  have HB := Aside0.mk hb
  clear hb
  go_enter Tryd.func26, Tryd.ntmps26
  go_upto_region 5 with (first | (go_at_call 7; refine Calls.mono HI.out ?_; rintro r w1 ⟨rfl, rfl⟩) | (go_at_call_of 8 x; refine Calls.mono HN.out ?_; rintro r w1 ⟨rfl, rfl⟩) | (go_at_call 8; refine Calls.mono HN2.out ?_; rintro r w1 ⟨rfl, rfl⟩) | (go_at_call 14; refine Calls.mono HA.out ?_; rintro r w1 ⟨rfl, rfl⟩) | (go_at_call 46; refine Calls.mono HF.out ?_; rintro r w1 ⟨rfl, rfl⟩))
  obtain ⟨t, ht⟩ : ∃ t, t = (s && decide (n = 0)) := ⟨_, rfl⟩
  have htn : t = true → n = 0 := fun h => by
    rw [ht] at h
    simp at h
    exact h.2
  cases hbv : b with
  | true =>
    rw [hbv] at q5 HB
    have hs : s = true ∧ n ≠ 0 := by
      have := HB.out
      simp at this
      exact this
    have ht' : t = false := by rw [ht, hs.1]; simp [hs.2]
    have hneg : Op.negFloat .f64 x = I64 t n := by rw [HNEG.out, hs.1, ht']; rfl
    clear hbv ht hs ht'
    go_wp2
    go_loopg [7] n (fun kq v7 w' => ∃ j : Nat, v7 = .float .f64 (I64 t j) ∧ Aside0 (j ≤ kq ∧ j ≤ n ∧ j % 2 = n % 2) ∧ w' = w1)
    case atStart => exact ⟨n, rfl, ⟨by omega⟩, rfl⟩
    case round =>
      obtain ⟨j, rfl, HJ, rfl⟩ := hrel
      have hj53 : j < 2 ^ 53 := by have := HJ.out; omega
      by_cases h2 : 2 ≤ j
      · have htf : t = false := by
          cases htv : t with
          | false => rfl
          | true => have := htn htv; have := HJ.out; omega
        subst htf
        obtain ⟨L, hL⟩ : ∃ L, L = j.log2 := ⟨_, rfl⟩
        have hlo : 2 ^ L ≤ j := by rw [hL]; exact Nat.log2_self_le (by omega)
        have hl23 : L ≤ 23 := by rw [hL]; exact log_le' (n := 23) (by omega) (by have := HJ.out; omega)
        have hl1 : 1 ≤ L := by
          rcases Nat.eq_zero_or_pos L with h0 | h0
          · have := lt_log j
            rw [← hL, h0] at this
            omega
          · exact h0
        have hnrm := I64_nrm (n := j) (by omega) hj53
        rw [← hL] at hnrm
        obtain ⟨F, hF⟩ : ∃ F, F = j * 2 ^ (52 - L) - 2 ^ 52 := ⟨_, rfl⟩
        rw [← hF] at hnrm
        have hgt := ge_two hj53
        rw [decide_eq_true h2] at hgt
        have g1 : (FloatKind.f64.format.order (I64 false j) 4611686018427387904 == some Ordering.gt || FloatKind.f64.format.order (I64 false j) 4611686018427387904 == some Ordering.eq) = true := hgt
        have g2 : (FloatKind.f64.format.order (4602678819172646912 + F) 4602678819172646912 == some Ordering.lt) = false := not_lt_half hnrm.f
        obtain ⟨E1, hE1⟩ : ∃ E1, E1 = L + 1 := ⟨_, rfl⟩
        obtain ⟨d, hd⟩ : ∃ d, d = L - 1 := ⟨_, rfl⟩
        have HF2 := Aside0.mk (show Calls Tryd.prog 46 #[.float .f64 (I64 false j)] wr (fun r w' => r = .returned (.tuple #[.float .f64 (4602678819172646912 + F), .int .i64 (E1 : Int)]) ∧ w' = wr) from by
          have h := frexp46 (I64 false j) (L + 1023) F hnrm wr
          rw [show ((L + 1023 : Nat) : Int) - 1022 = (E1 : Int) by omega] at h
          exact h)
        obtain ⟨G, hG⟩ : ∃ G, G = 4602678819172646912 + F := ⟨_, rfl⟩
        rw [← hG] at HF2 g2
        have e1 : (E1 : Int) - 2 = (d : Int) := by omega
        have e2 : IntKind.i64.wrap ((E1 : Int) - 2) = (d : Int) := by rw [IntKind.wrap_i64]; omega
        have hd30 : d ≤ 30 := by clear HL HF2 g1 g2 hnrm hgt; omega
        have e3 : wrap64 (d : Int) = (d : Int) := w64d hd30
        have HL2 := Aside0.mk (HL.out d hd30)
        obtain ⟨P, hP⟩ : ∃ P, P = (d + 1024) * 4503599627370496 := ⟨_, rfl⟩
        rw [← hP] at HL2
        have hPI : P = I64 false (2 ^ L) := pow_word hP hd hl1 hl23
        have hsub : binOp .sub 29 (.float .f64 (I64 false j)) (.float .f64 P) = pure (.float .f64 (I64 false (j - 2 ^ L))) := by rw [hPI]; exact fsub64 (sub_pow hj53 hlo) 29
        have HJ2 := Aside0.mk (step_ok HJ.out hlo hl1)
        have HK := Aside0.mk (show gk - 1 < gk by have := HJ.out; omega)
        clear hL hlo hl23 hl1 hnrm hF hgt hE1 hd hG hP hPI
        go_wp2_with (first | (go_at_call 46; refine Calls.mono HF2.out ?_; rintro r w2 ⟨rfl, rfl⟩) | (go_at_call 47; refine Calls.mono HL2.out ?_; rintro r w2 ⟨rfl, rfl⟩))
        go_roundg (gk - 1)
        case measure => exact HK.out
        case rel => exact ⟨_, rfl, HJ2, rfl⟩
      · have hgt : (FloatKind.f64.format.order (I64 t j) 4611686018427387904 == some Ordering.gt || FloatKind.f64.format.order (I64 t j) 4611686018427387904 == some Ordering.eq) = false := by
          show (Ieee.double.order (I64 t j) 4611686018427387904 == some Ordering.gt || Ieee.double.order (I64 t j) 4611686018427387904 == some Ordering.eq) = false
          cases htv : t with
          | false => exact (ge_two hj53).trans (decide_eq_false h2)
          | true =>
            have : j = 0 := by have := htn htv; have := HJ.out; omega
            rw [this]
            decide
        have hneg2 : Op.negFloat .f64 (I64 t j) = I64 (!t) j := neg_I t j hj53
        have HE := Aside0.mk (show ∀ u, (Ieee.double.order (I64 u j) 0 == some .eq) = decide (n % 2 = 0) from fun u => by
          rw [eq_zero u hj53]
          have := HJ.out
          exact decide_eq_decide.2 (by omega))
        go_wp2
        go_ret
        exact ⟨_, rfl, rfl, HE.out _⟩
  | false =>
    rw [hbv] at q5 HB
    have hxt : x = I64 t n := by
      rw [HX.out, ht]
      have := HB.out
      cases hs : s with
      | false => rfl
      | true =>
        rw [hs] at this
        have h0 : n = 0 := by simpa using this.symm
        rw [h0]
        rfl
    have HXT := Aside0.mk hxt
    clear hbv ht hxt
    go_wp2
    go_loopg [7] n (fun kq v7 w' => ∃ j : Nat, v7 = .float .f64 (I64 t j) ∧ Aside0 (j ≤ kq ∧ j ≤ n ∧ j % 2 = n % 2) ∧ w' = w1)
    case atStart => exact ⟨n, by rw [← HXT.out], ⟨by omega⟩, rfl⟩
    case round =>
      obtain ⟨j, rfl, HJ, rfl⟩ := hrel
      have hj53 : j < 2 ^ 53 := by have := HJ.out; omega
      by_cases h2 : 2 ≤ j
      · have htf : t = false := by
          cases htv : t with
          | false => rfl
          | true => have := htn htv; have := HJ.out; omega
        subst htf
        obtain ⟨L, hL⟩ : ∃ L, L = j.log2 := ⟨_, rfl⟩
        have hlo : 2 ^ L ≤ j := by rw [hL]; exact Nat.log2_self_le (by omega)
        have hl23 : L ≤ 23 := by rw [hL]; exact log_le' (n := 23) (by omega) (by have := HJ.out; omega)
        have hl1 : 1 ≤ L := by
          rcases Nat.eq_zero_or_pos L with h0 | h0
          · have := lt_log j
            rw [← hL, h0] at this
            omega
          · exact h0
        have hnrm := I64_nrm (n := j) (by omega) hj53
        rw [← hL] at hnrm
        obtain ⟨F, hF⟩ : ∃ F, F = j * 2 ^ (52 - L) - 2 ^ 52 := ⟨_, rfl⟩
        rw [← hF] at hnrm
        have hgt := ge_two hj53
        rw [decide_eq_true h2] at hgt
        have g1 : (FloatKind.f64.format.order (I64 false j) 4611686018427387904 == some Ordering.gt || FloatKind.f64.format.order (I64 false j) 4611686018427387904 == some Ordering.eq) = true := hgt
        have g2 : (FloatKind.f64.format.order (4602678819172646912 + F) 4602678819172646912 == some Ordering.lt) = false := not_lt_half hnrm.f
        obtain ⟨E1, hE1⟩ : ∃ E1, E1 = L + 1 := ⟨_, rfl⟩
        obtain ⟨d, hd⟩ : ∃ d, d = L - 1 := ⟨_, rfl⟩
        have HF2 := Aside0.mk (show Calls Tryd.prog 46 #[.float .f64 (I64 false j)] wr (fun r w' => r = .returned (.tuple #[.float .f64 (4602678819172646912 + F), .int .i64 (E1 : Int)]) ∧ w' = wr) from by
          have h := frexp46 (I64 false j) (L + 1023) F hnrm wr
          rw [show ((L + 1023 : Nat) : Int) - 1022 = (E1 : Int) by omega] at h
          exact h)
        obtain ⟨G, hG⟩ : ∃ G, G = 4602678819172646912 + F := ⟨_, rfl⟩
        rw [← hG] at HF2 g2
        have e1 : (E1 : Int) - 2 = (d : Int) := by omega
        have e2 : IntKind.i64.wrap ((E1 : Int) - 2) = (d : Int) := by rw [IntKind.wrap_i64]; omega
        have hd30 : d ≤ 30 := by clear HL HF2 g1 g2 hnrm hgt; omega
        have e3 : wrap64 (d : Int) = (d : Int) := w64d hd30
        have HL2 := Aside0.mk (HL.out d hd30)
        obtain ⟨P, hP⟩ : ∃ P, P = (d + 1024) * 4503599627370496 := ⟨_, rfl⟩
        rw [← hP] at HL2
        have hPI : P = I64 false (2 ^ L) := pow_word hP hd hl1 hl23
        have hsub : binOp .sub 29 (.float .f64 (I64 false j)) (.float .f64 P) = pure (.float .f64 (I64 false (j - 2 ^ L))) := by rw [hPI]; exact fsub64 (sub_pow hj53 hlo) 29
        have HJ2 := Aside0.mk (step_ok HJ.out hlo hl1)
        have HK := Aside0.mk (show gk - 1 < gk by have := HJ.out; omega)
        clear hL hlo hl23 hl1 hnrm hF hgt hE1 hd hG hP hPI
        go_wp2_with (first | (go_at_call 46; refine Calls.mono HF2.out ?_; rintro r w2 ⟨rfl, rfl⟩) | (go_at_call 47; refine Calls.mono HL2.out ?_; rintro r w2 ⟨rfl, rfl⟩))
        go_roundg (gk - 1)
        case measure => exact HK.out
        case rel => exact ⟨_, rfl, HJ2, rfl⟩
      · have hgt : (FloatKind.f64.format.order (I64 t j) 4611686018427387904 == some Ordering.gt || FloatKind.f64.format.order (I64 t j) 4611686018427387904 == some Ordering.eq) = false := by
          show (Ieee.double.order (I64 t j) 4611686018427387904 == some Ordering.gt || Ieee.double.order (I64 t j) 4611686018427387904 == some Ordering.eq) = false
          cases htv : t with
          | false => exact (ge_two hj53).trans (decide_eq_false h2)
          | true =>
            have : j = 0 := by have := htn htv; have := HJ.out; omega
            rw [this]
            decide
        have hneg2 : Op.negFloat .f64 (I64 t j) = I64 (!t) j := neg_I t j hj53
        have HE := Aside0.mk (show ∀ u, (Ieee.double.order (I64 u j) 0 == some .eq) = decide (n % 2 = 0) from fun u => by
          rw [eq_zero u hj53]
          have := HJ.out
          exact decide_eq_decide.2 (by omega))
        go_wp2
        go_ret
        exact ⟨_, rfl, rfl, HE.out _⟩

end Go.Proofs.YtinfcoalicbcbaaDoor.Rd
