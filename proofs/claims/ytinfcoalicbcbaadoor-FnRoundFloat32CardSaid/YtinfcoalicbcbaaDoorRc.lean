/- One number is rounded. -/
import Derived.Test.YtinfcoalicbcbaaDoorRz
namespace Go.Proofs.YtinfcoalicbcbaaDoor.Rd
set_option linter.unusedVariables false
set_option linter.unusedSimpArgs false
open Go.RowKit Go.IntWalk Go.Proofs.YtinfcoalicbcbaaDoorW.PrintWords Go.Proofs.YtinfcoalicbcbaaDoorW.PrintLast Go.Proofs.YtinfcoalicbcbaaDoorW.PrintMore
attribute [local go_sem] max2_int min2_int max_two min_two max_three min_three max_four min_four
attribute [local go_sem] run5 run6 run21 run22
theorem run_store_float {P : Program} {w : World} {a : Addr} {m : Mode} (k : FloatKind) (n : Nat) : (store a (.float k n) m).run P w = stored P w a (.float k n) m := run_store P w a _ m rfl
attribute [local go_sem] run_store_float
theorem cell_of_row' {w : World} {g : Nat} {t : TypeId} {cs : Array Value} (h : w.heap[g]? = some (.cells cs t (0, 0))) (i : Nat) : w.cell? ⟨g, i, none⟩ = cs[i]? := by simp [World.cell?, h]
theorem blk_frozen' {w : World} {g : Nat} {t : TypeId} {cs : Array Value} (h : w.heap[g]? = some (.cells cs t (0, 0))) (i : Nat) : w.frozen? ⟨g, i, none⟩ = false := by simp [World.frozen?, h]
theorem blk_at {W : World} {o : Obj} {g : Nat} (h : g = W.heap.size) : (W.alloc o).heap[g]? = some o := by rw [h]; exact blk_new W o
set_option maxRecDepth 100000 in
theorem new43 (t : ByteArray) (w : World) : Calls Tryd.prog 43 #[.string t] w fun e w' => e = .returned (.iface 67 (.pointer (some ⟨w.heap.size, 0, none⟩))) ∧ w' = w.alloc (.cells #[.string t] 69 (0, 0)) := by
  go_enter Tryd.func43, Tryd.ntmps43
  go_wp2
  go_ret
  exact ⟨rfl, rfl⟩
theorem new43' (E : Nat) (t : ByteArray) (w : World) (h : w.heap[E]? = some (.cells #[.nilIface] 39 (0, 0))) : Calls Tryd.prog 43 #[.string t] w fun e w' => ∃ b, e = .returned (.iface 67 (.pointer (some ⟨b, 0, none⟩))) ∧ w'.heap[E]? = some (.cells #[.nilIface] 39 (0, 0)) ∧ Below E w w' := by
  refine Calls.mono (new43 t w) ?_
  rintro e w' ⟨rfl, rfl⟩
  exact ⟨_, rfl, blk_alloc h _, (Below.refl E w).alloc (Nat.le_of_lt (blk_lt h)) _⟩
/-- What 'call' leaves: a number, and an error or none. -/
def CallP (E : Nat) (w : World) (Q : Nat → Bool → Prop) (e : Ending) (w' : World) : Prop := ∃ out errv, e = .returned (.float .f32 out) ∧ w'.heap[E]? = some (.cells #[errv] 39 (0, 0)) ∧ Below E w w' ∧ ((errv = .nilIface ∧ Q out true) ∨ ((∃ b, errv = .iface 67 (.pointer (some ⟨b, 0, none⟩))) ∧ Q out false))
set_option maxHeartbeats 4000000 in
set_option maxRecDepth 100000 in
theorem call_pos (R E fo mode : Nat) (d : Int) (p v s : Nat) (sg_ : Bool) (m k : Nat) (b0 b5 : Bool) (fr q1 q2 : Nat) (w : World) (hd : 0 < d) (hC : CloC fo mode) (hE : ∀ (args : Array Value) (w : World), Sem.run Tryd.prog (callFunc fo args) w = .ok (.enter fo args) w)
    (hR : w.heap[R]? = some (.cells #[.float .f32 p, .int .i64 d, .int .i8 mode, .func (.func fo) #[] #[]] 50 (0, 0))) (hEE : w.heap[E]? = some (.cells #[.nilIface] 39 (0, 0)))
    (hv : (Ieee.single.read v).isNaN = false) (hvi : (Ieee.single.read v).isInfinity = false) (hs : Ieee.single.mul v p = some s) (hf : frc s sg_ m k) (hfr : Ieee.single.sub s (I32 sg_ (dnq sg_ m k)) = some fr)
    (h0 : (Ieee.single.order fr 0 == some Ordering.eq) = b0) (h5 : (Ieee.single.order fr 1056964608 != some Ordering.eq) = b5)
    (hq1 : Ieee.single.div (I32 sg_ (near m k)) p = some q1) (hq2 : Ieee.single.div (I32 sg_ (clo mode sg_ m k)) p = some q2) (n1 : (Ieee.single.read q1).isNaN = false) (n2 : (Ieee.single.read q2).isNaN = false) :
    Calls Tryd.prog 20 #[.pointer (some ⟨R, 0, none⟩), .float .f32 v, .pointer (some ⟨E, 0, none⟩)] w (CallP E w fun out ok => if b0 = true then out = v ∧ ok = true else if 4 ≤ mode ∧ b5 = true then (if (Ieee.single.read q1).isInfinity = true then ok = false else ok = true ∧ out = q1) else (if (Ieee.single.read q2).isInfinity = true then ok = false else ok = true ∧ out = q2)) := by
  have c0 : w.cell? ⟨R, 0, none⟩ = some (.float .f32 p) := (cell_of_row' hR 0).trans rfl
  have c1 : w.cell? ⟨R, 1, none⟩ = some (.int .i64 d) := (cell_of_row' hR 1).trans rfl
  have c2 : w.cell? ⟨R, 2, none⟩ = some (.int .i8 mode) := (cell_of_row' hR 2).trans rfl
  have c3 : w.cell? ⟨R, 3, none⟩ = some (.func (.func fo) #[] #[]) := (cell_of_row' hR 3).trans rfl
  have HEE := Aside0.mk hEE
  have hElt := blk_lt hEE
  obtain ⟨xv, hxv⟩ : ∃ xv, xv = up v := ⟨_, rfl⟩
  have u1 := run_up hv
  rw [← hxv] at u1
  have i1 : (FloatKind.f64.format.order (xv % 9223372036854775808) 9218868437227405311 == some Ordering.gt) = false := by rw [hxv]; exact (inf_test _).trans ((up_class v hv).2.trans hvi)
  have i2 : (FloatKind.f64.format.order xv xv != some Ordering.eq) = false := by rw [hxv]; exact (nan_test _).trans (up_class v hv).1
  have HI := Aside0.mk (fun W => isInf7 xv (by rw [hxv]; exact up_lt hv) W)
  have HN := Aside0.mk (fun W => isNaN8 xv W)
  clear hxv hv hvi
  obtain ⟨xs, hxs⟩ : ∃ xs, xs = up s := ⟨_, rfl⟩
  have u2 := run_up hf.nn.1
  rw [← hxs] at u2
  obtain ⟨lo, hlo⟩ : ∃ lo, lo = fl .down xs := ⟨_, rfl⟩
  have HF := Aside0.mk (fun W => floor15 xs (by rw [hxs]; exact hf.nn.2.1) W)
  rw [← hlo] at HF
  have u3 : ∀ w, (convert 29 26 (.float .f64 lo)).run Tryd.prog w = .ok (.float .f32 (I32 sg_ (dnq sg_ m k))) w := run_dn (by rw [hlo, hxs, hf.fl .down, cut_down hf.2.2.2.2]) (Nat.lt_of_le_of_lt (dnq_le hf.2.1 hf.2.2.1) (by decide))
  obtain ⟨ro, hro⟩ : ∃ ro, ro = goRound xs := ⟨_, rfl⟩
  have hm0 : 0 < m := Nat.pos_of_ne_zero fun e => hf.2.2.2.2 (by rw [e]; exact Nat.zero_mod _)
  have hro2 : ro = I64 sg_ (near m k) := by rw [hro, hxs, hf.up]; exact round_is sg_ hm0 hf.2.1 hf.2.2.1 hf.2.2.2.1
  have HRO := Aside0.mk (fun W => round42 xs (by rw [hxs]; exact hf.lt.1) W)
  rw [← hro] at HRO
  have hnear : near m k < 2 ^ 24 := near_lt hf.2.1 hf.2.2.1
  have u4 : ∀ w, (convert 29 26 (.float .f64 ro)).run Tryd.prog w = .ok (.float .f32 (I32 sg_ (near m k))) w := run_dn hro2 hnear
  obtain ⟨l32, hl32⟩ : ∃ l, l = I32 sg_ (dnq sg_ m k) := ⟨_, rfl⟩
  rw [← hl32] at u3 hfr
  obtain ⟨r1, hr1⟩ : ∃ l, l = I32 sg_ (near m k) := ⟨_, rfl⟩
  rw [← hr1] at u4 hq1
  have HCL := Aside0.mk (fun W => hC s sg_ m k hf W)
  obtain ⟨r2, hr2⟩ : ∃ l, l = I32 sg_ (clo mode sg_ m k) := ⟨_, rfl⟩
  rw [← hr2] at HCL hq2
  obtain ⟨x1, hx1⟩ : ∃ x, x = up q1 := ⟨_, rfl⟩
  obtain ⟨x2, hx2⟩ : ∃ x, x = up q2 := ⟨_, rfl⟩
  have u5 := run_up n1
  have u6 := run_up n2
  rw [← hx1] at u5
  rw [← hx2] at u6
  have i3 : (FloatKind.f64.format.order (x1 % 9223372036854775808) 9218868437227405311 == some Ordering.gt) = (Ieee.single.read q1).isInfinity := by rw [hx1]; exact (inf_test _).trans (up_class q1 n1).2
  have i4 : (FloatKind.f64.format.order x1 x1 != some Ordering.eq) = false := by rw [hx1]; exact (nan_test _).trans (up_class q1 n1).1
  have i5 : (FloatKind.f64.format.order (x2 % 9223372036854775808) 9218868437227405311 == some Ordering.gt) = (Ieee.single.read q2).isInfinity := by rw [hx2]; exact (inf_test _).trans (up_class q2 n2).2
  have i6 : (FloatKind.f64.format.order x2 x2 != some Ordering.eq) = false := by rw [hx2]; exact (nan_test _).trans (up_class q2 n2).1
  have HI1 := Aside0.mk (fun W => isInf7 x1 (by rw [hx1]; exact up_lt n1) W)
  have HN1 := Aside0.mk (fun W => isNaN8 x1 W)
  have HI2 := Aside0.mk (fun W => isInf7 x2 (by rw [hx2]; exact up_lt n2) W)
  have HN2 := Aside0.mk (fun W => isNaN8 x2 W)
  have a1 := fmul32 hs 26
  have a2 := fsub32 hfr 26
  have a3 := fdiv32 hq1 26
  have a4 := fdiv32 hq2 26
  obtain ⟨I1, hI1⟩ : ∃ I, I = (Ieee.single.read q1).isInfinity := ⟨_, rfl⟩
  obtain ⟨I2, hI2⟩ : ∃ I, I = (Ieee.single.read q2).isInfinity := ⟨_, rfl⟩
  rw [← hI1] at i3 ⊢
  rw [← hI2] at i5 ⊢
  have t0 : (FloatKind.f32.format.order fr 0 == some Ordering.eq) = b0 := h0
  have t5 : (FloatKind.f32.format.order fr 1056964608 != some Ordering.eq) = b5 := h5
  have g1 : (0 : Int) ≤ d := by omega
  have g2 : (0 : Int) < d := hd
  clear hR hEE hC hs hf hfr h0 h5 hq1 hq2 n1 n2 hxs hlo hro hm0 hro2 hnear hl32 hr1 hr2 hx1 hx2 hI1 hI2
  cases b0 with
  | true =>
    go_enter Tryd.func20, Tryd.ntmps20
    go_wp2_with (first | (go_at_call_of 7 xv; refine Calls.mono (HI.out _) ?_; rintro r w1 ⟨rfl, rfl⟩) | (go_at_call_of 8 xv; refine Calls.mono (HN.out _) ?_; rintro r w1 ⟨rfl, rfl⟩) | (go_at_call_of 7 x1; refine Calls.mono (HI1.out _) ?_; rintro r w1 ⟨rfl, rfl⟩) | (go_at_call_of 8 x1; refine Calls.mono (HN1.out _) ?_; rintro r w1 ⟨rfl, rfl⟩) | (go_at_call_of 7 x2; refine Calls.mono (HI2.out _) ?_; rintro r w1 ⟨rfl, rfl⟩) | (go_at_call_of 8 x2; refine Calls.mono (HN2.out _) ?_; rintro r w1 ⟨rfl, rfl⟩) | (go_at_call_of 15 xs; refine Calls.mono (HF.out _) ?_; rintro r w1 ⟨rfl, rfl⟩) | (go_at_call_of 42 xs; refine Calls.mono (HRO.out _) ?_; rintro r w1 ⟨rfl, rfl⟩) | (go_at_call 43; refine Calls.mono (new43' E _ _ HEE.out) ?_; rintro r w1 ⟨nb, rfl, ze, zb⟩; have ce : w1.cell? ⟨E, 0, none⟩ = some .nilIface := (cell_of_row' ze 0).trans rfl; have fe := blk_frozen' ze 0; have ZE := Aside0.mk (blk_put (cs := #[.nilIface]) ze 0 (.iface 67 (.pointer (some ⟨nb, 0, none⟩))) rfl); have ZB := Aside0.mk (Below.setCell (p := ⟨E, 0, none⟩) zb (Nat.le_refl E) (.iface 67 (.pointer (some ⟨nb, 0, none⟩)))); clear ze zb) | (refine Calls.mono (HCL.out _) ?_; rintro r w1 ⟨rfl, rfl⟩))
    go_ret
    exact ⟨v, .nilIface, rfl, HEE.out, Below.refl _ _, .inl ⟨rfl, by first | exact ⟨rfl, rfl⟩ | rfl | (simp; done)⟩⟩
  | false =>
    by_cases hm4 : 4 ≤ mode
    · have hmI : (4 : Int) ≤ (mode : Int) := by omega
      cases b5 with
      | true =>
        cases I1 with
        | true =>
          go_enter Tryd.func20, Tryd.ntmps20
          go_wp2_with (first | (go_at_call_of 7 xv; refine Calls.mono (HI.out _) ?_; rintro r w1 ⟨rfl, rfl⟩) | (go_at_call_of 8 xv; refine Calls.mono (HN.out _) ?_; rintro r w1 ⟨rfl, rfl⟩) | (go_at_call_of 7 x1; refine Calls.mono (HI1.out _) ?_; rintro r w1 ⟨rfl, rfl⟩) | (go_at_call_of 8 x1; refine Calls.mono (HN1.out _) ?_; rintro r w1 ⟨rfl, rfl⟩) | (go_at_call_of 7 x2; refine Calls.mono (HI2.out _) ?_; rintro r w1 ⟨rfl, rfl⟩) | (go_at_call_of 8 x2; refine Calls.mono (HN2.out _) ?_; rintro r w1 ⟨rfl, rfl⟩) | (go_at_call_of 15 xs; refine Calls.mono (HF.out _) ?_; rintro r w1 ⟨rfl, rfl⟩) | (go_at_call_of 42 xs; refine Calls.mono (HRO.out _) ?_; rintro r w1 ⟨rfl, rfl⟩) | (go_at_call 43; refine Calls.mono (new43' E _ _ HEE.out) ?_; rintro r w1 ⟨nb, rfl, ze, zb⟩; have ce : w1.cell? ⟨E, 0, none⟩ = some .nilIface := (cell_of_row' ze 0).trans rfl; have fe := blk_frozen' ze 0; have ZE := Aside0.mk (blk_put (cs := #[.nilIface]) ze 0 (.iface 67 (.pointer (some ⟨nb, 0, none⟩))) rfl); have ZB := Aside0.mk (Below.setCell (p := ⟨E, 0, none⟩) zb (Nat.le_refl E) (.iface 67 (.pointer (some ⟨nb, 0, none⟩)))); clear ze zb) | (refine Calls.mono (HCL.out _) ?_; rintro r w1 ⟨rfl, rfl⟩))
          go_ret
          exact ⟨v, _, rfl, ZE.out, ZB.out, .inr ⟨⟨_, rfl⟩, by first | exact ⟨rfl, rfl⟩ | rfl | (simp; done)⟩⟩
        | false =>
          go_enter Tryd.func20, Tryd.ntmps20
          go_wp2_with (first | (go_at_call_of 7 xv; refine Calls.mono (HI.out _) ?_; rintro r w1 ⟨rfl, rfl⟩) | (go_at_call_of 8 xv; refine Calls.mono (HN.out _) ?_; rintro r w1 ⟨rfl, rfl⟩) | (go_at_call_of 7 x1; refine Calls.mono (HI1.out _) ?_; rintro r w1 ⟨rfl, rfl⟩) | (go_at_call_of 8 x1; refine Calls.mono (HN1.out _) ?_; rintro r w1 ⟨rfl, rfl⟩) | (go_at_call_of 7 x2; refine Calls.mono (HI2.out _) ?_; rintro r w1 ⟨rfl, rfl⟩) | (go_at_call_of 8 x2; refine Calls.mono (HN2.out _) ?_; rintro r w1 ⟨rfl, rfl⟩) | (go_at_call_of 15 xs; refine Calls.mono (HF.out _) ?_; rintro r w1 ⟨rfl, rfl⟩) | (go_at_call_of 42 xs; refine Calls.mono (HRO.out _) ?_; rintro r w1 ⟨rfl, rfl⟩) | (go_at_call 43; refine Calls.mono (new43' E _ _ HEE.out) ?_; rintro r w1 ⟨nb, rfl, ze, zb⟩; have ce : w1.cell? ⟨E, 0, none⟩ = some .nilIface := (cell_of_row' ze 0).trans rfl; have fe := blk_frozen' ze 0; have ZE := Aside0.mk (blk_put (cs := #[.nilIface]) ze 0 (.iface 67 (.pointer (some ⟨nb, 0, none⟩))) rfl); have ZB := Aside0.mk (Below.setCell (p := ⟨E, 0, none⟩) zb (Nat.le_refl E) (.iface 67 (.pointer (some ⟨nb, 0, none⟩)))); clear ze zb) | (refine Calls.mono (HCL.out _) ?_; rintro r w1 ⟨rfl, rfl⟩))
          go_ret
          exact ⟨q1, .nilIface, rfl, HEE.out, Below.refl _ _, .inl ⟨rfl, by first | exact ⟨rfl, rfl⟩ | rfl | (simp; done)⟩⟩
      | false =>
        cases I2 with
        | true =>
          go_enter Tryd.func20, Tryd.ntmps20
          go_wp2_with (first | (go_at_call_of 7 xv; refine Calls.mono (HI.out _) ?_; rintro r w1 ⟨rfl, rfl⟩) | (go_at_call_of 8 xv; refine Calls.mono (HN.out _) ?_; rintro r w1 ⟨rfl, rfl⟩) | (go_at_call_of 7 x1; refine Calls.mono (HI1.out _) ?_; rintro r w1 ⟨rfl, rfl⟩) | (go_at_call_of 8 x1; refine Calls.mono (HN1.out _) ?_; rintro r w1 ⟨rfl, rfl⟩) | (go_at_call_of 7 x2; refine Calls.mono (HI2.out _) ?_; rintro r w1 ⟨rfl, rfl⟩) | (go_at_call_of 8 x2; refine Calls.mono (HN2.out _) ?_; rintro r w1 ⟨rfl, rfl⟩) | (go_at_call_of 15 xs; refine Calls.mono (HF.out _) ?_; rintro r w1 ⟨rfl, rfl⟩) | (go_at_call_of 42 xs; refine Calls.mono (HRO.out _) ?_; rintro r w1 ⟨rfl, rfl⟩) | (go_at_call 43; refine Calls.mono (new43' E _ _ HEE.out) ?_; rintro r w1 ⟨nb, rfl, ze, zb⟩; have ce : w1.cell? ⟨E, 0, none⟩ = some .nilIface := (cell_of_row' ze 0).trans rfl; have fe := blk_frozen' ze 0; have ZE := Aside0.mk (blk_put (cs := #[.nilIface]) ze 0 (.iface 67 (.pointer (some ⟨nb, 0, none⟩))) rfl); have ZB := Aside0.mk (Below.setCell (p := ⟨E, 0, none⟩) zb (Nat.le_refl E) (.iface 67 (.pointer (some ⟨nb, 0, none⟩)))); clear ze zb) | (refine Calls.mono (HCL.out _) ?_; rintro r w1 ⟨rfl, rfl⟩))
          go_ret
          exact ⟨v, _, rfl, ZE.out, ZB.out, .inr ⟨⟨_, rfl⟩, by first | exact ⟨rfl, rfl⟩ | rfl | (simp; done)⟩⟩
        | false =>
          go_enter Tryd.func20, Tryd.ntmps20
          go_wp2_with (first | (go_at_call_of 7 xv; refine Calls.mono (HI.out _) ?_; rintro r w1 ⟨rfl, rfl⟩) | (go_at_call_of 8 xv; refine Calls.mono (HN.out _) ?_; rintro r w1 ⟨rfl, rfl⟩) | (go_at_call_of 7 x1; refine Calls.mono (HI1.out _) ?_; rintro r w1 ⟨rfl, rfl⟩) | (go_at_call_of 8 x1; refine Calls.mono (HN1.out _) ?_; rintro r w1 ⟨rfl, rfl⟩) | (go_at_call_of 7 x2; refine Calls.mono (HI2.out _) ?_; rintro r w1 ⟨rfl, rfl⟩) | (go_at_call_of 8 x2; refine Calls.mono (HN2.out _) ?_; rintro r w1 ⟨rfl, rfl⟩) | (go_at_call_of 15 xs; refine Calls.mono (HF.out _) ?_; rintro r w1 ⟨rfl, rfl⟩) | (go_at_call_of 42 xs; refine Calls.mono (HRO.out _) ?_; rintro r w1 ⟨rfl, rfl⟩) | (go_at_call 43; refine Calls.mono (new43' E _ _ HEE.out) ?_; rintro r w1 ⟨nb, rfl, ze, zb⟩; have ce : w1.cell? ⟨E, 0, none⟩ = some .nilIface := (cell_of_row' ze 0).trans rfl; have fe := blk_frozen' ze 0; have ZE := Aside0.mk (blk_put (cs := #[.nilIface]) ze 0 (.iface 67 (.pointer (some ⟨nb, 0, none⟩))) rfl); have ZB := Aside0.mk (Below.setCell (p := ⟨E, 0, none⟩) zb (Nat.le_refl E) (.iface 67 (.pointer (some ⟨nb, 0, none⟩)))); clear ze zb) | (refine Calls.mono (HCL.out _) ?_; rintro r w1 ⟨rfl, rfl⟩))
          go_ret
          exact ⟨q2, .nilIface, rfl, HEE.out, Below.refl _ _, .inl ⟨rfl, by first | exact ⟨rfl, rfl⟩ | rfl | (simp; done)⟩⟩
    · have hmI : ¬ (4 : Int) ≤ (mode : Int) := by omega
      cases I2 with
      | true =>
        go_enter Tryd.func20, Tryd.ntmps20
        go_wp2_with (first | (go_at_call_of 7 xv; refine Calls.mono (HI.out _) ?_; rintro r w1 ⟨rfl, rfl⟩) | (go_at_call_of 8 xv; refine Calls.mono (HN.out _) ?_; rintro r w1 ⟨rfl, rfl⟩) | (go_at_call_of 7 x1; refine Calls.mono (HI1.out _) ?_; rintro r w1 ⟨rfl, rfl⟩) | (go_at_call_of 8 x1; refine Calls.mono (HN1.out _) ?_; rintro r w1 ⟨rfl, rfl⟩) | (go_at_call_of 7 x2; refine Calls.mono (HI2.out _) ?_; rintro r w1 ⟨rfl, rfl⟩) | (go_at_call_of 8 x2; refine Calls.mono (HN2.out _) ?_; rintro r w1 ⟨rfl, rfl⟩) | (go_at_call_of 15 xs; refine Calls.mono (HF.out _) ?_; rintro r w1 ⟨rfl, rfl⟩) | (go_at_call_of 42 xs; refine Calls.mono (HRO.out _) ?_; rintro r w1 ⟨rfl, rfl⟩) | (go_at_call 43; refine Calls.mono (new43' E _ _ HEE.out) ?_; rintro r w1 ⟨nb, rfl, ze, zb⟩; have ce : w1.cell? ⟨E, 0, none⟩ = some .nilIface := (cell_of_row' ze 0).trans rfl; have fe := blk_frozen' ze 0; have ZE := Aside0.mk (blk_put (cs := #[.nilIface]) ze 0 (.iface 67 (.pointer (some ⟨nb, 0, none⟩))) rfl); have ZB := Aside0.mk (Below.setCell (p := ⟨E, 0, none⟩) zb (Nat.le_refl E) (.iface 67 (.pointer (some ⟨nb, 0, none⟩)))); clear ze zb) | (refine Calls.mono (HCL.out _) ?_; rintro r w1 ⟨rfl, rfl⟩))
        go_ret
        exact ⟨v, _, rfl, ZE.out, ZB.out, .inr ⟨⟨_, rfl⟩, by first | exact ⟨rfl, rfl⟩ | rfl | (simp; done)⟩⟩
      | false =>
        go_enter Tryd.func20, Tryd.ntmps20
        go_wp2_with (first | (go_at_call_of 7 xv; refine Calls.mono (HI.out _) ?_; rintro r w1 ⟨rfl, rfl⟩) | (go_at_call_of 8 xv; refine Calls.mono (HN.out _) ?_; rintro r w1 ⟨rfl, rfl⟩) | (go_at_call_of 7 x1; refine Calls.mono (HI1.out _) ?_; rintro r w1 ⟨rfl, rfl⟩) | (go_at_call_of 8 x1; refine Calls.mono (HN1.out _) ?_; rintro r w1 ⟨rfl, rfl⟩) | (go_at_call_of 7 x2; refine Calls.mono (HI2.out _) ?_; rintro r w1 ⟨rfl, rfl⟩) | (go_at_call_of 8 x2; refine Calls.mono (HN2.out _) ?_; rintro r w1 ⟨rfl, rfl⟩) | (go_at_call_of 15 xs; refine Calls.mono (HF.out _) ?_; rintro r w1 ⟨rfl, rfl⟩) | (go_at_call_of 42 xs; refine Calls.mono (HRO.out _) ?_; rintro r w1 ⟨rfl, rfl⟩) | (go_at_call 43; refine Calls.mono (new43' E _ _ HEE.out) ?_; rintro r w1 ⟨nb, rfl, ze, zb⟩; have ce : w1.cell? ⟨E, 0, none⟩ = some .nilIface := (cell_of_row' ze 0).trans rfl; have fe := blk_frozen' ze 0; have ZE := Aside0.mk (blk_put (cs := #[.nilIface]) ze 0 (.iface 67 (.pointer (some ⟨nb, 0, none⟩))) rfl); have ZB := Aside0.mk (Below.setCell (p := ⟨E, 0, none⟩) zb (Nat.le_refl E) (.iface 67 (.pointer (some ⟨nb, 0, none⟩)))); clear ze zb) | (refine Calls.mono (HCL.out _) ?_; rintro r w1 ⟨rfl, rfl⟩))
        go_ret
        exact ⟨q2, .nilIface, rfl, HEE.out, Below.refl _ _, .inl ⟨rfl, by first | exact ⟨rfl, rfl⟩ | rfl | (simp; done)⟩⟩
set_option maxHeartbeats 4000000 in
set_option maxRecDepth 100000 in
theorem call_zero (R E fo mode : Nat) (d : Int) (p v s : Nat) (sg_ : Bool) (m k : Nat) (b0 b5 : Bool) (fr q1 q2 : Nat) (w : World) (hd : d = 0) (hC : CloC fo mode) (hE : ∀ (args : Array Value) (w : World), Sem.run Tryd.prog (callFunc fo args) w = .ok (.enter fo args) w)
    (hR : w.heap[R]? = some (.cells #[.float .f32 p, .int .i64 d, .int .i8 mode, .func (.func fo) #[] #[]] 50 (0, 0))) (hEE : w.heap[E]? = some (.cells #[.nilIface] 39 (0, 0)))
    (hv : (Ieee.single.read v).isNaN = false) (hvi : (Ieee.single.read v).isInfinity = false) (hs : Ieee.single.mul v p = some s) (hf : frc s sg_ m k) (hfr : Ieee.single.sub s (I32 sg_ (dnq sg_ m k)) = some fr)
    (h0 : (Ieee.single.order fr 0 == some Ordering.eq) = b0) (h5 : (Ieee.single.order fr 1056964608 != some Ordering.eq) = b5)
    (hq1 : Ieee.single.mul (I32 sg_ (near m k)) p = some q1) (hq2 : Ieee.single.mul (I32 sg_ (clo mode sg_ m k)) p = some q2) (n1 : (Ieee.single.read q1).isNaN = false) (n2 : (Ieee.single.read q2).isNaN = false) :
    Calls Tryd.prog 20 #[.pointer (some ⟨R, 0, none⟩), .float .f32 v, .pointer (some ⟨E, 0, none⟩)] w (CallP E w fun out ok => if b0 = true then out = v ∧ ok = true else if 4 ≤ mode ∧ b5 = true then (if (Ieee.single.read q1).isInfinity = true then ok = false else ok = true ∧ out = q1) else (if (Ieee.single.read q2).isInfinity = true then ok = false else ok = true ∧ out = q2)) := by
  have c0 : w.cell? ⟨R, 0, none⟩ = some (.float .f32 p) := (cell_of_row' hR 0).trans rfl
  have c1 : w.cell? ⟨R, 1, none⟩ = some (.int .i64 d) := (cell_of_row' hR 1).trans rfl
  have c2 : w.cell? ⟨R, 2, none⟩ = some (.int .i8 mode) := (cell_of_row' hR 2).trans rfl
  have c3 : w.cell? ⟨R, 3, none⟩ = some (.func (.func fo) #[] #[]) := (cell_of_row' hR 3).trans rfl
  have HEE := Aside0.mk hEE
  have hElt := blk_lt hEE
  obtain ⟨xv, hxv⟩ : ∃ xv, xv = up v := ⟨_, rfl⟩
  have u1 := run_up hv
  rw [← hxv] at u1
  have i1 : (FloatKind.f64.format.order (xv % 9223372036854775808) 9218868437227405311 == some Ordering.gt) = false := by rw [hxv]; exact (inf_test _).trans ((up_class v hv).2.trans hvi)
  have i2 : (FloatKind.f64.format.order xv xv != some Ordering.eq) = false := by rw [hxv]; exact (nan_test _).trans (up_class v hv).1
  have HI := Aside0.mk (fun W => isInf7 xv (by rw [hxv]; exact up_lt hv) W)
  have HN := Aside0.mk (fun W => isNaN8 xv W)
  clear hxv hv hvi
  obtain ⟨xs, hxs⟩ : ∃ xs, xs = up s := ⟨_, rfl⟩
  have u2 := run_up hf.nn.1
  rw [← hxs] at u2
  obtain ⟨lo, hlo⟩ : ∃ lo, lo = fl .down xs := ⟨_, rfl⟩
  have HF := Aside0.mk (fun W => floor15 xs (by rw [hxs]; exact hf.nn.2.1) W)
  rw [← hlo] at HF
  have u3 : ∀ w, (convert 29 26 (.float .f64 lo)).run Tryd.prog w = .ok (.float .f32 (I32 sg_ (dnq sg_ m k))) w := run_dn (by rw [hlo, hxs, hf.fl .down, cut_down hf.2.2.2.2]) (Nat.lt_of_le_of_lt (dnq_le hf.2.1 hf.2.2.1) (by decide))
  obtain ⟨ro, hro⟩ : ∃ ro, ro = goRound xs := ⟨_, rfl⟩
  have hm0 : 0 < m := Nat.pos_of_ne_zero fun e => hf.2.2.2.2 (by rw [e]; exact Nat.zero_mod _)
  have hro2 : ro = I64 sg_ (near m k) := by rw [hro, hxs, hf.up]; exact round_is sg_ hm0 hf.2.1 hf.2.2.1 hf.2.2.2.1
  have HRO := Aside0.mk (fun W => round42 xs (by rw [hxs]; exact hf.lt.1) W)
  rw [← hro] at HRO
  have hnear : near m k < 2 ^ 24 := near_lt hf.2.1 hf.2.2.1
  have u4 : ∀ w, (convert 29 26 (.float .f64 ro)).run Tryd.prog w = .ok (.float .f32 (I32 sg_ (near m k))) w := run_dn hro2 hnear
  obtain ⟨l32, hl32⟩ : ∃ l, l = I32 sg_ (dnq sg_ m k) := ⟨_, rfl⟩
  rw [← hl32] at u3 hfr
  obtain ⟨r1, hr1⟩ : ∃ l, l = I32 sg_ (near m k) := ⟨_, rfl⟩
  rw [← hr1] at u4 hq1
  have HCL := Aside0.mk (fun W => hC s sg_ m k hf W)
  obtain ⟨r2, hr2⟩ : ∃ l, l = I32 sg_ (clo mode sg_ m k) := ⟨_, rfl⟩
  rw [← hr2] at HCL hq2
  obtain ⟨x1, hx1⟩ : ∃ x, x = up q1 := ⟨_, rfl⟩
  obtain ⟨x2, hx2⟩ : ∃ x, x = up q2 := ⟨_, rfl⟩
  have u5 := run_up n1
  have u6 := run_up n2
  rw [← hx1] at u5
  rw [← hx2] at u6
  have i3 : (FloatKind.f64.format.order (x1 % 9223372036854775808) 9218868437227405311 == some Ordering.gt) = (Ieee.single.read q1).isInfinity := by rw [hx1]; exact (inf_test _).trans (up_class q1 n1).2
  have i4 : (FloatKind.f64.format.order x1 x1 != some Ordering.eq) = false := by rw [hx1]; exact (nan_test _).trans (up_class q1 n1).1
  have i5 : (FloatKind.f64.format.order (x2 % 9223372036854775808) 9218868437227405311 == some Ordering.gt) = (Ieee.single.read q2).isInfinity := by rw [hx2]; exact (inf_test _).trans (up_class q2 n2).2
  have i6 : (FloatKind.f64.format.order x2 x2 != some Ordering.eq) = false := by rw [hx2]; exact (nan_test _).trans (up_class q2 n2).1
  have HI1 := Aside0.mk (fun W => isInf7 x1 (by rw [hx1]; exact up_lt n1) W)
  have HN1 := Aside0.mk (fun W => isNaN8 x1 W)
  have HI2 := Aside0.mk (fun W => isInf7 x2 (by rw [hx2]; exact up_lt n2) W)
  have HN2 := Aside0.mk (fun W => isNaN8 x2 W)
  have a1 := fmul32 hs 26
  have a2 := fsub32 hfr 26
  have a3 := fmul32 hq1 26
  have a4 := fmul32 hq2 26
  obtain ⟨I1, hI1⟩ : ∃ I, I = (Ieee.single.read q1).isInfinity := ⟨_, rfl⟩
  obtain ⟨I2, hI2⟩ : ∃ I, I = (Ieee.single.read q2).isInfinity := ⟨_, rfl⟩
  rw [← hI1] at i3 ⊢
  rw [← hI2] at i5 ⊢
  have t0 : (FloatKind.f32.format.order fr 0 == some Ordering.eq) = b0 := h0
  have t5 : (FloatKind.f32.format.order fr 1056964608 != some Ordering.eq) = b5 := h5
  have g1 : (0 : Int) ≤ d := by omega
  have g2 : ¬ (0 : Int) < d := by omega
  clear hR hEE hC hs hf hfr h0 h5 hq1 hq2 n1 n2 hxs hlo hro hm0 hro2 hnear hl32 hr1 hr2 hx1 hx2 hI1 hI2
  cases b0 with
  | true =>
    go_enter Tryd.func20, Tryd.ntmps20
    go_wp2_with (first | (go_at_call_of 7 xv; refine Calls.mono (HI.out _) ?_; rintro r w1 ⟨rfl, rfl⟩) | (go_at_call_of 8 xv; refine Calls.mono (HN.out _) ?_; rintro r w1 ⟨rfl, rfl⟩) | (go_at_call_of 7 x1; refine Calls.mono (HI1.out _) ?_; rintro r w1 ⟨rfl, rfl⟩) | (go_at_call_of 8 x1; refine Calls.mono (HN1.out _) ?_; rintro r w1 ⟨rfl, rfl⟩) | (go_at_call_of 7 x2; refine Calls.mono (HI2.out _) ?_; rintro r w1 ⟨rfl, rfl⟩) | (go_at_call_of 8 x2; refine Calls.mono (HN2.out _) ?_; rintro r w1 ⟨rfl, rfl⟩) | (go_at_call_of 15 xs; refine Calls.mono (HF.out _) ?_; rintro r w1 ⟨rfl, rfl⟩) | (go_at_call_of 42 xs; refine Calls.mono (HRO.out _) ?_; rintro r w1 ⟨rfl, rfl⟩) | (go_at_call 43; refine Calls.mono (new43' E _ _ HEE.out) ?_; rintro r w1 ⟨nb, rfl, ze, zb⟩; have ce : w1.cell? ⟨E, 0, none⟩ = some .nilIface := (cell_of_row' ze 0).trans rfl; have fe := blk_frozen' ze 0; have ZE := Aside0.mk (blk_put (cs := #[.nilIface]) ze 0 (.iface 67 (.pointer (some ⟨nb, 0, none⟩))) rfl); have ZB := Aside0.mk (Below.setCell (p := ⟨E, 0, none⟩) zb (Nat.le_refl E) (.iface 67 (.pointer (some ⟨nb, 0, none⟩)))); clear ze zb) | (refine Calls.mono (HCL.out _) ?_; rintro r w1 ⟨rfl, rfl⟩))
    go_ret
    exact ⟨v, .nilIface, rfl, HEE.out, Below.refl _ _, .inl ⟨rfl, by first | exact ⟨rfl, rfl⟩ | rfl | (simp; done)⟩⟩
  | false =>
    by_cases hm4 : 4 ≤ mode
    · have hmI : (4 : Int) ≤ (mode : Int) := by omega
      cases b5 with
      | true =>
        cases I1 with
        | true =>
          go_enter Tryd.func20, Tryd.ntmps20
          go_wp2_with (first | (go_at_call_of 7 xv; refine Calls.mono (HI.out _) ?_; rintro r w1 ⟨rfl, rfl⟩) | (go_at_call_of 8 xv; refine Calls.mono (HN.out _) ?_; rintro r w1 ⟨rfl, rfl⟩) | (go_at_call_of 7 x1; refine Calls.mono (HI1.out _) ?_; rintro r w1 ⟨rfl, rfl⟩) | (go_at_call_of 8 x1; refine Calls.mono (HN1.out _) ?_; rintro r w1 ⟨rfl, rfl⟩) | (go_at_call_of 7 x2; refine Calls.mono (HI2.out _) ?_; rintro r w1 ⟨rfl, rfl⟩) | (go_at_call_of 8 x2; refine Calls.mono (HN2.out _) ?_; rintro r w1 ⟨rfl, rfl⟩) | (go_at_call_of 15 xs; refine Calls.mono (HF.out _) ?_; rintro r w1 ⟨rfl, rfl⟩) | (go_at_call_of 42 xs; refine Calls.mono (HRO.out _) ?_; rintro r w1 ⟨rfl, rfl⟩) | (go_at_call 43; refine Calls.mono (new43' E _ _ HEE.out) ?_; rintro r w1 ⟨nb, rfl, ze, zb⟩; have ce : w1.cell? ⟨E, 0, none⟩ = some .nilIface := (cell_of_row' ze 0).trans rfl; have fe := blk_frozen' ze 0; have ZE := Aside0.mk (blk_put (cs := #[.nilIface]) ze 0 (.iface 67 (.pointer (some ⟨nb, 0, none⟩))) rfl); have ZB := Aside0.mk (Below.setCell (p := ⟨E, 0, none⟩) zb (Nat.le_refl E) (.iface 67 (.pointer (some ⟨nb, 0, none⟩)))); clear ze zb) | (refine Calls.mono (HCL.out _) ?_; rintro r w1 ⟨rfl, rfl⟩))
          go_ret
          exact ⟨v, _, rfl, ZE.out, ZB.out, .inr ⟨⟨_, rfl⟩, by first | exact ⟨rfl, rfl⟩ | rfl | (simp; done)⟩⟩
        | false =>
          go_enter Tryd.func20, Tryd.ntmps20
          go_wp2_with (first | (go_at_call_of 7 xv; refine Calls.mono (HI.out _) ?_; rintro r w1 ⟨rfl, rfl⟩) | (go_at_call_of 8 xv; refine Calls.mono (HN.out _) ?_; rintro r w1 ⟨rfl, rfl⟩) | (go_at_call_of 7 x1; refine Calls.mono (HI1.out _) ?_; rintro r w1 ⟨rfl, rfl⟩) | (go_at_call_of 8 x1; refine Calls.mono (HN1.out _) ?_; rintro r w1 ⟨rfl, rfl⟩) | (go_at_call_of 7 x2; refine Calls.mono (HI2.out _) ?_; rintro r w1 ⟨rfl, rfl⟩) | (go_at_call_of 8 x2; refine Calls.mono (HN2.out _) ?_; rintro r w1 ⟨rfl, rfl⟩) | (go_at_call_of 15 xs; refine Calls.mono (HF.out _) ?_; rintro r w1 ⟨rfl, rfl⟩) | (go_at_call_of 42 xs; refine Calls.mono (HRO.out _) ?_; rintro r w1 ⟨rfl, rfl⟩) | (go_at_call 43; refine Calls.mono (new43' E _ _ HEE.out) ?_; rintro r w1 ⟨nb, rfl, ze, zb⟩; have ce : w1.cell? ⟨E, 0, none⟩ = some .nilIface := (cell_of_row' ze 0).trans rfl; have fe := blk_frozen' ze 0; have ZE := Aside0.mk (blk_put (cs := #[.nilIface]) ze 0 (.iface 67 (.pointer (some ⟨nb, 0, none⟩))) rfl); have ZB := Aside0.mk (Below.setCell (p := ⟨E, 0, none⟩) zb (Nat.le_refl E) (.iface 67 (.pointer (some ⟨nb, 0, none⟩)))); clear ze zb) | (refine Calls.mono (HCL.out _) ?_; rintro r w1 ⟨rfl, rfl⟩))
          go_ret
          exact ⟨q1, .nilIface, rfl, HEE.out, Below.refl _ _, .inl ⟨rfl, by first | exact ⟨rfl, rfl⟩ | rfl | (simp; done)⟩⟩
      | false =>
        cases I2 with
        | true =>
          go_enter Tryd.func20, Tryd.ntmps20
          go_wp2_with (first | (go_at_call_of 7 xv; refine Calls.mono (HI.out _) ?_; rintro r w1 ⟨rfl, rfl⟩) | (go_at_call_of 8 xv; refine Calls.mono (HN.out _) ?_; rintro r w1 ⟨rfl, rfl⟩) | (go_at_call_of 7 x1; refine Calls.mono (HI1.out _) ?_; rintro r w1 ⟨rfl, rfl⟩) | (go_at_call_of 8 x1; refine Calls.mono (HN1.out _) ?_; rintro r w1 ⟨rfl, rfl⟩) | (go_at_call_of 7 x2; refine Calls.mono (HI2.out _) ?_; rintro r w1 ⟨rfl, rfl⟩) | (go_at_call_of 8 x2; refine Calls.mono (HN2.out _) ?_; rintro r w1 ⟨rfl, rfl⟩) | (go_at_call_of 15 xs; refine Calls.mono (HF.out _) ?_; rintro r w1 ⟨rfl, rfl⟩) | (go_at_call_of 42 xs; refine Calls.mono (HRO.out _) ?_; rintro r w1 ⟨rfl, rfl⟩) | (go_at_call 43; refine Calls.mono (new43' E _ _ HEE.out) ?_; rintro r w1 ⟨nb, rfl, ze, zb⟩; have ce : w1.cell? ⟨E, 0, none⟩ = some .nilIface := (cell_of_row' ze 0).trans rfl; have fe := blk_frozen' ze 0; have ZE := Aside0.mk (blk_put (cs := #[.nilIface]) ze 0 (.iface 67 (.pointer (some ⟨nb, 0, none⟩))) rfl); have ZB := Aside0.mk (Below.setCell (p := ⟨E, 0, none⟩) zb (Nat.le_refl E) (.iface 67 (.pointer (some ⟨nb, 0, none⟩)))); clear ze zb) | (refine Calls.mono (HCL.out _) ?_; rintro r w1 ⟨rfl, rfl⟩))
          go_ret
          exact ⟨v, _, rfl, ZE.out, ZB.out, .inr ⟨⟨_, rfl⟩, by first | exact ⟨rfl, rfl⟩ | rfl | (simp; done)⟩⟩
        | false =>
          go_enter Tryd.func20, Tryd.ntmps20
          go_wp2_with (first | (go_at_call_of 7 xv; refine Calls.mono (HI.out _) ?_; rintro r w1 ⟨rfl, rfl⟩) | (go_at_call_of 8 xv; refine Calls.mono (HN.out _) ?_; rintro r w1 ⟨rfl, rfl⟩) | (go_at_call_of 7 x1; refine Calls.mono (HI1.out _) ?_; rintro r w1 ⟨rfl, rfl⟩) | (go_at_call_of 8 x1; refine Calls.mono (HN1.out _) ?_; rintro r w1 ⟨rfl, rfl⟩) | (go_at_call_of 7 x2; refine Calls.mono (HI2.out _) ?_; rintro r w1 ⟨rfl, rfl⟩) | (go_at_call_of 8 x2; refine Calls.mono (HN2.out _) ?_; rintro r w1 ⟨rfl, rfl⟩) | (go_at_call_of 15 xs; refine Calls.mono (HF.out _) ?_; rintro r w1 ⟨rfl, rfl⟩) | (go_at_call_of 42 xs; refine Calls.mono (HRO.out _) ?_; rintro r w1 ⟨rfl, rfl⟩) | (go_at_call 43; refine Calls.mono (new43' E _ _ HEE.out) ?_; rintro r w1 ⟨nb, rfl, ze, zb⟩; have ce : w1.cell? ⟨E, 0, none⟩ = some .nilIface := (cell_of_row' ze 0).trans rfl; have fe := blk_frozen' ze 0; have ZE := Aside0.mk (blk_put (cs := #[.nilIface]) ze 0 (.iface 67 (.pointer (some ⟨nb, 0, none⟩))) rfl); have ZB := Aside0.mk (Below.setCell (p := ⟨E, 0, none⟩) zb (Nat.le_refl E) (.iface 67 (.pointer (some ⟨nb, 0, none⟩)))); clear ze zb) | (refine Calls.mono (HCL.out _) ?_; rintro r w1 ⟨rfl, rfl⟩))
          go_ret
          exact ⟨q2, .nilIface, rfl, HEE.out, Below.refl _ _, .inl ⟨rfl, by first | exact ⟨rfl, rfl⟩ | rfl | (simp; done)⟩⟩
    · have hmI : ¬ (4 : Int) ≤ (mode : Int) := by omega
      cases I2 with
      | true =>
        go_enter Tryd.func20, Tryd.ntmps20
        go_wp2_with (first | (go_at_call_of 7 xv; refine Calls.mono (HI.out _) ?_; rintro r w1 ⟨rfl, rfl⟩) | (go_at_call_of 8 xv; refine Calls.mono (HN.out _) ?_; rintro r w1 ⟨rfl, rfl⟩) | (go_at_call_of 7 x1; refine Calls.mono (HI1.out _) ?_; rintro r w1 ⟨rfl, rfl⟩) | (go_at_call_of 8 x1; refine Calls.mono (HN1.out _) ?_; rintro r w1 ⟨rfl, rfl⟩) | (go_at_call_of 7 x2; refine Calls.mono (HI2.out _) ?_; rintro r w1 ⟨rfl, rfl⟩) | (go_at_call_of 8 x2; refine Calls.mono (HN2.out _) ?_; rintro r w1 ⟨rfl, rfl⟩) | (go_at_call_of 15 xs; refine Calls.mono (HF.out _) ?_; rintro r w1 ⟨rfl, rfl⟩) | (go_at_call_of 42 xs; refine Calls.mono (HRO.out _) ?_; rintro r w1 ⟨rfl, rfl⟩) | (go_at_call 43; refine Calls.mono (new43' E _ _ HEE.out) ?_; rintro r w1 ⟨nb, rfl, ze, zb⟩; have ce : w1.cell? ⟨E, 0, none⟩ = some .nilIface := (cell_of_row' ze 0).trans rfl; have fe := blk_frozen' ze 0; have ZE := Aside0.mk (blk_put (cs := #[.nilIface]) ze 0 (.iface 67 (.pointer (some ⟨nb, 0, none⟩))) rfl); have ZB := Aside0.mk (Below.setCell (p := ⟨E, 0, none⟩) zb (Nat.le_refl E) (.iface 67 (.pointer (some ⟨nb, 0, none⟩)))); clear ze zb) | (refine Calls.mono (HCL.out _) ?_; rintro r w1 ⟨rfl, rfl⟩))
        go_ret
        exact ⟨v, _, rfl, ZE.out, ZB.out, .inr ⟨⟨_, rfl⟩, by first | exact ⟨rfl, rfl⟩ | rfl | (simp; done)⟩⟩
      | false =>
        go_enter Tryd.func20, Tryd.ntmps20
        go_wp2_with (first | (go_at_call_of 7 xv; refine Calls.mono (HI.out _) ?_; rintro r w1 ⟨rfl, rfl⟩) | (go_at_call_of 8 xv; refine Calls.mono (HN.out _) ?_; rintro r w1 ⟨rfl, rfl⟩) | (go_at_call_of 7 x1; refine Calls.mono (HI1.out _) ?_; rintro r w1 ⟨rfl, rfl⟩) | (go_at_call_of 8 x1; refine Calls.mono (HN1.out _) ?_; rintro r w1 ⟨rfl, rfl⟩) | (go_at_call_of 7 x2; refine Calls.mono (HI2.out _) ?_; rintro r w1 ⟨rfl, rfl⟩) | (go_at_call_of 8 x2; refine Calls.mono (HN2.out _) ?_; rintro r w1 ⟨rfl, rfl⟩) | (go_at_call_of 15 xs; refine Calls.mono (HF.out _) ?_; rintro r w1 ⟨rfl, rfl⟩) | (go_at_call_of 42 xs; refine Calls.mono (HRO.out _) ?_; rintro r w1 ⟨rfl, rfl⟩) | (go_at_call 43; refine Calls.mono (new43' E _ _ HEE.out) ?_; rintro r w1 ⟨nb, rfl, ze, zb⟩; have ce : w1.cell? ⟨E, 0, none⟩ = some .nilIface := (cell_of_row' ze 0).trans rfl; have fe := blk_frozen' ze 0; have ZE := Aside0.mk (blk_put (cs := #[.nilIface]) ze 0 (.iface 67 (.pointer (some ⟨nb, 0, none⟩))) rfl); have ZB := Aside0.mk (Below.setCell (p := ⟨E, 0, none⟩) zb (Nat.le_refl E) (.iface 67 (.pointer (some ⟨nb, 0, none⟩)))); clear ze zb) | (refine Calls.mono (HCL.out _) ?_; rintro r w1 ⟨rfl, rfl⟩))
        go_ret
        exact ⟨q2, .nilIface, rfl, HEE.out, Below.refl _ _, .inl ⟨rfl, by first | exact ⟨rfl, rfl⟩ | rfl | (simp; done)⟩⟩
set_option maxHeartbeats 4000000 in
set_option maxRecDepth 100000 in
theorem call_neg (R E fo mode : Nat) (d : Int) (p v s : Nat) (sg_ : Bool) (m k : Nat) (b0 b5 : Bool) (fr q1 q2 : Nat) (w : World) (hd : d < 0) (hC : CloC fo mode) (hE : ∀ (args : Array Value) (w : World), Sem.run Tryd.prog (callFunc fo args) w = .ok (.enter fo args) w)
    (hR : w.heap[R]? = some (.cells #[.float .f32 p, .int .i64 d, .int .i8 mode, .func (.func fo) #[] #[]] 50 (0, 0))) (hEE : w.heap[E]? = some (.cells #[.nilIface] 39 (0, 0)))
    (hv : (Ieee.single.read v).isNaN = false) (hvi : (Ieee.single.read v).isInfinity = false) (hs : Ieee.single.div v p = some s) (hf : frc s sg_ m k) (hfr : Ieee.single.sub s (I32 sg_ (dnq sg_ m k)) = some fr)
    (h0 : (Ieee.single.order fr 0 == some Ordering.eq) = b0) (h5 : (Ieee.single.order fr 1056964608 != some Ordering.eq) = b5)
    (hq1 : Ieee.single.mul (I32 sg_ (near m k)) p = some q1) (hq2 : Ieee.single.mul (I32 sg_ (clo mode sg_ m k)) p = some q2) (n1 : (Ieee.single.read q1).isNaN = false) (n2 : (Ieee.single.read q2).isNaN = false) :
    Calls Tryd.prog 20 #[.pointer (some ⟨R, 0, none⟩), .float .f32 v, .pointer (some ⟨E, 0, none⟩)] w (CallP E w fun out ok => if b0 = true then out = v ∧ ok = true else if 4 ≤ mode ∧ b5 = true then (if (Ieee.single.read q1).isInfinity = true then ok = false else ok = true ∧ out = q1) else (if (Ieee.single.read q2).isInfinity = true then ok = false else ok = true ∧ out = q2)) := by
  have c0 : w.cell? ⟨R, 0, none⟩ = some (.float .f32 p) := (cell_of_row' hR 0).trans rfl
  have c1 : w.cell? ⟨R, 1, none⟩ = some (.int .i64 d) := (cell_of_row' hR 1).trans rfl
  have c2 : w.cell? ⟨R, 2, none⟩ = some (.int .i8 mode) := (cell_of_row' hR 2).trans rfl
  have c3 : w.cell? ⟨R, 3, none⟩ = some (.func (.func fo) #[] #[]) := (cell_of_row' hR 3).trans rfl
  have HEE := Aside0.mk hEE
  have hElt := blk_lt hEE
  obtain ⟨xv, hxv⟩ : ∃ xv, xv = up v := ⟨_, rfl⟩
  have u1 := run_up hv
  rw [← hxv] at u1
  have i1 : (FloatKind.f64.format.order (xv % 9223372036854775808) 9218868437227405311 == some Ordering.gt) = false := by rw [hxv]; exact (inf_test _).trans ((up_class v hv).2.trans hvi)
  have i2 : (FloatKind.f64.format.order xv xv != some Ordering.eq) = false := by rw [hxv]; exact (nan_test _).trans (up_class v hv).1
  have HI := Aside0.mk (fun W => isInf7 xv (by rw [hxv]; exact up_lt hv) W)
  have HN := Aside0.mk (fun W => isNaN8 xv W)
  clear hxv hv hvi
  obtain ⟨xs, hxs⟩ : ∃ xs, xs = up s := ⟨_, rfl⟩
  have u2 := run_up hf.nn.1
  rw [← hxs] at u2
  obtain ⟨lo, hlo⟩ : ∃ lo, lo = fl .down xs := ⟨_, rfl⟩
  have HF := Aside0.mk (fun W => floor15 xs (by rw [hxs]; exact hf.nn.2.1) W)
  rw [← hlo] at HF
  have u3 : ∀ w, (convert 29 26 (.float .f64 lo)).run Tryd.prog w = .ok (.float .f32 (I32 sg_ (dnq sg_ m k))) w := run_dn (by rw [hlo, hxs, hf.fl .down, cut_down hf.2.2.2.2]) (Nat.lt_of_le_of_lt (dnq_le hf.2.1 hf.2.2.1) (by decide))
  obtain ⟨ro, hro⟩ : ∃ ro, ro = goRound xs := ⟨_, rfl⟩
  have hm0 : 0 < m := Nat.pos_of_ne_zero fun e => hf.2.2.2.2 (by rw [e]; exact Nat.zero_mod _)
  have hro2 : ro = I64 sg_ (near m k) := by rw [hro, hxs, hf.up]; exact round_is sg_ hm0 hf.2.1 hf.2.2.1 hf.2.2.2.1
  have HRO := Aside0.mk (fun W => round42 xs (by rw [hxs]; exact hf.lt.1) W)
  rw [← hro] at HRO
  have hnear : near m k < 2 ^ 24 := near_lt hf.2.1 hf.2.2.1
  have u4 : ∀ w, (convert 29 26 (.float .f64 ro)).run Tryd.prog w = .ok (.float .f32 (I32 sg_ (near m k))) w := run_dn hro2 hnear
  obtain ⟨l32, hl32⟩ : ∃ l, l = I32 sg_ (dnq sg_ m k) := ⟨_, rfl⟩
  rw [← hl32] at u3 hfr
  obtain ⟨r1, hr1⟩ : ∃ l, l = I32 sg_ (near m k) := ⟨_, rfl⟩
  rw [← hr1] at u4 hq1
  have HCL := Aside0.mk (fun W => hC s sg_ m k hf W)
  obtain ⟨r2, hr2⟩ : ∃ l, l = I32 sg_ (clo mode sg_ m k) := ⟨_, rfl⟩
  rw [← hr2] at HCL hq2
  obtain ⟨x1, hx1⟩ : ∃ x, x = up q1 := ⟨_, rfl⟩
  obtain ⟨x2, hx2⟩ : ∃ x, x = up q2 := ⟨_, rfl⟩
  have u5 := run_up n1
  have u6 := run_up n2
  rw [← hx1] at u5
  rw [← hx2] at u6
  have i3 : (FloatKind.f64.format.order (x1 % 9223372036854775808) 9218868437227405311 == some Ordering.gt) = (Ieee.single.read q1).isInfinity := by rw [hx1]; exact (inf_test _).trans (up_class q1 n1).2
  have i4 : (FloatKind.f64.format.order x1 x1 != some Ordering.eq) = false := by rw [hx1]; exact (nan_test _).trans (up_class q1 n1).1
  have i5 : (FloatKind.f64.format.order (x2 % 9223372036854775808) 9218868437227405311 == some Ordering.gt) = (Ieee.single.read q2).isInfinity := by rw [hx2]; exact (inf_test _).trans (up_class q2 n2).2
  have i6 : (FloatKind.f64.format.order x2 x2 != some Ordering.eq) = false := by rw [hx2]; exact (nan_test _).trans (up_class q2 n2).1
  have HI1 := Aside0.mk (fun W => isInf7 x1 (by rw [hx1]; exact up_lt n1) W)
  have HN1 := Aside0.mk (fun W => isNaN8 x1 W)
  have HI2 := Aside0.mk (fun W => isInf7 x2 (by rw [hx2]; exact up_lt n2) W)
  have HN2 := Aside0.mk (fun W => isNaN8 x2 W)
  have a1 := fdiv32 hs 26
  have a2 := fsub32 hfr 26
  have a3 := fmul32 hq1 26
  have a4 := fmul32 hq2 26
  obtain ⟨I1, hI1⟩ : ∃ I, I = (Ieee.single.read q1).isInfinity := ⟨_, rfl⟩
  obtain ⟨I2, hI2⟩ : ∃ I, I = (Ieee.single.read q2).isInfinity := ⟨_, rfl⟩
  rw [← hI1] at i3 ⊢
  rw [← hI2] at i5 ⊢
  have t0 : (FloatKind.f32.format.order fr 0 == some Ordering.eq) = b0 := h0
  have t5 : (FloatKind.f32.format.order fr 1056964608 != some Ordering.eq) = b5 := h5
  have g1 : ¬ (0 : Int) ≤ d := by omega
  have g2 : ¬ (0 : Int) < d := by omega
  clear hR hEE hC hs hf hfr h0 h5 hq1 hq2 n1 n2 hxs hlo hro hm0 hro2 hnear hl32 hr1 hr2 hx1 hx2 hI1 hI2
  cases b0 with
  | true =>
    go_enter Tryd.func20, Tryd.ntmps20
    go_wp2_with (first | (go_at_call_of 7 xv; refine Calls.mono (HI.out _) ?_; rintro r w1 ⟨rfl, rfl⟩) | (go_at_call_of 8 xv; refine Calls.mono (HN.out _) ?_; rintro r w1 ⟨rfl, rfl⟩) | (go_at_call_of 7 x1; refine Calls.mono (HI1.out _) ?_; rintro r w1 ⟨rfl, rfl⟩) | (go_at_call_of 8 x1; refine Calls.mono (HN1.out _) ?_; rintro r w1 ⟨rfl, rfl⟩) | (go_at_call_of 7 x2; refine Calls.mono (HI2.out _) ?_; rintro r w1 ⟨rfl, rfl⟩) | (go_at_call_of 8 x2; refine Calls.mono (HN2.out _) ?_; rintro r w1 ⟨rfl, rfl⟩) | (go_at_call_of 15 xs; refine Calls.mono (HF.out _) ?_; rintro r w1 ⟨rfl, rfl⟩) | (go_at_call_of 42 xs; refine Calls.mono (HRO.out _) ?_; rintro r w1 ⟨rfl, rfl⟩) | (go_at_call 43; refine Calls.mono (new43' E _ _ HEE.out) ?_; rintro r w1 ⟨nb, rfl, ze, zb⟩; have ce : w1.cell? ⟨E, 0, none⟩ = some .nilIface := (cell_of_row' ze 0).trans rfl; have fe := blk_frozen' ze 0; have ZE := Aside0.mk (blk_put (cs := #[.nilIface]) ze 0 (.iface 67 (.pointer (some ⟨nb, 0, none⟩))) rfl); have ZB := Aside0.mk (Below.setCell (p := ⟨E, 0, none⟩) zb (Nat.le_refl E) (.iface 67 (.pointer (some ⟨nb, 0, none⟩)))); clear ze zb) | (refine Calls.mono (HCL.out _) ?_; rintro r w1 ⟨rfl, rfl⟩))
    go_ret
    exact ⟨v, .nilIface, rfl, HEE.out, Below.refl _ _, .inl ⟨rfl, by first | exact ⟨rfl, rfl⟩ | rfl | (simp; done)⟩⟩
  | false =>
    by_cases hm4 : 4 ≤ mode
    · have hmI : (4 : Int) ≤ (mode : Int) := by omega
      cases b5 with
      | true =>
        cases I1 with
        | true =>
          go_enter Tryd.func20, Tryd.ntmps20
          go_wp2_with (first | (go_at_call_of 7 xv; refine Calls.mono (HI.out _) ?_; rintro r w1 ⟨rfl, rfl⟩) | (go_at_call_of 8 xv; refine Calls.mono (HN.out _) ?_; rintro r w1 ⟨rfl, rfl⟩) | (go_at_call_of 7 x1; refine Calls.mono (HI1.out _) ?_; rintro r w1 ⟨rfl, rfl⟩) | (go_at_call_of 8 x1; refine Calls.mono (HN1.out _) ?_; rintro r w1 ⟨rfl, rfl⟩) | (go_at_call_of 7 x2; refine Calls.mono (HI2.out _) ?_; rintro r w1 ⟨rfl, rfl⟩) | (go_at_call_of 8 x2; refine Calls.mono (HN2.out _) ?_; rintro r w1 ⟨rfl, rfl⟩) | (go_at_call_of 15 xs; refine Calls.mono (HF.out _) ?_; rintro r w1 ⟨rfl, rfl⟩) | (go_at_call_of 42 xs; refine Calls.mono (HRO.out _) ?_; rintro r w1 ⟨rfl, rfl⟩) | (go_at_call 43; refine Calls.mono (new43' E _ _ HEE.out) ?_; rintro r w1 ⟨nb, rfl, ze, zb⟩; have ce : w1.cell? ⟨E, 0, none⟩ = some .nilIface := (cell_of_row' ze 0).trans rfl; have fe := blk_frozen' ze 0; have ZE := Aside0.mk (blk_put (cs := #[.nilIface]) ze 0 (.iface 67 (.pointer (some ⟨nb, 0, none⟩))) rfl); have ZB := Aside0.mk (Below.setCell (p := ⟨E, 0, none⟩) zb (Nat.le_refl E) (.iface 67 (.pointer (some ⟨nb, 0, none⟩)))); clear ze zb) | (refine Calls.mono (HCL.out _) ?_; rintro r w1 ⟨rfl, rfl⟩))
          go_ret
          exact ⟨v, _, rfl, ZE.out, ZB.out, .inr ⟨⟨_, rfl⟩, by first | exact ⟨rfl, rfl⟩ | rfl | (simp; done)⟩⟩
        | false =>
          go_enter Tryd.func20, Tryd.ntmps20
          go_wp2_with (first | (go_at_call_of 7 xv; refine Calls.mono (HI.out _) ?_; rintro r w1 ⟨rfl, rfl⟩) | (go_at_call_of 8 xv; refine Calls.mono (HN.out _) ?_; rintro r w1 ⟨rfl, rfl⟩) | (go_at_call_of 7 x1; refine Calls.mono (HI1.out _) ?_; rintro r w1 ⟨rfl, rfl⟩) | (go_at_call_of 8 x1; refine Calls.mono (HN1.out _) ?_; rintro r w1 ⟨rfl, rfl⟩) | (go_at_call_of 7 x2; refine Calls.mono (HI2.out _) ?_; rintro r w1 ⟨rfl, rfl⟩) | (go_at_call_of 8 x2; refine Calls.mono (HN2.out _) ?_; rintro r w1 ⟨rfl, rfl⟩) | (go_at_call_of 15 xs; refine Calls.mono (HF.out _) ?_; rintro r w1 ⟨rfl, rfl⟩) | (go_at_call_of 42 xs; refine Calls.mono (HRO.out _) ?_; rintro r w1 ⟨rfl, rfl⟩) | (go_at_call 43; refine Calls.mono (new43' E _ _ HEE.out) ?_; rintro r w1 ⟨nb, rfl, ze, zb⟩; have ce : w1.cell? ⟨E, 0, none⟩ = some .nilIface := (cell_of_row' ze 0).trans rfl; have fe := blk_frozen' ze 0; have ZE := Aside0.mk (blk_put (cs := #[.nilIface]) ze 0 (.iface 67 (.pointer (some ⟨nb, 0, none⟩))) rfl); have ZB := Aside0.mk (Below.setCell (p := ⟨E, 0, none⟩) zb (Nat.le_refl E) (.iface 67 (.pointer (some ⟨nb, 0, none⟩)))); clear ze zb) | (refine Calls.mono (HCL.out _) ?_; rintro r w1 ⟨rfl, rfl⟩))
          go_ret
          exact ⟨q1, .nilIface, rfl, HEE.out, Below.refl _ _, .inl ⟨rfl, by first | exact ⟨rfl, rfl⟩ | rfl | (simp; done)⟩⟩
      | false =>
        cases I2 with
        | true =>
          go_enter Tryd.func20, Tryd.ntmps20
          go_wp2_with (first | (go_at_call_of 7 xv; refine Calls.mono (HI.out _) ?_; rintro r w1 ⟨rfl, rfl⟩) | (go_at_call_of 8 xv; refine Calls.mono (HN.out _) ?_; rintro r w1 ⟨rfl, rfl⟩) | (go_at_call_of 7 x1; refine Calls.mono (HI1.out _) ?_; rintro r w1 ⟨rfl, rfl⟩) | (go_at_call_of 8 x1; refine Calls.mono (HN1.out _) ?_; rintro r w1 ⟨rfl, rfl⟩) | (go_at_call_of 7 x2; refine Calls.mono (HI2.out _) ?_; rintro r w1 ⟨rfl, rfl⟩) | (go_at_call_of 8 x2; refine Calls.mono (HN2.out _) ?_; rintro r w1 ⟨rfl, rfl⟩) | (go_at_call_of 15 xs; refine Calls.mono (HF.out _) ?_; rintro r w1 ⟨rfl, rfl⟩) | (go_at_call_of 42 xs; refine Calls.mono (HRO.out _) ?_; rintro r w1 ⟨rfl, rfl⟩) | (go_at_call 43; refine Calls.mono (new43' E _ _ HEE.out) ?_; rintro r w1 ⟨nb, rfl, ze, zb⟩; have ce : w1.cell? ⟨E, 0, none⟩ = some .nilIface := (cell_of_row' ze 0).trans rfl; have fe := blk_frozen' ze 0; have ZE := Aside0.mk (blk_put (cs := #[.nilIface]) ze 0 (.iface 67 (.pointer (some ⟨nb, 0, none⟩))) rfl); have ZB := Aside0.mk (Below.setCell (p := ⟨E, 0, none⟩) zb (Nat.le_refl E) (.iface 67 (.pointer (some ⟨nb, 0, none⟩)))); clear ze zb) | (refine Calls.mono (HCL.out _) ?_; rintro r w1 ⟨rfl, rfl⟩))
          go_ret
          exact ⟨v, _, rfl, ZE.out, ZB.out, .inr ⟨⟨_, rfl⟩, by first | exact ⟨rfl, rfl⟩ | rfl | (simp; done)⟩⟩
        | false =>
          go_enter Tryd.func20, Tryd.ntmps20
          go_wp2_with (first | (go_at_call_of 7 xv; refine Calls.mono (HI.out _) ?_; rintro r w1 ⟨rfl, rfl⟩) | (go_at_call_of 8 xv; refine Calls.mono (HN.out _) ?_; rintro r w1 ⟨rfl, rfl⟩) | (go_at_call_of 7 x1; refine Calls.mono (HI1.out _) ?_; rintro r w1 ⟨rfl, rfl⟩) | (go_at_call_of 8 x1; refine Calls.mono (HN1.out _) ?_; rintro r w1 ⟨rfl, rfl⟩) | (go_at_call_of 7 x2; refine Calls.mono (HI2.out _) ?_; rintro r w1 ⟨rfl, rfl⟩) | (go_at_call_of 8 x2; refine Calls.mono (HN2.out _) ?_; rintro r w1 ⟨rfl, rfl⟩) | (go_at_call_of 15 xs; refine Calls.mono (HF.out _) ?_; rintro r w1 ⟨rfl, rfl⟩) | (go_at_call_of 42 xs; refine Calls.mono (HRO.out _) ?_; rintro r w1 ⟨rfl, rfl⟩) | (go_at_call 43; refine Calls.mono (new43' E _ _ HEE.out) ?_; rintro r w1 ⟨nb, rfl, ze, zb⟩; have ce : w1.cell? ⟨E, 0, none⟩ = some .nilIface := (cell_of_row' ze 0).trans rfl; have fe := blk_frozen' ze 0; have ZE := Aside0.mk (blk_put (cs := #[.nilIface]) ze 0 (.iface 67 (.pointer (some ⟨nb, 0, none⟩))) rfl); have ZB := Aside0.mk (Below.setCell (p := ⟨E, 0, none⟩) zb (Nat.le_refl E) (.iface 67 (.pointer (some ⟨nb, 0, none⟩)))); clear ze zb) | (refine Calls.mono (HCL.out _) ?_; rintro r w1 ⟨rfl, rfl⟩))
          go_ret
          exact ⟨q2, .nilIface, rfl, HEE.out, Below.refl _ _, .inl ⟨rfl, by first | exact ⟨rfl, rfl⟩ | rfl | (simp; done)⟩⟩
    · have hmI : ¬ (4 : Int) ≤ (mode : Int) := by omega
      cases I2 with
      | true =>
        go_enter Tryd.func20, Tryd.ntmps20
        go_wp2_with (first | (go_at_call_of 7 xv; refine Calls.mono (HI.out _) ?_; rintro r w1 ⟨rfl, rfl⟩) | (go_at_call_of 8 xv; refine Calls.mono (HN.out _) ?_; rintro r w1 ⟨rfl, rfl⟩) | (go_at_call_of 7 x1; refine Calls.mono (HI1.out _) ?_; rintro r w1 ⟨rfl, rfl⟩) | (go_at_call_of 8 x1; refine Calls.mono (HN1.out _) ?_; rintro r w1 ⟨rfl, rfl⟩) | (go_at_call_of 7 x2; refine Calls.mono (HI2.out _) ?_; rintro r w1 ⟨rfl, rfl⟩) | (go_at_call_of 8 x2; refine Calls.mono (HN2.out _) ?_; rintro r w1 ⟨rfl, rfl⟩) | (go_at_call_of 15 xs; refine Calls.mono (HF.out _) ?_; rintro r w1 ⟨rfl, rfl⟩) | (go_at_call_of 42 xs; refine Calls.mono (HRO.out _) ?_; rintro r w1 ⟨rfl, rfl⟩) | (go_at_call 43; refine Calls.mono (new43' E _ _ HEE.out) ?_; rintro r w1 ⟨nb, rfl, ze, zb⟩; have ce : w1.cell? ⟨E, 0, none⟩ = some .nilIface := (cell_of_row' ze 0).trans rfl; have fe := blk_frozen' ze 0; have ZE := Aside0.mk (blk_put (cs := #[.nilIface]) ze 0 (.iface 67 (.pointer (some ⟨nb, 0, none⟩))) rfl); have ZB := Aside0.mk (Below.setCell (p := ⟨E, 0, none⟩) zb (Nat.le_refl E) (.iface 67 (.pointer (some ⟨nb, 0, none⟩)))); clear ze zb) | (refine Calls.mono (HCL.out _) ?_; rintro r w1 ⟨rfl, rfl⟩))
        go_ret
        exact ⟨v, _, rfl, ZE.out, ZB.out, .inr ⟨⟨_, rfl⟩, by first | exact ⟨rfl, rfl⟩ | rfl | (simp; done)⟩⟩
      | false =>
        go_enter Tryd.func20, Tryd.ntmps20
        go_wp2_with (first | (go_at_call_of 7 xv; refine Calls.mono (HI.out _) ?_; rintro r w1 ⟨rfl, rfl⟩) | (go_at_call_of 8 xv; refine Calls.mono (HN.out _) ?_; rintro r w1 ⟨rfl, rfl⟩) | (go_at_call_of 7 x1; refine Calls.mono (HI1.out _) ?_; rintro r w1 ⟨rfl, rfl⟩) | (go_at_call_of 8 x1; refine Calls.mono (HN1.out _) ?_; rintro r w1 ⟨rfl, rfl⟩) | (go_at_call_of 7 x2; refine Calls.mono (HI2.out _) ?_; rintro r w1 ⟨rfl, rfl⟩) | (go_at_call_of 8 x2; refine Calls.mono (HN2.out _) ?_; rintro r w1 ⟨rfl, rfl⟩) | (go_at_call_of 15 xs; refine Calls.mono (HF.out _) ?_; rintro r w1 ⟨rfl, rfl⟩) | (go_at_call_of 42 xs; refine Calls.mono (HRO.out _) ?_; rintro r w1 ⟨rfl, rfl⟩) | (go_at_call 43; refine Calls.mono (new43' E _ _ HEE.out) ?_; rintro r w1 ⟨nb, rfl, ze, zb⟩; have ce : w1.cell? ⟨E, 0, none⟩ = some .nilIface := (cell_of_row' ze 0).trans rfl; have fe := blk_frozen' ze 0; have ZE := Aside0.mk (blk_put (cs := #[.nilIface]) ze 0 (.iface 67 (.pointer (some ⟨nb, 0, none⟩))) rfl); have ZB := Aside0.mk (Below.setCell (p := ⟨E, 0, none⟩) zb (Nat.le_refl E) (.iface 67 (.pointer (some ⟨nb, 0, none⟩)))); clear ze zb) | (refine Calls.mono (HCL.out _) ?_; rintro r w1 ⟨rfl, rfl⟩))
        go_ret
        exact ⟨q2, .nilIface, rfl, HEE.out, Below.refl _ _, .inl ⟨rfl, by first | exact ⟨rfl, rfl⟩ | rfl | (simp; done)⟩⟩

end Go.Proofs.YtinfcoalicbcbaaDoor.Rd
