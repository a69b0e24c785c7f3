/- What is whole, what is endless: the call. -/
import Derived.Test.YtinfcoalicbcbaaDoorRd
namespace Go.Proofs.YtinfcoalicbcbaaDoor.Rd
set_option linter.unusedVariables false
set_option linter.unusedSimpArgs false
open Go.RowKit Go.IntWalk Go.Proofs.YtinfcoalicbcbaaDoorW.PrintWords Go.Proofs.YtinfcoalicbcbaaDoorW.PrintLast Go.Proofs.YtinfcoalicbcbaaDoorW.PrintMore
attribute [local go_sem] max2_int min2_int max_two min_two max_three min_three max_four min_four
attribute [local go_sem] run5 run6 run21 run22 run_store_float
open Ieee in
theorem up_inf {x : Nat} {s : Bool} (h : single.read x = .infinity s) : up x = double.word s double.infRung := by
  unfold up
  rw [h]
  rfl
open Ieee in
theorem fl_inf (way : Toward) {x : Nat} {s : Bool} (h : single.read x = .infinity s) : fl way (up x) = up x := by
  unfold fl
  rw [up_inf h, read_inf]
  rfl
open Ieee in
theorem goRound_inf {x : Nat} {s : Bool} (h : single.read x = .infinity s) : goRound (up x) = up x := by
  rw [up_inf h]
  cases s <;> decide
open Ieee in
theorem mul_inf {x p : Nat} {s : Bool} {n : Nat} {j : Int} (h : single.read x = .infinity s) (hp : single.read p = .number false n j) (hn : n ≠ 0) : ∃ q, single.mul x p = some q ∧ (single.read q).isNaN = false ∧ (single.read q).isInfinity = true := by
  unfold Format.mul
  rw [h, hp]
  simp only [Datum.product, if_neg hn, Option.map_some]
  refine ⟨_, rfl, ?_⟩
  cases s <;> decide
open Ieee in
theorem div_inf {x p : Nat} {s : Bool} {n : Nat} {j : Int} (h : single.read x = .infinity s) (hp : single.read p = .number false n j) : ∃ q, single.div x p = some q ∧ (single.read q).isNaN = false ∧ (single.read q).isInfinity = true := by
  unfold Format.div
  rw [h, hp]
  simp only [Datum.quotient, Option.map_some]
  refine ⟨_, rfl, ?_⟩
  cases s <;> decide
/-- What a mode's function answers of what is endless. -/
def CloI (fo : Nat) : Prop := ∀ (x : Nat) (s : Bool) (hx : x < 4294967296) (h : Ieee.single.read x = .infinity s) (w : World), Calls Tryd.prog fo #[.float .f32 x] w fun e w' => e = .returned (.float .f32 x) ∧ w' = w
theorem inf_nn {x : Nat} {s : Bool} (h : Ieee.single.read x = .infinity s) : (Ieee.single.read x).isNaN = false := by rw [h]; rfl
set_option maxRecDepth 100000 in
theorem cli28 : CloI 28 := fun x s hx h w => by
  have h1 := run_up (inf_nn h)
  have h2 := run_dn_up hx (inf_nn h)
  have HF := Aside0.mk (floor15 (up x) (up_class x (inf_nn h)).1 w)
  rw [fl_inf _ h] at HF
  clear h hx
  go_enter Tryd.func28, Tryd.ntmps28
  go_wp2_with (go_at_call 15; refine Calls.mono HF.out ?_; rintro r w1 ⟨rfl, rfl⟩)
  go_ret
  exact ⟨rfl, rfl⟩
set_option maxRecDepth 100000 in
theorem cli29 : CloI 29 := fun x s hx h w => by
  have h1 := run_up (inf_nn h)
  have h2 := run_dn_up hx (inf_nn h)
  have HF := Aside0.mk (ceil30 (up x) (up_class x (inf_nn h)).1 w)
  rw [fl_inf _ h] at HF
  clear h hx
  go_enter Tryd.func29, Tryd.ntmps29
  go_wp2_with (go_at_call 30; refine Calls.mono HF.out ?_; rintro r w1 ⟨rfl, rfl⟩)
  go_ret
  exact ⟨rfl, rfl⟩
set_option maxRecDepth 100000 in
theorem cli31 : CloI 31 := fun x s hx h w => by
  have h1 := run_up (inf_nn h)
  have h2 := run_dn_up hx (inf_nn h)
  have HF := Aside0.mk (trunc32 (up x) (up_class x (inf_nn h)).1 w)
  rw [fl_inf _ h] at HF
  clear h hx
  go_enter Tryd.func31, Tryd.ntmps31
  go_wp2_with (go_at_call 32; refine Calls.mono HF.out ?_; rintro r w1 ⟨rfl, rfl⟩)
  go_ret
  exact ⟨rfl, rfl⟩
set_option maxRecDepth 100000 in
theorem cli33 : CloI 33 := fun x s hx h w => by
  have h1 := run_up (inf_nn h)
  have h2 := run_dn_up hx (inf_nn h)
  have HF := Aside0.mk (floor15 (up x) (up_class x (inf_nn h)).1 w)
  rw [fl_inf _ h] at HF
  have HC := Aside0.mk (ceil30 (up x) (up_class x (inf_nn h)).1 w)
  rw [fl_inf _ h] at HC
  obtain ⟨b, hb⟩ : ∃ b, b = decide (9223372036854775808 ≤ up x) := ⟨_, rfl⟩
  have HS := Aside0.mk (sign34 (up x) (up_lt (inf_nn h)) w)
  rw [← hb] at HS
  clear h hx hb
  cases b with
  | true =>
    go_enter Tryd.func33, Tryd.ntmps33
    go_wp2_with (first | (go_at_call 34; refine Calls.mono HS.out ?_; rintro r w1 ⟨rfl, rfl⟩) | (go_at_call 15; refine Calls.mono HF.out ?_; rintro r w1 ⟨rfl, rfl⟩))
    go_ret
    exact ⟨rfl, rfl⟩
  | false =>
    go_enter Tryd.func33, Tryd.ntmps33
    go_wp2_with (first | (go_at_call 34; refine Calls.mono HS.out ?_; rintro r w1 ⟨rfl, rfl⟩) | (go_at_call 30; refine Calls.mono HC.out ?_; rintro r w1 ⟨rfl, rfl⟩))
    go_ret
    exact ⟨rfl, rfl⟩
open Ieee in
theorem nan_cmp {y : Nat} (h : (single.read y).isNaN = true) (c : Nat) : (single.order y c == some Ordering.eq) = false := by
  unfold Format.order
  cases hy : single.read y with
  | nan s t => rfl
  | infinity s => rw [hy] at h; cases h
  | number s m e => rw [hy] at h; cases h
set_option maxHeartbeats 4000000 in
set_option maxRecDepth 100000 in
theorem whole_mul (R E fo mode : Nat) (d : Int) (p v s : Nat) (w : World) (g1 : (0 : Int) ≤ d)
    (hR : w.heap[R]? = some (.cells #[.float .f32 p, .int .i64 d, .int .i8 mode, .func (.func fo) #[] #[]] 50 (0, 0))) (hEE : w.heap[E]? = some (.cells #[.nilIface] 39 (0, 0)))
    (hv : (Ieee.single.read v).isNaN = false) (hvi : (Ieee.single.read v).isInfinity = false) (hs : Ieee.single.mul v p = some s) (hsl : s < 4294967296) (hsn : (Ieee.single.read s).isNaN = false) (hfl : fl .down (up s) = up s) (hsub : Ieee.single.sub s s = some 0) :
    Calls Tryd.prog 20 #[.pointer (some ⟨R, 0, none⟩), .float .f32 v, .pointer (some ⟨E, 0, none⟩)] w (CallP E w fun out ok => out = v ∧ ok = true) := by
  have c0 : w.cell? ⟨R, 0, none⟩ = some (.float .f32 p) := (cell_of_row' hR 0).trans rfl
  have c1 : w.cell? ⟨R, 1, none⟩ = some (.int .i64 d) := (cell_of_row' hR 1).trans rfl
  have c2 : w.cell? ⟨R, 2, none⟩ = some (.int .i8 mode) := (cell_of_row' hR 2).trans rfl
  have c3 : w.cell? ⟨R, 3, none⟩ = some (.func (.func fo) #[] #[]) := (cell_of_row' hR 3).trans rfl
  have HEE := Aside0.mk hEE
  have HED := Aside0.mk (show w.drew.heap[E]? = some (.cells #[.nilIface] 39 (0, 0)) from hEE)
  have hElt := blk_lt hEE
  obtain ⟨xv, hxv⟩ : ∃ xv, xv = up v := ⟨_, rfl⟩
  have u1 := run_up hv
  rw [← hxv] at u1
  have i1 : (FloatKind.f64.format.order (xv % 9223372036854775808) 9218868437227405311 == some Ordering.gt) = false := by rw [hxv]; exact (inf_test _).trans ((up_class v hv).2.trans hvi)
  have i2 : (FloatKind.f64.format.order xv xv != some Ordering.eq) = false := by rw [hxv]; exact (nan_test _).trans (up_class v hv).1
  have HI := Aside0.mk (fun W => isInf7 xv (by rw [hxv]; exact up_lt hv) W)
  have HN := Aside0.mk (fun W => isNaN8 xv W)
  clear hxv hv hvi
  obtain ⟨xs, hxs⟩ : ∃ xs, xs = up s := ⟨_, rfl⟩
  have u2 := run_up hsn
  rw [← hxs] at u2
  have HF := Aside0.mk (fun W => floor15 xs (by rw [hxs]; exact (up_class s hsn).1) W)
  rw [← hxs] at hfl
  rw [hfl] at HF
  have u3 := run_dn_up hsl hsn
  rw [← hxs] at u3
  have a1 := fmul32 hs 26
  have a2 := fsub32 hsub 26
  have t0 : (FloatKind.f32.format.order 0 0 == some Ordering.eq) = true := by decide
  clear hR hEE hs hsl hsn hfl hsub hxs
  go_enter Tryd.func20, Tryd.ntmps20
  go_wp2_with (first | (go_at_call_of 7 xv; refine Calls.mono (HI.out _) ?_; rintro r w1 ⟨rfl, rfl⟩) | (go_at_call_of 8 xv; refine Calls.mono (HN.out _) ?_; rintro r w1 ⟨rfl, rfl⟩) | (go_at_call_of 15 xs; refine Calls.mono (HF.out _) ?_; rintro r w1 ⟨rfl, rfl⟩))
  go_ret
  exact ⟨v, .nilIface, rfl, HEE.out, Below.refl _ _, .inl ⟨rfl, rfl, rfl⟩⟩
set_option maxHeartbeats 4000000 in
set_option maxRecDepth 100000 in
theorem whole_div (R E fo mode : Nat) (d : Int) (p v s : Nat) (w : World) (g1 : ¬ (0 : Int) ≤ d)
    (hR : w.heap[R]? = some (.cells #[.float .f32 p, .int .i64 d, .int .i8 mode, .func (.func fo) #[] #[]] 50 (0, 0))) (hEE : w.heap[E]? = some (.cells #[.nilIface] 39 (0, 0)))
    (hv : (Ieee.single.read v).isNaN = false) (hvi : (Ieee.single.read v).isInfinity = false) (hs : Ieee.single.div v p = some s) (hsl : s < 4294967296) (hsn : (Ieee.single.read s).isNaN = false) (hfl : fl .down (up s) = up s) (hsub : Ieee.single.sub s s = some 0) :
    Calls Tryd.prog 20 #[.pointer (some ⟨R, 0, none⟩), .float .f32 v, .pointer (some ⟨E, 0, none⟩)] w (CallP E w fun out ok => out = v ∧ ok = true) := by
  have c0 : w.cell? ⟨R, 0, none⟩ = some (.float .f32 p) := (cell_of_row' hR 0).trans rfl
  have c1 : w.cell? ⟨R, 1, none⟩ = some (.int .i64 d) := (cell_of_row' hR 1).trans rfl
  have c2 : w.cell? ⟨R, 2, none⟩ = some (.int .i8 mode) := (cell_of_row' hR 2).trans rfl
  have c3 : w.cell? ⟨R, 3, none⟩ = some (.func (.func fo) #[] #[]) := (cell_of_row' hR 3).trans rfl
  have HEE := Aside0.mk hEE
  have HED := Aside0.mk (show w.drew.heap[E]? = some (.cells #[.nilIface] 39 (0, 0)) from hEE)
  have hElt := blk_lt hEE
  obtain ⟨xv, hxv⟩ : ∃ xv, xv = up v := ⟨_, rfl⟩
  have u1 := run_up hv
  rw [← hxv] at u1
  have i1 : (FloatKind.f64.format.order (xv % 9223372036854775808) 9218868437227405311 == some Ordering.gt) = false := by rw [hxv]; exact (inf_test _).trans ((up_class v hv).2.trans hvi)
  have i2 : (FloatKind.f64.format.order xv xv != some Ordering.eq) = false := by rw [hxv]; exact (nan_test _).trans (up_class v hv).1
  have HI := Aside0.mk (fun W => isInf7 xv (by rw [hxv]; exact up_lt hv) W)
  have HN := Aside0.mk (fun W => isNaN8 xv W)
  clear hxv hv hvi
  obtain ⟨xs, hxs⟩ : ∃ xs, xs = up s := ⟨_, rfl⟩
  have u2 := run_up hsn
  rw [← hxs] at u2
  have HF := Aside0.mk (fun W => floor15 xs (by rw [hxs]; exact (up_class s hsn).1) W)
  rw [← hxs] at hfl
  rw [hfl] at HF
  have u3 := run_dn_up hsl hsn
  rw [← hxs] at u3
  have a1 := fdiv32 hs 26
  have a2 := fsub32 hsub 26
  have t0 : (FloatKind.f32.format.order 0 0 == some Ordering.eq) = true := by decide
  clear hR hEE hs hsl hsn hfl hsub hxs
  go_enter Tryd.func20, Tryd.ntmps20
  go_wp2_with (first | (go_at_call_of 7 xv; refine Calls.mono (HI.out _) ?_; rintro r w1 ⟨rfl, rfl⟩) | (go_at_call_of 8 xv; refine Calls.mono (HN.out _) ?_; rintro r w1 ⟨rfl, rfl⟩) | (go_at_call_of 15 xs; refine Calls.mono (HF.out _) ?_; rintro r w1 ⟨rfl, rfl⟩))
  go_ret
  exact ⟨v, .nilIface, rfl, HEE.out, Below.refl _ _, .inl ⟨rfl, rfl, rfl⟩⟩
set_option maxHeartbeats 4000000 in
set_option maxRecDepth 100000 in
theorem inf_pos (R E fo mode : Nat) (d : Int) (p v s q : Nat) (sg_ : Bool) (w : World) (hd : 0 < d) (hm4 : mode < 4 → CloI fo) (hE : ∀ (args : Array Value) (w : World), Sem.run Tryd.prog (callFunc fo args) w = .ok (.enter fo args) w)
    (hR : w.heap[R]? = some (.cells #[.float .f32 p, .int .i64 d, .int .i8 mode, .func (.func fo) #[] #[]] 50 (0, 0))) (hEE : w.heap[E]? = some (.cells #[.nilIface] 39 (0, 0)))
    (hv : (Ieee.single.read v).isNaN = false) (hvi : (Ieee.single.read v).isInfinity = false) (hs : Ieee.single.mul v p = some s) (hsl : s < 4294967296) (hsi : Ieee.single.read s = .infinity sg_) (hq : Ieee.single.div s p = some q) (hqn : (Ieee.single.read q).isNaN = false) (hqi : (Ieee.single.read q).isInfinity = true) :
    Calls Tryd.prog 20 #[.pointer (some ⟨R, 0, none⟩), .float .f32 v, .pointer (some ⟨E, 0, none⟩)] w (CallP E w fun out ok => ok = false) := by
  have c0 : w.cell? ⟨R, 0, none⟩ = some (.float .f32 p) := (cell_of_row' hR 0).trans rfl
  have c1 : w.cell? ⟨R, 1, none⟩ = some (.int .i64 d) := (cell_of_row' hR 1).trans rfl
  have c2 : w.cell? ⟨R, 2, none⟩ = some (.int .i8 mode) := (cell_of_row' hR 2).trans rfl
  have c3 : w.cell? ⟨R, 3, none⟩ = some (.func (.func fo) #[] #[]) := (cell_of_row' hR 3).trans rfl
  have HEE := Aside0.mk hEE
  have HED := Aside0.mk (show w.drew.heap[E]? = some (.cells #[.nilIface] 39 (0, 0)) from hEE)
  have hElt := blk_lt hEE
  obtain ⟨xv, hxv⟩ : ∃ xv, xv = up v := ⟨_, rfl⟩
  have u1 := run_up hv
  rw [← hxv] at u1
  have i1 : (FloatKind.f64.format.order (xv % 9223372036854775808) 9218868437227405311 == some Ordering.gt) = false := by rw [hxv]; exact (inf_test _).trans ((up_class v hv).2.trans hvi)
  have i2 : (FloatKind.f64.format.order xv xv != some Ordering.eq) = false := by rw [hxv]; exact (nan_test _).trans (up_class v hv).1
  have HI := Aside0.mk (fun W => isInf7 xv (by rw [hxv]; exact up_lt hv) W)
  have HN := Aside0.mk (fun W => isNaN8 xv W)
  clear hxv hv hvi
  obtain ⟨xs, hxs⟩ : ∃ xs, xs = up s := ⟨_, rfl⟩
  have hsn := inf_nn hsi
  have u2 := run_up hsn
  rw [← hxs] at u2
  have HF := Aside0.mk (fun W => floor15 xs (by rw [hxs]; exact (up_class s hsn).1) W)
  have hfl := fl_inf .down hsi
  rw [← hxs] at hfl
  rw [hfl] at HF
  have HRO := Aside0.mk (fun W => round42 xs (by rw [hxs]; exact up_lt hsn) W)
  have hgr := goRound_inf hsi
  rw [← hxs] at hgr
  rw [hgr] at HRO
  have u3 := run_dn_up hsl hsn
  rw [← hxs] at u3
  have a1 := fmul32 hs 26
  have a3 := fdiv32 hq 26
  obtain ⟨y, u4, yn⟩ := run_sub_inf hsi w
  have t0 : (FloatKind.f32.format.order y 0 == some Ordering.eq) = false := nan_cmp yn 0
  have t5 : (FloatKind.f32.format.order y 1056964608 != some Ordering.eq) = true := by
    have := nan_cmp yn 1056964608
    show (!(FloatKind.f32.format.order y 1056964608 == some Ordering.eq)) = true
    rw [show (FloatKind.f32.format.order y 1056964608 == some Ordering.eq) = false from this]
    rfl
  obtain ⟨x1, hx1⟩ : ∃ x, x = up q := ⟨_, rfl⟩
  have u5 := run_up hqn
  rw [← hx1] at u5
  have i3 : (FloatKind.f64.format.order (x1 % 9223372036854775808) 9218868437227405311 == some Ordering.gt) = true := by rw [hx1]; exact (inf_test _).trans ((up_class q hqn).2.trans hqi)
  have HI1 := Aside0.mk (fun W => isInf7 x1 (by rw [hx1]; exact up_lt hqn) W)
  have g1 : (0 : Int) ≤ d := by omega
  have g2 : (0 : Int) < d := hd
  by_cases h4 : 4 ≤ mode
  · have hmI : (4 : Int) ≤ (mode : Int) := by omega
    clear hm4 hR hEE hs hq hqn hqi hsn hfl hgr hxs hx1 yn hsi
    go_enter Tryd.func20, Tryd.ntmps20
    go_wp2_with (first | (go_at_call_of 7 xv; refine Calls.mono (HI.out _) ?_; rintro r w1 ⟨rfl, rfl⟩) | (go_at_call_of 8 xv; refine Calls.mono (HN.out _) ?_; rintro r w1 ⟨rfl, rfl⟩) | (go_at_call_of 15 xs; refine Calls.mono (HF.out _) ?_; rintro r w1 ⟨rfl, rfl⟩) | (go_at_call_of 42 xs; refine Calls.mono (HRO.out _) ?_; rintro r w1 ⟨rfl, rfl⟩) | (go_at_call_of 7 x1; refine Calls.mono (HI1.out _) ?_; rintro r w1 ⟨rfl, rfl⟩) | (go_at_call 43; refine Calls.mono (new43' E _ _ HED.out) ?_; rintro r w1 ⟨nb, rfl, ze, zb⟩; have ce : w1.cell? ⟨E, 0, none⟩ = some .nilIface := (cell_of_row' ze 0).trans rfl; have fe := blk_frozen' ze 0; have ZE := Aside0.mk (blk_put (cs := #[.nilIface]) ze 0 (.iface 67 (.pointer (some ⟨nb, 0, none⟩))) rfl); have ZB := Aside0.mk (Below.setCell (p := ⟨E, 0, none⟩) ((Below.refl E _).drew.trans zb) (Nat.le_refl E) (.iface 67 (.pointer (some ⟨nb, 0, none⟩)))); clear ze zb))
    go_ret
    exact ⟨v, _, rfl, ZE.out, ZB.out, .inr ⟨⟨_, rfl⟩, rfl⟩⟩
  · have hmI : ¬ (4 : Int) ≤ (mode : Int) := by omega
    have HCL := Aside0.mk (fun W => hm4 (by omega) s sg_ hsl hsi W)
    clear hm4 hR hEE hs hq hqn hqi hsn hfl hgr hxs hx1 yn hsi
    go_enter Tryd.func20, Tryd.ntmps20
    go_wp2_with (first | (go_at_call_of 7 xv; refine Calls.mono (HI.out _) ?_; rintro r w1 ⟨rfl, rfl⟩) | (go_at_call_of 8 xv; refine Calls.mono (HN.out _) ?_; rintro r w1 ⟨rfl, rfl⟩) | (go_at_call_of 15 xs; refine Calls.mono (HF.out _) ?_; rintro r w1 ⟨rfl, rfl⟩) | (go_at_call_of 42 xs; refine Calls.mono (HRO.out _) ?_; rintro r w1 ⟨rfl, rfl⟩) | (go_at_call_of 7 x1; refine Calls.mono (HI1.out _) ?_; rintro r w1 ⟨rfl, rfl⟩) | (go_at_call 43; refine Calls.mono (new43' E _ _ HED.out) ?_; rintro r w1 ⟨nb, rfl, ze, zb⟩; have ce : w1.cell? ⟨E, 0, none⟩ = some .nilIface := (cell_of_row' ze 0).trans rfl; have fe := blk_frozen' ze 0; have ZE := Aside0.mk (blk_put (cs := #[.nilIface]) ze 0 (.iface 67 (.pointer (some ⟨nb, 0, none⟩))) rfl); have ZB := Aside0.mk (Below.setCell (p := ⟨E, 0, none⟩) ((Below.refl E _).drew.trans zb) (Nat.le_refl E) (.iface 67 (.pointer (some ⟨nb, 0, none⟩)))); clear ze zb) | (refine Calls.mono (HCL.out _) ?_; rintro r w1 ⟨rfl, rfl⟩))
    go_ret
    exact ⟨v, _, rfl, ZE.out, ZB.out, .inr ⟨⟨_, rfl⟩, rfl⟩⟩
set_option maxHeartbeats 4000000 in
set_option maxRecDepth 100000 in
theorem inf_zero (R E fo mode : Nat) (d : Int) (p v s q : Nat) (sg_ : Bool) (w : World) (hd : d = 0) (hm4 : mode < 4 → CloI fo) (hE : ∀ (args : Array Value) (w : World), Sem.run Tryd.prog (callFunc fo args) w = .ok (.enter fo args) w)
    (hR : w.heap[R]? = some (.cells #[.float .f32 p, .int .i64 d, .int .i8 mode, .func (.func fo) #[] #[]] 50 (0, 0))) (hEE : w.heap[E]? = some (.cells #[.nilIface] 39 (0, 0)))
    (hv : (Ieee.single.read v).isNaN = false) (hvi : (Ieee.single.read v).isInfinity = false) (hs : Ieee.single.mul v p = some s) (hsl : s < 4294967296) (hsi : Ieee.single.read s = .infinity sg_) (hq : Ieee.single.mul s p = some q) (hqn : (Ieee.single.read q).isNaN = false) (hqi : (Ieee.single.read q).isInfinity = true) :
    Calls Tryd.prog 20 #[.pointer (some ⟨R, 0, none⟩), .float .f32 v, .pointer (some ⟨E, 0, none⟩)] w (CallP E w fun out ok => ok = false) := by
  have c0 : w.cell? ⟨R, 0, none⟩ = some (.float .f32 p) := (cell_of_row' hR 0).trans rfl
  have c1 : w.cell? ⟨R, 1, none⟩ = some (.int .i64 d) := (cell_of_row' hR 1).trans rfl
  have c2 : w.cell? ⟨R, 2, none⟩ = some (.int .i8 mode) := (cell_of_row' hR 2).trans rfl
  have c3 : w.cell? ⟨R, 3, none⟩ = some (.func (.func fo) #[] #[]) := (cell_of_row' hR 3).trans rfl
  have HEE := Aside0.mk hEE
  have HED := Aside0.mk (show w.drew.heap[E]? = some (.cells #[.nilIface] 39 (0, 0)) from hEE)
  have hElt := blk_lt hEE
  obtain ⟨xv, hxv⟩ : ∃ xv, xv = up v := ⟨_, rfl⟩
  have u1 := run_up hv
  rw [← hxv] at u1
  have i1 : (FloatKind.f64.format.order (xv % 9223372036854775808) 9218868437227405311 == some Ordering.gt) = false := by rw [hxv]; exact (inf_test _).trans ((up_class v hv).2.trans hvi)
  have i2 : (FloatKind.f64.format.order xv xv != some Ordering.eq) = false := by rw [hxv]; exact (nan_test _).trans (up_class v hv).1
  have HI := Aside0.mk (fun W => isInf7 xv (by rw [hxv]; exact up_lt hv) W)
  have HN := Aside0.mk (fun W => isNaN8 xv W)
  clear hxv hv hvi
  obtain ⟨xs, hxs⟩ : ∃ xs, xs = up s := ⟨_, rfl⟩
  have hsn := inf_nn hsi
  have u2 := run_up hsn
  rw [← hxs] at u2
  have HF := Aside0.mk (fun W => floor15 xs (by rw [hxs]; exact (up_class s hsn).1) W)
  have hfl := fl_inf .down hsi
  rw [← hxs] at hfl
  rw [hfl] at HF
  have HRO := Aside0.mk (fun W => round42 xs (by rw [hxs]; exact up_lt hsn) W)
  have hgr := goRound_inf hsi
  rw [← hxs] at hgr
  rw [hgr] at HRO
  have u3 := run_dn_up hsl hsn
  rw [← hxs] at u3
  have a1 := fmul32 hs 26
  have a3 := fmul32 hq 26
  obtain ⟨y, u4, yn⟩ := run_sub_inf hsi w
  have t0 : (FloatKind.f32.format.order y 0 == some Ordering.eq) = false := nan_cmp yn 0
  have t5 : (FloatKind.f32.format.order y 1056964608 != some Ordering.eq) = true := by
    have := nan_cmp yn 1056964608
    show (!(FloatKind.f32.format.order y 1056964608 == some Ordering.eq)) = true
    rw [show (FloatKind.f32.format.order y 1056964608 == some Ordering.eq) = false from this]
    rfl
  obtain ⟨x1, hx1⟩ : ∃ x, x = up q := ⟨_, rfl⟩
  have u5 := run_up hqn
  rw [← hx1] at u5
  have i3 : (FloatKind.f64.format.order (x1 % 9223372036854775808) 9218868437227405311 == some Ordering.gt) = true := by rw [hx1]; exact (inf_test _).trans ((up_class q hqn).2.trans hqi)
  have HI1 := Aside0.mk (fun W => isInf7 x1 (by rw [hx1]; exact up_lt hqn) W)
  have g1 : (0 : Int) ≤ d := by omega
  have g2 : ¬ (0 : Int) < d := by omega
  by_cases h4 : 4 ≤ mode
  · have hmI : (4 : Int) ≤ (mode : Int) := by omega
    clear hm4 hR hEE hs hq hqn hqi hsn hfl hgr hxs hx1 yn hsi
    go_enter Tryd.func20, Tryd.ntmps20
    go_wp2_with (first | (go_at_call_of 7 xv; refine Calls.mono (HI.out _) ?_; rintro r w1 ⟨rfl, rfl⟩) | (go_at_call_of 8 xv; refine Calls.mono (HN.out _) ?_; rintro r w1 ⟨rfl, rfl⟩) | (go_at_call_of 15 xs; refine Calls.mono (HF.out _) ?_; rintro r w1 ⟨rfl, rfl⟩) | (go_at_call_of 42 xs; refine Calls.mono (HRO.out _) ?_; rintro r w1 ⟨rfl, rfl⟩) | (go_at_call_of 7 x1; refine Calls.mono (HI1.out _) ?_; rintro r w1 ⟨rfl, rfl⟩) | (go_at_call 43; refine Calls.mono (new43' E _ _ HED.out) ?_; rintro r w1 ⟨nb, rfl, ze, zb⟩; have ce : w1.cell? ⟨E, 0, none⟩ = some .nilIface := (cell_of_row' ze 0).trans rfl; have fe := blk_frozen' ze 0; have ZE := Aside0.mk (blk_put (cs := #[.nilIface]) ze 0 (.iface 67 (.pointer (some ⟨nb, 0, none⟩))) rfl); have ZB := Aside0.mk (Below.setCell (p := ⟨E, 0, none⟩) ((Below.refl E _).drew.trans zb) (Nat.le_refl E) (.iface 67 (.pointer (some ⟨nb, 0, none⟩)))); clear ze zb))
    go_ret
    exact ⟨v, _, rfl, ZE.out, ZB.out, .inr ⟨⟨_, rfl⟩, rfl⟩⟩
  · have hmI : ¬ (4 : Int) ≤ (mode : Int) := by omega
    have HCL := Aside0.mk (fun W => hm4 (by omega) s sg_ hsl hsi W)
    clear hm4 hR hEE hs hq hqn hqi hsn hfl hgr hxs hx1 yn hsi
    go_enter Tryd.func20, Tryd.ntmps20
    go_wp2_with (first | (go_at_call_of 7 xv; refine Calls.mono (HI.out _) ?_; rintro r w1 ⟨rfl, rfl⟩) | (go_at_call_of 8 xv; refine Calls.mono (HN.out _) ?_; rintro r w1 ⟨rfl, rfl⟩) | (go_at_call_of 15 xs; refine Calls.mono (HF.out _) ?_; rintro r w1 ⟨rfl, rfl⟩) | (go_at_call_of 42 xs; refine Calls.mono (HRO.out _) ?_; rintro r w1 ⟨rfl, rfl⟩) | (go_at_call_of 7 x1; refine Calls.mono (HI1.out _) ?_; rintro r w1 ⟨rfl, rfl⟩) | (go_at_call 43; refine Calls.mono (new43' E _ _ HED.out) ?_; rintro r w1 ⟨nb, rfl, ze, zb⟩; have ce : w1.cell? ⟨E, 0, none⟩ = some .nilIface := (cell_of_row' ze 0).trans rfl; have fe := blk_frozen' ze 0; have ZE := Aside0.mk (blk_put (cs := #[.nilIface]) ze 0 (.iface 67 (.pointer (some ⟨nb, 0, none⟩))) rfl); have ZB := Aside0.mk (Below.setCell (p := ⟨E, 0, none⟩) ((Below.refl E _).drew.trans zb) (Nat.le_refl E) (.iface 67 (.pointer (some ⟨nb, 0, none⟩)))); clear ze zb) | (refine Calls.mono (HCL.out _) ?_; rintro r w1 ⟨rfl, rfl⟩))
    go_ret
    exact ⟨v, _, rfl, ZE.out, ZB.out, .inr ⟨⟨_, rfl⟩, rfl⟩⟩
set_option maxHeartbeats 4000000 in
set_option maxRecDepth 100000 in
theorem inf_neg (R E fo mode : Nat) (d : Int) (p v s q : Nat) (sg_ : Bool) (w : World) (hd : d < 0) (hm4 : mode < 4 → CloI fo) (hE : ∀ (args : Array Value) (w : World), Sem.run Tryd.prog (callFunc fo args) w = .ok (.enter fo args) w)
    (hR : w.heap[R]? = some (.cells #[.float .f32 p, .int .i64 d, .int .i8 mode, .func (.func fo) #[] #[]] 50 (0, 0))) (hEE : w.heap[E]? = some (.cells #[.nilIface] 39 (0, 0)))
    (hv : (Ieee.single.read v).isNaN = false) (hvi : (Ieee.single.read v).isInfinity = false) (hs : Ieee.single.div v p = some s) (hsl : s < 4294967296) (hsi : Ieee.single.read s = .infinity sg_) (hq : Ieee.single.mul s p = some q) (hqn : (Ieee.single.read q).isNaN = false) (hqi : (Ieee.single.read q).isInfinity = true) :
    Calls Tryd.prog 20 #[.pointer (some ⟨R, 0, none⟩), .float .f32 v, .pointer (some ⟨E, 0, none⟩)] w (CallP E w fun out ok => ok = false) := by
  have c0 : w.cell? ⟨R, 0, none⟩ = some (.float .f32 p) := (cell_of_row' hR 0).trans rfl
  have c1 : w.cell? ⟨R, 1, none⟩ = some (.int .i64 d) := (cell_of_row' hR 1).trans rfl
  have c2 : w.cell? ⟨R, 2, none⟩ = some (.int .i8 mode) := (cell_of_row' hR 2).trans rfl
  have c3 : w.cell? ⟨R, 3, none⟩ = some (.func (.func fo) #[] #[]) := (cell_of_row' hR 3).trans rfl
  have HEE := Aside0.mk hEE
  have HED := Aside0.mk (show w.drew.heap[E]? = some (.cells #[.nilIface] 39 (0, 0)) from hEE)
  have hElt := blk_lt hEE
  obtain ⟨xv, hxv⟩ : ∃ xv, xv = up v := ⟨_, rfl⟩
  have u1 := run_up hv
  rw [← hxv] at u1
  have i1 : (FloatKind.f64.format.order (xv % 9223372036854775808) 9218868437227405311 == some Ordering.gt) = false := by rw [hxv]; exact (inf_test _).trans ((up_class v hv).2.trans hvi)
  have i2 : (FloatKind.f64.format.order xv xv != some Ordering.eq) = false := by rw [hxv]; exact (nan_test _).trans (up_class v hv).1
  have HI := Aside0.mk (fun W => isInf7 xv (by rw [hxv]; exact up_lt hv) W)
  have HN := Aside0.mk (fun W => isNaN8 xv W)
  clear hxv hv hvi
  obtain ⟨xs, hxs⟩ : ∃ xs, xs = up s := ⟨_, rfl⟩
  have hsn := inf_nn hsi
  have u2 := run_up hsn
  rw [← hxs] at u2
  have HF := Aside0.mk (fun W => floor15 xs (by rw [hxs]; exact (up_class s hsn).1) W)
  have hfl := fl_inf .down hsi
  rw [← hxs] at hfl
  rw [hfl] at HF
  have HRO := Aside0.mk (fun W => round42 xs (by rw [hxs]; exact up_lt hsn) W)
  have hgr := goRound_inf hsi
  rw [← hxs] at hgr
  rw [hgr] at HRO
  have u3 := run_dn_up hsl hsn
  rw [← hxs] at u3
  have a1 := fdiv32 hs 26
  have a3 := fmul32 hq 26
  obtain ⟨y, u4, yn⟩ := run_sub_inf hsi w
  have t0 : (FloatKind.f32.format.order y 0 == some Ordering.eq) = false := nan_cmp yn 0
  have t5 : (FloatKind.f32.format.order y 1056964608 != some Ordering.eq) = true := by
    have := nan_cmp yn 1056964608
    show (!(FloatKind.f32.format.order y 1056964608 == some Ordering.eq)) = true
    rw [show (FloatKind.f32.format.order y 1056964608 == some Ordering.eq) = false from this]
    rfl
  obtain ⟨x1, hx1⟩ : ∃ x, x = up q := ⟨_, rfl⟩
  have u5 := run_up hqn
  rw [← hx1] at u5
  have i3 : (FloatKind.f64.format.order (x1 % 9223372036854775808) 9218868437227405311 == some Ordering.gt) = true := by rw [hx1]; exact (inf_test _).trans ((up_class q hqn).2.trans hqi)
  have HI1 := Aside0.mk (fun W => isInf7 x1 (by rw [hx1]; exact up_lt hqn) W)
  have g1 : ¬ (0 : Int) ≤ d := by omega
  have g2 : ¬ (0 : Int) < d := by omega
  by_cases h4 : 4 ≤ mode
  · have hmI : (4 : Int) ≤ (mode : Int) := by omega
    clear hm4 hR hEE hs hq hqn hqi hsn hfl hgr hxs hx1 yn hsi
    go_enter Tryd.func20, Tryd.ntmps20
    go_wp2_with (first | (go_at_call_of 7 xv; refine Calls.mono (HI.out _) ?_; rintro r w1 ⟨rfl, rfl⟩) | (go_at_call_of 8 xv; refine Calls.mono (HN.out _) ?_; rintro r w1 ⟨rfl, rfl⟩) | (go_at_call_of 15 xs; refine Calls.mono (HF.out _) ?_; rintro r w1 ⟨rfl, rfl⟩) | (go_at_call_of 42 xs; refine Calls.mono (HRO.out _) ?_; rintro r w1 ⟨rfl, rfl⟩) | (go_at_call_of 7 x1; refine Calls.mono (HI1.out _) ?_; rintro r w1 ⟨rfl, rfl⟩) | (go_at_call 43; refine Calls.mono (new43' E _ _ HED.out) ?_; rintro r w1 ⟨nb, rfl, ze, zb⟩; have ce : w1.cell? ⟨E, 0, none⟩ = some .nilIface := (cell_of_row' ze 0).trans rfl; have fe := blk_frozen' ze 0; have ZE := Aside0.mk (blk_put (cs := #[.nilIface]) ze 0 (.iface 67 (.pointer (some ⟨nb, 0, none⟩))) rfl); have ZB := Aside0.mk (Below.setCell (p := ⟨E, 0, none⟩) ((Below.refl E _).drew.trans zb) (Nat.le_refl E) (.iface 67 (.pointer (some ⟨nb, 0, none⟩)))); clear ze zb))
    go_ret
    exact ⟨v, _, rfl, ZE.out, ZB.out, .inr ⟨⟨_, rfl⟩, rfl⟩⟩
  · have hmI : ¬ (4 : Int) ≤ (mode : Int) := by omega
    have HCL := Aside0.mk (fun W => hm4 (by omega) s sg_ hsl hsi W)
    clear hm4 hR hEE hs hq hqn hqi hsn hfl hgr hxs hx1 yn hsi
    go_enter Tryd.func20, Tryd.ntmps20
    go_wp2_with (first | (go_at_call_of 7 xv; refine Calls.mono (HI.out _) ?_; rintro r w1 ⟨rfl, rfl⟩) | (go_at_call_of 8 xv; refine Calls.mono (HN.out _) ?_; rintro r w1 ⟨rfl, rfl⟩) | (go_at_call_of 15 xs; refine Calls.mono (HF.out _) ?_; rintro r w1 ⟨rfl, rfl⟩) | (go_at_call_of 42 xs; refine Calls.mono (HRO.out _) ?_; rintro r w1 ⟨rfl, rfl⟩) | (go_at_call_of 7 x1; refine Calls.mono (HI1.out _) ?_; rintro r w1 ⟨rfl, rfl⟩) | (go_at_call 43; refine Calls.mono (new43' E _ _ HED.out) ?_; rintro r w1 ⟨nb, rfl, ze, zb⟩; have ce : w1.cell? ⟨E, 0, none⟩ = some .nilIface := (cell_of_row' ze 0).trans rfl; have fe := blk_frozen' ze 0; have ZE := Aside0.mk (blk_put (cs := #[.nilIface]) ze 0 (.iface 67 (.pointer (some ⟨nb, 0, none⟩))) rfl); have ZB := Aside0.mk (Below.setCell (p := ⟨E, 0, none⟩) ((Below.refl E _).drew.trans zb) (Nat.le_refl E) (.iface 67 (.pointer (some ⟨nb, 0, none⟩)))); clear ze zb) | (refine Calls.mono (HCL.out _) ?_; rintro r w1 ⟨rfl, rfl⟩))
    go_ret
    exact ⟨v, _, rfl, ZE.out, ZB.out, .inr ⟨⟨_, rfl⟩, rfl⟩⟩

end Go.Proofs.YtinfcoalicbcbaaDoor.Rd
