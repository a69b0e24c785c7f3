/- FnPacked: what is written by steps are the numbers' bits, the lowest first, zero behind them; for every list of steps and every size. -/
import Derived.Test.YtmlfgolmdeignaaRows
import Derived.Test.YtmlfgolmdeignaaMFnPackedx1
import Derived.WalkKit
import Derived.ProofKit
import Derived.OpenShut
import Derived.ShutString
import Derived.ChangeOld
import Derived.Below
import Derived.SizedLaws
import Derived.Deep.Slices
import Derived.Deep.Fields
import Derived.ChangeSame
namespace Go.Proofs.Ytmlfgolmdeignaa.fnPacked
open Go.ChangeShapes Go.WideShapes Go.ChangeAt Go.RowKit Go.Deep
open Go.Proofs.YtmlfgolmdeignaaW.PrintWords
open MFnPacked
set_option linter.unusedVariables false
theorem same_self (l : List Int) : laws_sameBytes.f l l = some true := by
  unfold laws_sameBytes.f
  rw [beq_self_eq_true]
theorem awake : impl_Packed.f ([(⟨0, 5, 3⟩ : S28)] : List S28) 1 = some ([5], 1, true) := by decide
theorem written_some (l0 : List S28) (hr : ∀ x ∈ l0.map trip, Pk.Rng x) (hl : l0.length ≤ 9223372036854775807) : ∃ r, spec_Written.f l0 = some r ∧ (r.2 = true → ∃ q, Pk.foldW (0, 0) (l0.map trip) = some q ∧ r.1 = Pk.low ((q.2 + 7) / 8) q.1 ∧ l0.length ≤ 200) := by
  unfold spec_Written.f
  rw [if_pos ⟨hr, hl⟩]
  by_cases h : l0.length ≤ 200
  · rw [if_pos h]
    refine ⟨_, rfl, ?_⟩
    cases hs : Pk.foldW (0, 0) (l0.map trip) with
    | none => exact fun he => by cases he
    | some q => exact fun _ => ⟨q, rfl, rfl, h⟩
  · rw [if_neg h]
    exact ⟨_, rfl, fun he => by cases he⟩
theorem pure (l0 : List S28) (a1 : Int) (hr : ∀ x ∈ l0.map trip, Pk.Rng x) (hl : l0.length ≤ 9223372036854775807) : ∃ k, laws_FnPacked.f k l0 a1 = some true := by
  refine ⟨2, ?_⟩
  unfold laws_FnPacked.f
  by_cases hm : (l0.length : Int) > 2147483647
  · rw [if_pos hm]
  rw [if_neg hm, awake, Option.bind_some, if_pos rfl, if_pos rfl, same_self, Option.bind_some]
  obtain ⟨⟨want, is⟩, hw, hq⟩ := written_some l0 hr hl
  simp only [laws_FnPacked.j0]
  rw [hw, Option.bind_some]
  cases is with
  | false =>
    rw [if_neg (show ¬ (false = true) by decide)]
    simp only [laws_FnPacked.j1]
    rw [if_pos trivial]
  | true =>
    rw [if_pos rfl]
    by_cases h1 : a1 < (want.length : Int)
    · rw [if_pos h1]
      simp only [laws_FnPacked.j1]
      rw [if_pos trivial]
    · rw [if_neg h1]
      simp only [laws_FnPacked.j1]
      by_cases h2 : a1 > 4096
      · rw [decide_eq_true h2, if_pos rfl]
      · rw [decide_eq_false h2, if_neg (by decide)]
        obtain ⟨q, hf, hwant, h200⟩ := hq rfl
        simp only at hwant
        have hlen : want.length = (q.2 + 7) / 8 := by rw [hwant, Pk.low_len]
        obtain ⟨n, rfl⟩ := Int.eq_ofNat_of_zero_le (show 0 ≤ a1 by omega)
        obtain ⟨s, e1, e2, e3, e4⟩ := Pk.pack_law (N := n) hr hf (by omega)
        have hp : impl_Packed.f l0 (n : Int) = some (want ++ List.replicate (n - want.length) 0, (want.length : Int), true) := by
          unfold impl_Packed.f
          rw [if_pos ⟨by omega, by omega, by omega⟩, Int.toNat_natCast, e1]
          unfold impl_Packed.g
          simp only [e3, if_true]
          rw [e4, e2, hlen, hwant]
        have hsub : wrap64 ((n : Int) - (want.length : Int)) = ((n - want.length : Nat) : Int) := by unfold wrap64; omega
        rw [hp, Option.bind_some, if_pos rfl, if_pos rfl, Option.bind_some, hsub, if_pos (by simp; omega), Option.bind_some, if_pos (by omega), Int.toNat_natCast, if_pos (by simp; omega), List.nil_append, same_self, Option.bind_some, if_pos rfl]
theorem three {α : Type} : ∀ {l : List α}, l.length = 3 → ∃ a b c, l = [a, b, c]
  | [a, b, c], _ => ⟨a, b, c, rfl⟩
  | [], h => by simp at h
  | [_], h => by simp at h
  | [_, _], h => by simp at h
  | _ :: _ :: _ :: _ :: _, h => by simp at h
theorem own : ownKnob Try.prog.godebug = none := by kernel_rfl
theorem laidOut : laidOutB Try.prog = true := by kernel_rfl
section
variable {H : Type} {enc : TypeId × Value → H} {w : World} {base : Nat} {spare : Nat → Bool} {held : Bool}
/-- The steps that came in. -/
theorem open_steps {fuel : Nat} {cs : List Value} {x : DataW H × List MemPlace} (h : DataW.trod enc Try.prog w base spare held fuel 22 cs = some x) :
    ∃ (a : Option Addr) (zs : List S28) (cap : Nat), cs = [.slice a zs.length cap] ∧ zs.length ≤ cap ∧ cap ≤ maxLen ∧ Kd.C k28 w a zs.length zs ∧ ∀ z ∈ zs.map trip, Pk.Rng z := by
  rcases open_slice Try.underlying22 h with ⟨rfl, -⟩ | ⟨a, len, cap, m, n, D, Pl, rfl, hb, hl, hc, hm, hx, hi⟩
  · exact ⟨none, [], 0, rfl, Nat.le_refl _, Nat.zero_le _, Kd.C_nil _ _, fun z hz => by cases hz⟩
  · have hlm : len ≤ m := by
      rw [hm]
      split <;> omega
    have hc28 : Try.prog.cellsOf 28 = 3 := by kernel_rfl
    have hstep : ∀ i, i < len → ∃ z : S28, Pk.Rng (trip z) ∧ w.cell? (a.add (i * 3 + 0)) = some (.int .i64 z.f0) ∧ w.cell? (a.add (i * 3 + 1)) = some (.int .u64 z.f1) ∧ w.cell? (a.add (i * 3 + 2)) = some (.int .i64 z.f2) := by
      intro i hil
      obtain ⟨cs', hcs, ht⟩ := hi i (by omega)
      rw [hc28] at hcs
      obtain ⟨ys, n', -, -, hlen, hyl, hf⟩ := DataW.trod_struct Try.underlying28 ht
      obtain ⟨-, hcl, hat⟩ := World.cells?_some hcs
      obtain ⟨c0, c1, c2, rfl⟩ := three hcl
      obtain ⟨y0, y1, y2, rfl⟩ := three (show ys.length = 3 from hyl)
      have t0 : DataW.trod enc Try.prog w base spare held n' 3 (List.take (Try.prog.cellsOf 3) (List.drop 0 [c0, c1, c2])) = some y0 := hf 0 _ rfl
      have t1 : DataW.trod enc Try.prog w base spare held n' 26 (List.take (Try.prog.cellsOf 26) (List.drop 1 [c0, c1, c2])) = some y1 := hf 1 _ rfl
      have t2 : DataW.trod enc Try.prog w base spare held n' 3 (List.take (Try.prog.cellsOf 3) (List.drop 2 [c0, c1, c2])) = some y2 := hf 2 _ rfl
      rw [show Try.prog.cellsOf 3 = 1 by kernel_rfl] at t0 t2
      rw [show Try.prog.cellsOf 26 = 1 by kernel_rfl] at t1
      obtain ⟨n0, e0, -, w0⟩ := DataW.trod_int Try.underlying3 t0
      obtain ⟨n1, e1, -, w1⟩ := DataW.trod_int Try.underlying26 t1
      obtain ⟨n2, e2, -, w2⟩ := DataW.trod_int Try.underlying3 t2
      simp only [List.drop_zero, List.drop_succ_cons, List.take_succ_cons, List.take_zero, List.cons.injEq, and_true] at e0 e1 e2
      subst e0 e1 e2
      have h0 := hat 0 (by decide)
      have h1 := hat 1 (by decide)
      have h2 := hat 2 (by decide)
      rw [Go.Deep.add_add] at h0 h1 h2
      refine ⟨⟨n0, n1, n2⟩, ?_, h0, h1, h2⟩
      simp [Lit.wf, show IntKind.u64.min = 0 from by decide, show IntKind.u64.max = 18446744073709551615 from by decide, show IntKind.i64.min = -9223372036854775808 from by decide, show IntKind.i64.max = 9223372036854775807 from by decide] at w1 w2
      unfold Pk.Rng trip
      simp only
      omega
    obtain ⟨f, hfz⟩ : ∃ f : Nat → S28, ∀ i, i < len → Pk.Rng (trip (f i)) ∧ w.cell? (a.add (i * 3 + 0)) = some (.int .i64 (f i).f0) ∧ w.cell? (a.add (i * 3 + 1)) = some (.int .u64 (f i).f1) ∧ w.cell? (a.add (i * 3 + 2)) = some (.int .i64 (f i).f2) :=
      ⟨fun i => if h : i < len then (hstep i h).choose else z28, fun i h => by
        simp only [dif_pos h]
        exact (hstep i h).choose_spec⟩
    refine ⟨some a, (List.range len).map f, cap, by simp, by simpa using hl, hc, ⟨rfl, by unfold maxLen at hc; simp; omega, fun _ => ⟨a, rfl, fun j z hj => ?_⟩⟩, fun z hz => ?_⟩
    · have hjl : j < len := by
        have := (List.getElem?_eq_some_iff.1 hj).1
        simpa using this
      have hz : z = f j := by
        rw [List.getElem?_map, List.getElem?_range hjl] at hj
        exact (Option.some.inj hj).symm
      obtain ⟨-, c0, c1, c2⟩ := hfz j hjl
      subst hz
      refine ⟨_, rfl, k28_mk w (f j), fun i u hu => ?_⟩
      show w.cell? (a.add (j * 3 + i)) = some u
      match i, hu with
      | 0, hu => exact c0.trans hu
      | 1, hu => exact c1.trans hu
      | 2, hu => exact c2.trans hu
    · obtain ⟨x, hx, rfl⟩ := List.mem_map.1 hz
      obtain ⟨i, hi2, rfl⟩ := List.mem_map.1 hx
      exact (hfz i (List.mem_range.1 hi2)).1
end
set_option maxRecDepth 100000 in
theorem lifted (os : Os) (started : os.Started) (H : Type) (enc : TypeId × Value → H) :
    ReturnsInHanded {} Try.checked os 3 .any (Rows.fnPackedSpec.pre6 enc Try.prog Try.f3 Rows.fnPackedRow.domain false) (Rows.fnPackedSpec.post enc Try.prog Try.f3 false true false false) := by
  refine returnsInHanded_of_change_sized (C := Try.checked) own started (by kernel_rfl) Try.func3
    (ChangeSpec.witness6 (enc := enc) (C := Try.checked) false ⟨#[], #[.slice none 0 0, .int .i64 0], []⟩ 8 (by kernel_rfl) (by kernel_rfl) (by kernel_rfl) (by kernel_rfl)) ?_
  intro W base args ds gs before hval0 hW hcnd hsz0 _
  have hval : ∀ (j : Nat) t v, Try.f3.params[j]? = some t → args[j]? = some v → Value.okWide Try.prog W .any base t v := hval0
  have hW' := hW
  obtain ⟨p, q, hA0, hV, rfl, hfz, hnd⟩ := hW
  have hA : DataW.TrodAll enc Try.prog W 0 (fun _ => true) true Try.f3.params.toList args.toList ds p := hA0
  rw [Try.params3] at hA hval
  obtain ⟨v0, vs0, d0, ds0, p0, q0, hargs, rfl, rfl, h0, r0⟩ := trodAll_cons hA
  obtain ⟨v1, vs1, d1, ds1, p1, q1, rfl, rfl, rfl, h1, r1⟩ := trodAll_cons r0
  obtain ⟨rfl, rfl, rfl⟩ := trodAll_nil r1
  obtain rfl : args = #[v0, v1] := by cases args; simp_all
  obtain ⟨rfl, rfl⟩ := trodVars_none hV
  obtain ⟨a0, len0, cap0, rfl⟩ := okWide_slice Try.underlying22 (hval 0 22 v0 rfl rfl)
  have k0 := h0
  have lt0 : ∀ x ∈ p0, x.block < W.heap.size := by obtain ⟨m, hm⟩ := k0; exact DataW.trod_lt m _ _ _ hm
  obtain ⟨fuel, hf⟩ := h0
  obtain ⟨a, zs, cap, hcs, hl, hc, hr0, hrg⟩ := open_steps hf
  simp [Value.cells] at hcs
  obtain ⟨rfl, rfl, rfl⟩ := hcs
  obtain ⟨a1, rfl, rfl, rfl, w1⟩ := open_int Try.underlying3 (hval 1 3 v1 rfl rfl) h1
  clear hA0 hval0 hsz0
  unfold maxLen at hc
  obtain ⟨k, hk⟩ := pure zs a1 hrg (by omega)
  refine (laws_FnPacked.calls k _ _ zs a1 true W hr0 hl hk).mono fun e W' ⟨he, bel⟩ => ?_
  subst he
  exact ⟨_, rfl, _, _, _, [], _, [], hW', trodAll_mk1 (shut_bool Try.underlying4 _), (trodAll_cons_mk (Below.trod laidOut (by kernel_rfl) (of_decide_eq_true (by kernel_rfl)) k0 bel lt0) (trodAll_cons_mk (shut_int Try.underlying3 w1) trodAll_mk0)), rfl, bel.frame _, fun h => by cases h⟩
theorem over : Rows.fnPackedRow.holds Try.pinned (OpenSpec.ofChange Rows.fnPackedSpec) :=
  OpenClaim.holds_of_wide 3 Try.f3 rfl rfl rfl rfl rfl rfl rfl ⟨rfl, rfl, rfl, rfl, rfl⟩ rfl rfl rfl rfl rfl (by kernel_rfl) Try.func3 (by kernel_rfl)
    (of_decide_eq_true (by kernel_rfl)) (by unfold Func.isWrapper; first | (rw [if_pos (by decide +kernel)]; kernel_rfl) | (rw [if_neg (by decide +kernel)]; exact ⟨rfl, rfl⟩))
    (fun os started H enc _ => lifted os started H enc)
theorem proved : Rows.FnPackedSaid := over
#print axioms proved
end Go.Proofs.Ytmlfgolmdeignaa.fnPacked
namespace Go.Proofs.Ytmlfgolmdeignaa
/-- The row, under a short name, for the claim. -/
theorem fnPacked_holds : Rows.FnPackedSaid := fnPacked.proved
end Go.Proofs.Ytmlfgolmdeignaa
