/- The tied card of FnRoundFloat32: for every input the law returns true and its arguments read as before; its package-level variables start as the program's text lays them. -/
import Derived.Test.YtinfcoalicbcbaaDoorCards
import Derived.Test.YtinfcoalicbcbaaDoorTie
import Derived.Test.YtinfcoalicbcbaaDoorLaid
import Derived.Test.YtinfcoalicbcbaaDoorRp
import Derived.Deep.DeepHandedRow
import Derived.OpenVars
import Derived.OpenShut
import Derived.ChangeVars
import Derived.WalkKit
import Derived.ProofKit
import Derived.ShutString
import Derived.ChangeOld
import Derived.Below
import Derived.SizedLaws
namespace Go.Proofs.YtinfcoalicbcbaaDoor.fnRoundFloat32
open Go.ChangeShapes Go.WideShapes Go.ChangeAt Go.RowKit
set_option linter.unusedVariables false
theorem own : ownKnob Tryd.prog.godebug = none := by kernel_rfl
theorem laidOut : laidOutB Tryd.prog = true := by kernel_rfl
theorem reads (os : Os) {H : Type} (enc : TypeId × Value → H) : ∃ places, DataW.whole enc Tryd.prog ((laid_world os).forCall (fun _ _ => 0) ⟨#[], #[.int .u32 0, .int .i64 0, .int .i64 0], []⟩).memory Tryd.f3.params.toList Rows.fnRoundFloat32Spec.vars false #[.int .u32 0, .int .i64 0, .int .i64 0].toList 8 = some ([.lit (.int .u32 0), .lit (.int .i64 0), .lit (.int .i64 0)], [], places) :=
  ⟨[], by kernel_rfl⟩
set_option maxRecDepth 100000 in
theorem lifted (os : Os) (started : os.Started) (H : Type) (enc : TypeId × Value → H) (F : Stop.Interp) :
    ReturnsInHanded {} Tryd.checked os 3 .any ((OpenSpec.ofChange Rows.fnRoundFloat32Spec).preRow enc Tryd.prog Tryd.f3 Rows.fnRoundFloat32Row.domain false Rows.fnRoundFloat32Row.laid) (((OpenSpec.ofChange Rows.fnRoundFloat32Spec).at F).post enc Tryd.prog Tryd.f3 false true false false) := by
  obtain ⟨places, hx⟩ := reads os enc
  refine returnsInHanded_of_row (C := Tryd.checked) (s := OpenSpec.ofChange Rows.fnRoundFloat32Spec) own started (by kernel_rfl) Tryd.func3
    (witness_row_at (enc := enc) (C := Tryd.checked) false (laid_world os) #[.int .u32 0, .int .i64 0, .int .i64 0] rfl (by kernel_rfl) (by kernel_rfl) (by kernel_rfl)
      (OpenSpec.preRow_of_cond 8 hx (by kernel_rfl) (fun k hk => by cases hk) (by kernel_rfl) (laid_met os _))) ?_
  intro W base args ds gs before hval0 hW hcnd _ hsz0 HLD _ _
  have hval : ∀ (j : Nat) t v, Tryd.f3.params[j]? = some t → args[j]? = some v → Value.okWide Tryd.prog W .any base t v := hval0
  have hW' := hW
  obtain ⟨p, q, hA0, hV, rfl, hfz, hnd⟩ := hW
  have hA : DataW.TrodAll enc Tryd.prog W 0 (fun _ => true) true Tryd.f3.params.toList args.toList ds p := hA0
  rw [Tryd.params3] at hA hval
  obtain ⟨v0, vs0, d0, ds0, p0, q0, hargs, rfl, rfl, h0, r0⟩ := trodAll_cons hA
  obtain ⟨v1, vs1, d1, ds1, p1, q1, rfl, rfl, rfl, h1, r1⟩ := trodAll_cons r0
  obtain ⟨v2, vs2, d2, ds2, p2, q2, rfl, rfl, rfl, h2, r2⟩ := trodAll_cons r1
  obtain ⟨rfl, rfl, rfl⟩ := trodAll_nil r2
  obtain rfl : args = #[v0, v1, v2] := by cases args; simp_all
  obtain ⟨rfl, rfl⟩ := trodVars_none hV
  obtain ⟨a0, rfl, rfl, rfl, w0⟩ := open_int Tryd.underlying22 (hval 0 22 v0 rfl rfl) h0
  obtain ⟨a1, rfl, rfl, rfl, w1⟩ := open_int Tryd.underlying3 (hval 1 3 v1 rfl rfl) h1
  obtain ⟨a2, rfl, rfl, rfl, w2⟩ := open_int Tryd.underlying3 (hval 2 3 v2 rfl rfl) h2
  clear hA0 hval0 hsz0
  have r : IntKind.u32.min ≤ a0 ∧ a0 ≤ IntKind.u32.max := by simpa [Lit.wf] using w0
  have r0 : 0 ≤ a0 ∧ a0 < 4294967296 := by
    rw [show IntKind.u32.min = 0 from rfl, show IntKind.u32.max = 4294967295 from rfl] at r
    omega
  obtain ⟨b0, rfl⟩ := Int.eq_ofNat_of_zero_le r0.1
  refine (Rd.law3 b0 (by omega) a1 a2 W (laid_tens HLD)).mono fun e W' ⟨he, bel⟩ => ?_
  subst he
  exact ⟨_, rfl, _, _, _, [], _, [], hW', trodAll_mk1 (shut_bool Tryd.underlying4 _), (trodAll_cons_mk (shut_int Tryd.underlying22 w0) (trodAll_cons_mk (shut_int Tryd.underlying3 w1) (trodAll_cons_mk (shut_int Tryd.underlying3 w2) trodAll_mk0))), rfl, bel.frame _, fun h => by cases h⟩
theorem said : Rows.FnRoundFloat32Said :=
  OpenClaim.holds_of_cond 3 Tryd.f3 rfl rfl rfl rfl rfl rfl rfl ⟨rfl, rfl, rfl, rfl, rfl⟩ rfl rfl rfl rfl rfl (by kernel_rfl) Tryd.func3 (by kernel_rfl)
    (of_decide_eq_true (by kernel_rfl)) (by unfold Func.isWrapper; first | (rw [if_pos (by decide +kernel)]; kernel_rfl) | (rw [if_neg (by decide +kernel)]; exact ⟨rfl, rfl⟩))
    (fun os started H enc _ F => by rw [OpenClaim.pre_eq_preRow]; exact lifted os started H enc F)
theorem plain (f : FuncId) (fn : Func) (hf : Tryd.pinned.checked.prog.funcNamed Rows.fnRoundFloat32Row.func = some f) (hfn : Tryd.pinned.checked.prog.funcs[f]? = some fn) :
    false = Tryd.pinned.checked.prog.looks [] ∧ ∀ (j : Nat) t, fn.params[j]? = some t → Tryd.pinned.checked.prog.wantsStandIn t = false := by
  obtain rfl : f = 3 := Option.some.inj ((show Tryd.prog.funcNamed Rows.fnRoundFloat32Row.func = some 3 by kernel_rfl).symm.trans hf) |>.symm
  obtain rfl : fn = Tryd.f3 := (Option.some.inj (Tryd.func3.symm.trans hfn)).symm
  refine ⟨by kernel_rfl, fun j t ht => ?_⟩
  rw [Tryd.params3] at ht
  have hm := Array.mem_of_getElem? ht
  simp only [List.mem_toArray, List.mem_cons, List.not_mem_nil, or_false] at hm
  rcases hm with hm | hm | hm
  all_goals (subst hm; exact (show Tryd.prog.wantsStandIn _ = false by kernel_rfl))
/-- THE CARD. -/
theorem proved : Rows.FnRoundFloat32CardSaid :=
  Claim7.holds_tied_plain_at .later [] _ _ _ _ said (fun _ h => by cases h) (by kernel_rfl) (fun _ h => by cases h) fnRoundFloat32_row_tie rfl ⟨rfl, rfl⟩ (by kernel_rfl) rfl plain (by kernel_rfl)
#print axioms proved
end Go.Proofs.YtinfcoalicbcbaaDoor.fnRoundFloat32
namespace Go.Proofs.YtinfcoalicbcbaaDoor
/-- The row's tied card, under a short name, for the claim. -/
theorem fnRoundFloat32_holds : Rows.FnRoundFloat32CardSaid := fnRoundFloat32.proved
end Go.Proofs.YtinfcoalicbcbaaDoor
