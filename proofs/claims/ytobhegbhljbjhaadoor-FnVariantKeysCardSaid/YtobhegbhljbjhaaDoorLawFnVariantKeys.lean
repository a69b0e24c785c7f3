/- The tied card of FnVariantKeys: for every input the law returns true and its arguments read as before; the two tables of package unicode/utf8 start as the program's text lays them. -/
import Derived.Test.YtobhegbhljbjhaaDoorCards
import Derived.Test.YtobhegbhljbjhaaDoorTie
import Derived.Test.YtobhegbhljbjhaaDoorLaid
import Derived.Test.YtobhegbhljbjhaaDoorKla
import Derived.Test.YtobhegbhljbjhaaDoorKz
import Derived.Deep.DeepHandedRow
import Derived.OpenVars
import Derived.ChangeMaps5
import Derived.OpenShut
import Derived.ChangeVars
import Derived.WalkKit
import Derived.ProofKit
import Derived.ShutString
import Derived.ChangeOld
import Derived.Below
import Derived.SizedLaws
namespace Go.Proofs.YtobhegbhljbjhaaDoor.fnVariantKeys
open Go.ChangeShapes Go.WideShapes Go.ChangeAt Go.RowKit Go.ChangeMaps
open Go.Proofs.YtobhegbhljbjhaaDoorW.PrintWords
open MVkS
set_option linter.unusedVariables false
theorem own : ownKnob Tryd.prog.godebug = none := by kernel_rfl
theorem laidOut : laidOutB Tryd.prog = true := by kernel_rfl
def v0 : Value := .agg #[.int .i64 0, .int .u64 0, .int .i64 0, .string ⟨#[]⟩, .slice none 0 0, .slice none 0 0]
def v1 : Value := .agg #[.int .i64 0, .int .i64 0, .bool false, .bool false, .bool false, .bool false, .slice none 0 0]
theorem reads (os : Os) {H : Type} (enc : TypeId × Value → H) : ∃ places, DataW.whole enc Tryd.prog ((laid_world os).forCall (fun _ _ => 0) ⟨#[], #[v0, v1, .string ⟨#[]⟩], []⟩).memory Tryd.f3.params.toList Rows.fnVariantKeysSpec.vars false #[v0, v1, .string ⟨#[]⟩].toList 8 = some ([.agg [.lit (.int .i64 0), .lit (.int .u64 0), .lit (.int .i64 0), .lit (.string []), .nil, .nil], .agg [.lit (.int .i64 0), .lit (.int .i64 0), .lit (.bool false), .lit (.bool false), .lit (.bool false), .lit (.bool false), .nil], .lit (.string [])], [], places) :=
  ⟨[], by kernel_rfl⟩
set_option maxRecDepth 100000 in
theorem lifted (os : Os) (started : os.Started) (H : Type) (enc : TypeId × Value → H) (F : Stop.Interp) :
    ReturnsInHanded {} Tryd.checked os 3 .any ((OpenSpec.ofChange Rows.fnVariantKeysSpec).preRow enc Tryd.prog Tryd.f3 Rows.fnVariantKeysRow.domain false Rows.fnVariantKeysRow.laid) (((OpenSpec.ofChange Rows.fnVariantKeysSpec).at F).post enc Tryd.prog Tryd.f3 false true false false) := by
  obtain ⟨places, hx⟩ := reads os enc
  refine returnsInHanded_of_row (C := Tryd.checked) (s := OpenSpec.ofChange Rows.fnVariantKeysSpec) own started (by kernel_rfl) Tryd.func3
    (witness_row_at (enc := enc) (C := Tryd.checked) false (laid_world os) #[v0, v1, .string ⟨#[]⟩] rfl (by kernel_rfl) (by kernel_rfl) (by kernel_rfl)
      (OpenSpec.preRow_of_cond 8 hx (by kernel_rfl) (fun k hk => by cases hk) (by kernel_rfl) (laid_met os _))) ?_
  intro W base args ds gs before hval0 hW hcnd _ hsz0 HLD _ _
  have hval : ∀ (j : Nat) t v, Tryd.f3.params[j]? = some t → args[j]? = some v → Value.okWide Tryd.prog W .any base t v := hval0
  have hW' := hW
  obtain ⟨p, q, hA0, hV, rfl, hfz, hnd⟩ := hW
  have hA : DataW.TrodAll enc Tryd.prog W 0 (fun _ => true) true Tryd.f3.params.toList args.toList ds p := hA0
  rw [Tryd.params3] at hA hval
  obtain ⟨u0, vs0, d0, ds0, p0, q0, hargs, rfl, rfl, h0, r0⟩ := trodAll_cons hA
  obtain ⟨u1, vs1, d1, ds1, p1, q1, rfl, rfl, rfl, h1, r1⟩ := trodAll_cons r0
  obtain ⟨u2, vs2, d2, ds2, p2, q2, rfl, rfl, rfl, h2, r2⟩ := trodAll_cons r1
  obtain ⟨rfl, rfl, rfl⟩ := trodAll_nil r2
  obtain rfl : args = #[u0, u1, u2] := by cases args; simp_all
  obtain ⟨rfl, rfl⟩ := trodVars_none hV
  obtain ⟨e0, rfl, -⟩ := okWide_struct Tryd.underlying26 (hval 0 26 u0 rfl rfl)
  obtain ⟨e1, rfl, -⟩ := okWide_struct Tryd.underlying28 (hval 1 28 u1 rfl rfl)
  obtain ⟨key, rfl, rfl, rfl, hks⟩ := open_string Tryd.underlying9 (hval 2 9 u2 rfl rfl) h2
  have k0 := h0
  have k1 := h1
  have lt0 : ∀ x ∈ p0, x.block < W.heap.size := by obtain ⟨m, hm⟩ := k0; exact DataW.trod_lt m _ _ _ hm
  have lt1 : ∀ x ∈ p1, x.block < W.heap.size := by obtain ⟨m, hm⟩ := k1; exact DataW.trod_lt m _ _ _ hm
  obtain ⟨fuel0, hf0⟩ := h0
  obtain ⟨x, hx26, hsm⟩ := Vk.open_variant fuel0 _ _ hf0
  obtain ⟨A4, c4, A5, c5, hcs0, l4, g4, l5, g5⟩ := k26_open hx26
  obtain ⟨fuel1, hf1⟩ := h1
  obtain ⟨a, b, s2, s3, s4, s5, A6, more, c6, hcs1, l6, g6, hms⟩ := Vk.open_ways hf1
  simp only [Value.cells] at hcs0 hcs1
  obtain rfl : e0 = #[.int .i64 x.f0, .int .u64 x.f1, .int .i64 x.f2, .string x.f3, .slice A4 x.f4.length c4, .slice A5 x.f5.length c5] := by cases e0; simp_all
  obtain rfl : e1 = #[.int .i64 a, .int .i64 b, .bool s2, .bool s3, .bool s4, .bool s5, .slice A6 more.length c6] := by cases e1; simp_all
  clear hA0 hval0 hsz0
  refine (Vk.law3 (SizeOf.sizeOf x) x (Vk.dep_size _ _ (Nat.le_refl _)) (hsm _) A4 c4 A5 c5 a b s2 s3 s4 s5 A6 c6 more key W (laid_tabs HLD) g4 l4 g5 l5 g6 l6 hms hks).mono fun e W' ⟨he, bel⟩ => ?_
  subst he
  exact ⟨_, rfl, _, _, _, [], _, [], hW', trodAll_mk1 (shut_bool Tryd.underlying4 _), (trodAll_cons_mk (Below.trod laidOut (by kernel_rfl) (of_decide_eq_true (by kernel_rfl)) k0 bel lt0) (trodAll_cons_mk (Below.trod laidOut (by kernel_rfl) (of_decide_eq_true (by kernel_rfl)) k1 bel lt1) (trodAll_cons_mk (shut_string Tryd.underlying9 hks) trodAll_mk0))), rfl, bel.frame _, fun h => by cases h⟩
theorem said : Rows.FnVariantKeysSaid :=
  OpenClaim.holds_of_cond 3 Tryd.f3 rfl rfl rfl rfl rfl rfl rfl ⟨rfl, rfl, rfl, rfl, rfl⟩ rfl rfl rfl rfl rfl (by kernel_rfl) Tryd.func3 (by kernel_rfl)
    (of_decide_eq_true (by kernel_rfl)) (by unfold Func.isWrapper; first | (rw [if_pos (by decide +kernel)]; kernel_rfl) | (rw [if_neg (by decide +kernel)]; exact ⟨rfl, rfl⟩))
    (fun os started H enc _ F => by rw [OpenClaim.pre_eq_preRow]; exact lifted os started H enc F)
theorem plain (f : FuncId) (fn : Func) (hf : Tryd.pinned.checked.prog.funcNamed Rows.fnVariantKeysRow.func = some f) (hfn : Tryd.pinned.checked.prog.funcs[f]? = some fn) :
    false = Tryd.pinned.checked.prog.looks [] ∧ ∀ (j : Nat) t, fn.params[j]? = some t → Tryd.pinned.checked.prog.wantsStandIn t = false := by
  obtain rfl : f = 3 := Option.some.inj ((show Tryd.prog.funcNamed Rows.fnVariantKeysRow.func = some 3 by kernel_rfl).symm.trans hf) |>.symm
  obtain rfl : fn = Tryd.f3 := (Option.some.inj (Tryd.func3.symm.trans hfn)).symm
  refine ⟨by kernel_rfl, fun j t ht => ?_⟩
  rw [Tryd.params3] at ht
  have hm := Array.mem_of_getElem? ht
  simp only [List.mem_toArray, List.mem_cons, List.not_mem_nil, or_false] at hm
  rcases hm with hm | hm | hm
  all_goals (subst hm; exact (show Tryd.prog.wantsStandIn _ = false by kernel_rfl))
/-- THE CARD. -/
theorem proved : Rows.FnVariantKeysCardSaid :=
  Claim7.holds_tied_plain_at .later [] _ _ _ _ said (fun _ h => by cases h) (by kernel_rfl) (fun _ h => by cases h) fnVariantKeys_row_tie rfl ⟨rfl, rfl⟩ (by kernel_rfl) rfl plain (by kernel_rfl)
#print axioms proved
end Go.Proofs.YtobhegbhljbjhaaDoor.fnVariantKeys
namespace Go.Proofs.YtobhegbhljbjhaaDoor
/-- The row's tied card, under a short name, for the claim. -/
theorem fnVariantKeys_holds : Rows.FnVariantKeysCardSaid := fnVariantKeys.proved
end Go.Proofs.YtobhegbhljbjhaaDoor
