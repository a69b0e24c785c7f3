/- A start at which the three tables of powers of ten stand as their initialisers lay them. -/
import Derived.Test.YtinfcoalicbcbaaDoorRows
import Derived.Test.YtinfcoalicbcbaaDoorRf
import Derived.ProofKit
import Derived.LaidLaws
import Derived.Lib.LaidTab
namespace Go.Proofs.YtinfcoalicbcbaaDoor
open Go.RowKit
set_option linter.unusedVariables false
def pt : List Nat := [4607182418800017408, 4621819117588971520, 4636737291354636288, 4652007308841189376, 4666723172467343360, 4681608360884174848, 4696837146684686336, 4711630319722168320, 4726483295884279808, 4741671816366391296, 4756540486875873280, 4771362005757984768, 4786511204640096256, 4801453603149578240, 4816244402031689728, 4831355200913801216, 4846369599423283200, 4861130398305394688, 4876203697187506176, 4891288408196988160, 4906019910204099648, 4921056587992461136, 4936209963552724370, 4950912855330343670, 4965913770331839924, 4981134201117475473, 4995809153217856309, 5010775143622804482, 5026061058026967681, 5040708725286295329, 5055640609639927018, 5070927765361438756]
def pp : List Nat := [4607182418800017408, 5085611494797045271, 5564284217833028085, 6043257259031049059, 6521906365687930162, 7000496887210966211, 7479368607221621995, 7958223736346011545, 8436737289693151036, 8915514139102383430]
def pn : List Nat := [4607182418800017408, 4128101167230658355, 3649340653511681853, 3170840353250979498, 2691949749288605597, 2213095475689254516, 1734519108376626298, 1255832114822727210, 776877706278891331, 298220099847875929, 2024]
def floats {H : Type} (zs : List Nat) : DataW H := .agg (zs.map fun z => .lit (.float .f64 z))
def layFloats (zs : List Nat) : Obj → Obj
  | .cells _ t frozen => .cells (zs.map fun z => Value.float .f64 z).toArray t frozen
  | o => o
noncomputable def laid_world (os : Os) : World :=
  let w0 := World.holding Tryd.prog os ⟨#[], #[], []⟩
  { w0 with heap := ((w0.heap.modify 1 (layFloats pp)).modify 2 (layFloats pt)).modify 3 (layFloats pn) }
theorem laid_met (os : Os) (args : Array Value) : laidMet Tryd.prog [("math.pow10tab", Rows.laid_math_pow10tab), ("math.pow10postab32", Rows.laid_math_pow10postab32), ("math.pow10negtab32", Rows.laid_math_pow10negtab32)] ((laid_world os).forCall (fun _ _ => 0) ⟨#[], args, []⟩).memory :=
  laidMet_of_run' 8 (by kernel_rfl) (by kernel_rfl)
/-- What a float's cell reads as. -/
theorem float_cell {H : Type} {enc : TypeId × Value → H} {P : Program} {w : World} {base : Nat} {sp : Nat → Bool} {held : Bool} {fuel : Nat} {e : TypeId} {k : FloatKind} {cs : List Value} {x : DataW H × List MemPlace}
    (he : P.underlying e = some (.float k)) (h : DataW.trod enc P w base sp held fuel e cs = some x) : ∃ b, cs = [.float k b] ∧ x.1 = .lit (.float k b) := by
  cases fuel with
  | zero => simp [DataW.trod] at h
  | succ n =>
    unfold DataW.trod at h
    rw [he] at h
    split at h <;> simp_all
    all_goals (obtain ⟨_, rfl⟩ := h; rfl)
theorem floats_cell {H : Type} {enc : TypeId × Value → H} {P : Program} {w : World} {base : Nat} {sp : Nat → Bool} {held : Bool} {fuel : Nat} {t e : TypeId} {n : Nat} {cs : List Value} {zs : List Nat} {p : List MemPlace}
    (ht : P.underlying t = some (.array n e)) (he : P.underlying e = some (.float .f64)) (hce : P.cellsOf e = 1) (hct : P.cellsOf t = n)
    (h : DataW.trod enc P w base sp held fuel t cs = some (floats zs, p)) (i : Nat) (hi : i < zs.length) : cs[i]? = some (.float .f64 (zs.getD i 0)) := by
  cases fuel with
  | zero => simp [DataW.trod] at h
  | succ fuel =>
    simp only [DataW.trod, ht, hce, hct, Nat.mul_one] at h
    split at h
    · obtain ⟨xs, hm, hx⟩ := Option.map_eq_some_iff.1 h
      have hxs : xs.map (·.1) = zs.map fun z => (DataW.lit (.float .f64 z) : DataW H) := by
        have h2 := congrArg Prod.fst hx
        simpa [floats] using h2
      have hl := congrArg List.length hxs
      simp only [List.length_map] at hl
      have hn : xs.length = n := by simpa using Lib.mapM_length hm
      obtain ⟨b, hb, hf⟩ := Lib.mapM_at hm i i (by rw [List.getElem?_range (by omega)])
      obtain ⟨z, hc, hz⟩ := float_cell he hf
      have h3 : cs[i]? = some (.float .f64 z) := by
        have h4 := congrArg (·[0]?) hc
        simpa [List.getElem?_take, List.getElem?_drop] using h4
      have h5 := congrArg (·[i]?) hxs
      simp only [List.getElem?_map, hb, Option.map_some, hz] at h5
      rw [List.getElem?_eq_getElem hi] at h5
      simp only [Option.map_some, Option.some.injEq, DataW.lit.injEq, Lit.float.injEq, true_and] at h5
      rw [h3, h5]
      simp [List.getD, hi]
    · cases h
/-- The head of what is laid: its cells. -/
theorem head_cell {P : Program} {W : World} {name : String} {zs : List Nat} {rest : List (String × DataW Unit)} {g : Nat} {t e : TypeId} {n : Nat}
    (hg : P.globalNamed name = some g) (hty : (P.globals[g]?).map (·.type) = some t) (ht : P.underlying t = some (.array n e)) (he : P.underlying e = some (.float .f64)) (hce : P.cellsOf e = 1) (hct : P.cellsOf t = n)
    (h : laidMet P ((name, floats zs) :: rest) W) (i : Nat) (hi : i < zs.length) : W.cell? ⟨g, i, none⟩ = some (.float .f64 (zs.getD i 0)) := by
  obtain ⟨ps, ⟨g', t', cs, fuel, p, q, hg', ht', hvar, hd, _, _⟩, _⟩ := h
  obtain rfl := Option.some.inj (hg.symm.trans hg')
  obtain rfl := Option.some.inj (hty.symm.trans ht')
  have h2 := floats_cell ht he hce hct hd i hi
  have h3 := World.var?_cell hg hvar i
  rw [h3]
  simpa using h2
theorem laid_tail {P : Program} {W : World} {x : String × DataW Unit} {rest : List (String × DataW Unit)} (h : laidMet P (x :: rest) W) : laidMet P rest W := by
  obtain ⟨ps, ⟨g', t', cs, fuel, p, q, r1, r2, r3, r4, r5, r6⟩, r7, r8⟩ := h
  subst r6
  exact ⟨q, r5, (List.nodup_append.1 r7).2.1, fun b off hb => r8 b off (List.mem_append_right _ hb)⟩
theorem laid_tens {W : World} (h : laidMetH Tryd.prog [("math.pow10tab", Rows.laid_math_pow10tab), ("math.pow10postab32", Rows.laid_math_pow10postab32), ("math.pow10negtab32", Rows.laid_math_pow10negtab32)] W) : Rd.Tens W := by
  have h1 : laidMet Tryd.prog (("math.pow10tab", floats pt) :: ("math.pow10postab32", floats pp) :: [("math.pow10negtab32", floats pn)]) W := h
  have T1 := head_cell (g := 2) (t := 58) (e := 29) (n := 32) (by kernel_rfl) (by kernel_rfl) Tryd.underlying58 Tryd.underlying29 (by kernel_rfl) (by kernel_rfl) h1
  have T2 := head_cell (g := 1) (t := 56) (e := 29) (n := 10) (by kernel_rfl) (by kernel_rfl) Tryd.underlying56 Tryd.underlying29 (by kernel_rfl) (by kernel_rfl) (laid_tail h1)
  refine ⟨T2 0 (by decide), fun j hj => ?_⟩
  have hl : pt.length = 32 := rfl
  have h3 := T1 j (by omega)
  rw [h3]
  have e : ∀ j, j ≤ 10 → pt.getD j 0 = Rd.pw64.getD j 0 := by decide
  rw [e j hj]
end Go.Proofs.YtinfcoalicbcbaaDoor
