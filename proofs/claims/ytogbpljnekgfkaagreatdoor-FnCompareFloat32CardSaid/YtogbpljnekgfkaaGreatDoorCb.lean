/- The bits of a bitmap are set by the program's own functions. -/
import Derived.Test.YtogbpljnekgfkaaGreatDoorC0
namespace Go.Proofs.YtogbpljnekgfkaaGreatDoor.Cm
open Go.RowKit Go.IntWalk Go.Proofs.YtogbpljnekgfkaaGreatDoorW.PrintWords Go.Proofs.YtogbpljnekgfkaaGreatDoorW.PrintLast Go.Proofs.YtogbpljnekgfkaaGreatDoorW.PrintMore
attribute [local go_sem] max2_int min2_int max_two min_two max_three min_three max_four min_four
set_option linter.unusedVariables false
set_option linter.unusedSimpArgs false
set_option maxRecDepth 100000 in
theorem setBit (ob o m c p q r : Nat) (X : Array Value) (D : List Int) (w : World) (hd : w.heap[ob]? = some (.cells (rowX X D) 5 (0, 0))) (T : Tabs w) (hq : q = p / 8) (hr : r = p % 8) (hp : q < m) (hm : o + m ≤ D.length) (hs : p ≤ 100000) :
    Calls Tryz.prog 106 #[.slice (some ⟨ob, o, none⟩) m c, .int .i64 p] w fun e w' => e = .returned (.tuple #[]) ∧ w' = w.drew.setCell ⟨ob, o + q, none⟩ (.int .u8 (setI (D.getD (o + q) 0) r true)) := by
  have e1 : IntKind.u64.wrap (p : Int) = p := by rw [IntKind.wrap_u64]; omega
  have e2 : (p : Int) / 8 = (q : Int) := by omega
  have e3 : Int.tmod (IntKind.u8.wrap (p : Int)) 8 = (r : Int) := by
    rw [IntKind.wrap_u8, Int.tmod_eq_emod_of_nonneg (by omega)]
    omega
  have hr8 : r < 8 := by omega
  have e4 : IntKind.u64.wrap (q : Int) = q := by rw [IntKind.wrap_u64]; omega
  have e5 : IntKind.u8.wrap (r : Int) = r := by rw [IntKind.wrap_u8]; omega
  obtain ⟨x, hx⟩ : ∃ x, x = D.getD (o + q) 0 := ⟨_, rfl⟩
  obtain ⟨y, hy⟩ : ∃ y, y = msk.getD r 0 := ⟨_, rfl⟩
  have c1 : w.cell? ⟨ob, o + q, none⟩ = some (.int .u8 x) := by rw [hx]; exact (cell_of_row' hd _).trans (rowX_get (by omega))
  have f1 := blk_frozen' hd (o + q)
  have c2 : w.cell? ⟨2, r, none⟩ = some (.int .u8 y) := by rw [hy]; exact T.m r hr8
  have hqI : (q : Int) < (m : Int) := by omega
  have hrI : (r : Int) < 8 := by omega
  have hv : setI x r true = bits .or .u8 x y := by rw [hy]; rfl
  rw [← hx, hv]
  clear hd T hq hr hp hm hx hy hv
  go_enter Tryz.func106, Tryz.ntmps106
  go_still_tail 13, (by kernel_rfl)
  change wpList _ _ _ _ _ w.drew
  go_wp2
  go_end0
  exact ⟨rfl, rfl⟩
set_option maxRecDepth 100000 in
theorem setClear (ob o m c p q r : Nat) (X : Array Value) (D : List Int) (w : World) (hd : w.heap[ob]? = some (.cells (rowX X D) 5 (0, 0))) (T : Tabs w) (hq : q = p / 8) (hr : r = p % 8) (hp : q < m) (hm : o + m ≤ D.length) (hs : p ≤ 100000) :
    Calls Tryz.prog 107 #[.slice (some ⟨ob, o, none⟩) m c, .int .i64 p] w fun e w' => e = .returned (.tuple #[]) ∧ w' = w.drew.setCell ⟨ob, o + q, none⟩ (.int .u8 (setI (D.getD (o + q) 0) r false)) := by
  have e1 : IntKind.u64.wrap (p : Int) = p := by rw [IntKind.wrap_u64]; omega
  have e2 : (p : Int) / 8 = (q : Int) := by omega
  have e3 : Int.tmod (IntKind.u8.wrap (p : Int)) 8 = (r : Int) := by
    rw [IntKind.wrap_u8, Int.tmod_eq_emod_of_nonneg (by omega)]
    omega
  have hr8 : r < 8 := by omega
  have e4 : IntKind.u64.wrap (q : Int) = q := by rw [IntKind.wrap_u64]; omega
  have e5 : IntKind.u8.wrap (r : Int) = r := by rw [IntKind.wrap_u8]; omega
  obtain ⟨x, hx⟩ : ∃ x, x = D.getD (o + q) 0 := ⟨_, rfl⟩
  obtain ⟨y, hy⟩ : ∃ y, y = fmsk.getD r 0 := ⟨_, rfl⟩
  have c1 : w.cell? ⟨ob, o + q, none⟩ = some (.int .u8 x) := by rw [hx]; exact (cell_of_row' hd _).trans (rowX_get (by omega))
  have f1 := blk_frozen' hd (o + q)
  have c2 : w.cell? ⟨3, r, none⟩ = some (.int .u8 y) := by rw [hy]; exact T.f r hr8
  have hqI : (q : Int) < (m : Int) := by omega
  have hrI : (r : Int) < 8 := by omega
  have hv : setI x r false = bits .and .u8 x y := by rw [hy]; rfl
  rw [← hx, hv]
  clear hd T hq hr hp hm hx hy hv
  go_enter Tryz.func107, Tryz.ntmps107
  go_still_tail 13, (by kernel_rfl)
  change wpList _ _ _ _ _ w.drew
  go_wp2
  go_end0
  exact ⟨rfl, rfl⟩
/-- A bit is set, or cleared. -/
theorem setBitTo (ob o m c p : Nat) (b : Bool) (X : Array Value) (D : List Int) (w : World) (hd : w.heap[ob]? = some (.cells (rowX X D) 5 (0, 0))) (T : Tabs w) (hp : p / 8 < m) (hm : o + m ≤ D.length) (hs : p ≤ 100000) :
    Calls Tryz.prog 90 #[.slice (some ⟨ob, o, none⟩) m c, .int .i64 p, .bool b] w fun e w' => e = .returned (.tuple #[]) ∧ w' = w.drew.setCell ⟨ob, o + p / 8, none⟩ (.int .u8 (setI (D.getD (o + p / 8) 0) (p % 8) b)) := by
  have H1 := Aside0.mk (setBit ob o m c p _ _ X D w hd T rfl rfl hp hm hs)
  have H2 := Aside0.mk (setClear ob o m c p _ _ X D w hd T rfl rfl hp hm hs)
  clear hd T hp hm hs
  go_enter Tryz.func90, Tryz.ntmps90
  cases b with
  | true =>
    go_wp2_with (go_at_call 106; refine Calls.mono H1.out ?_; rintro e w1 ⟨rfl, rfl⟩)
    go_end0
    exact ⟨rfl, rfl⟩
  | false =>
    go_wp2_with (go_at_call 107; refine Calls.mono H2.out ?_; rintro e w1 ⟨rfl, rfl⟩)
    go_end0
    exact ⟨rfl, rfl⟩

end Go.Proofs.YtogbpljnekgfkaaGreatDoor.Cm
