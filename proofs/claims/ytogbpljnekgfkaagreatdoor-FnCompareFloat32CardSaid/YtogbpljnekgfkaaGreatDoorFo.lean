/- float32: the comparisons of two lists, of a list and a number. -/
import Derived.Test.YtogbpljnekgfkaaGreatDoorCu
import Derived.Laws.Cover2
namespace Go.Proofs.YtogbpljnekgfkaaGreatDoor.Cm
open Go.RowKit Go.IntWalk Go.Proofs.YtogbpljnekgfkaaGreatDoorW.PrintWords Go.Proofs.YtogbpljnekgfkaaGreatDoorW.PrintLast Go.Proofs.YtogbpljnekgfkaaGreatDoorW.PrintMore
attribute [local go_sem] max2_int min2_int max_two min_two max_three min_three max_four min_four
set_option linter.unusedVariables false
set_option linter.unusedSimpArgs false
/-- A comparison: 0 equal, 1 not equal, 2 greater, 3 greater or equal. -/
def cmpF (op : Nat) (x y : Int) : Bool := match op with
  | 0 => FloatKind.f32.format.order x.toNat y.toNat == some .eq
  | 1 => FloatKind.f32.format.order x.toNat y.toNat != some .eq
  | 2 => FloatKind.f32.format.order x.toNat y.toNat == some .gt
  | _ => FloatKind.f32.format.order x.toNat y.toNat == some .gt || FloatKind.f32.format.order x.toNat y.toNat == some .eq
set_option maxRecDepth 100000 in
theorem opF0AA (gl ol nl cl : Nat) (Cl : Array Value) (tl : TypeId) (gr or nr cr : Nat) (Cr : Array Value) (tr : TypeId) (X : Nat → Int) (Y : Nat → Int) (t k cu : Nat) (T : List Bool) (w : World) (hcl : w.heap[gl]? = some (.cells Cl tl (0, 0))) (hxl : ∀ i, i < k → Cl[ol + i]? = some (.float .f32 (X i).toNat)) (hgl : gl ≠ t) (hkl : k ≤ nl) (hcr : w.heap[gr]? = some (.cells Cr tr (0, 0))) (hxr : ∀ i, i < k → Cr[or + i]? = some (.float .f32 (Y i).toNat)) (hgr : gr ≠ t) (hkr : k ≤ nr) (ht : w.heap[t]? = some (.cells (rowU T) 181 (0, 0))) (hkT : k ≤ T.length) (hT : T.length ≤ 100) :
    Calls Tryz.prog 55 #[.slice (some ⟨gl, ol, none⟩) nl cl, .slice (some ⟨gr, or, none⟩) nr cr, .slice (some ⟨t, 0, none⟩) k cu] w fun e w' => e = .returned (.tuple #[]) ∧ w'.heap[t]? = some (.cells (rowU (laid T k (fun i => cmpF 0 (X i) (Y i)))) 181 (0, 0)) ∧ Kept w w' (fun j => j = t) ∧ Below t w w' := by
  have Hl := Aside0.mk hcl
  have El := Aside0.mk hxl
  have Hr := Aside0.mk hcr
  have Er := Aside0.mk hxr
  have HT := Aside0.mk ht
  have HK := Aside0.mk hkT
  clear ht hkT hcl hxl hcr hxr
  go_enter Tryz.func55, Tryz.ntmps55
  go_wp2
  go_loopg [9] k (fun kq v9 w' => ∃ i : Nat, v9 = .int .i64 i ∧ Aside0 (kq + i = k) ∧ Aside0 (w'.heap[t]? = some (.cells (rowU (laid T i (fun i => cmpF 0 (X i) (Y i)))) 181 (0, 0))) ∧ Aside0 (Kept w w' (fun j => j = t)) ∧ Aside0 (Below t w w'))
  case atStart => exact ⟨0, rfl, ⟨by omega⟩, ⟨by rw [laid_zero]; exact HT.out⟩, ⟨kept_refl' w _⟩, ⟨Below.refl t w⟩⟩
  case round =>
    obtain ⟨i, rfl, HJ, B0, B1, B2⟩ := hrel
    have hi0 : i ≤ k := by have := HJ.out; omega
    by_cases hi : i < k
    · have hiI : (i : Int) < (k : Int) := by omega
      have hil : (i : Int) < (nl : Int) := by omega
      obtain ⟨x, hx⟩ : ∃ x, x = X i := ⟨_, rfl⟩
      have cl : wr.cell? ⟨gl, ol + i, none⟩ = some (.float .f32 (x).toNat) := by rw [hx]; exact (cell_of_row' (blk_kept Hl.out B1.out hgl) _).trans (El.out i hi)
      have Vx := Aside0.mk hx
      clear hx
      have hir : (i : Int) < (nr : Int) := by omega
      obtain ⟨y, hy⟩ : ∃ x, x = Y i := ⟨_, rfl⟩
      have cr : wr.cell? ⟨gr, or + i, none⟩ = some (.float .f32 (y).toNat) := by rw [hy]; exact (cell_of_row' (blk_kept Hr.out B1.out hgr) _).trans (Er.out i hi)
      have Vy := Aside0.mk hy
      clear hy
      have d0 := cell_of_row' B0.out i
      rw [rowU_get (by rw [laid_len]; have := HK.out; omega)] at d0
      have d1 := blk_frozen' B0.out i
      have hiT : i < T.length := by have := HK.out; omega
      have P0 := Aside0.mk (rowU_put B0.out i (cmpF 0 x y))
      obtain ⟨tb, htest⟩ : ∃ tb, (FloatKind.f32.format.order x.toNat y.toNat == some Ordering.eq) = tb := ⟨_, rfl⟩
      cases tb with
      | true =>
        have P1 := Aside0.mk (P0.out 1 (by unfold cmpF bU; simp [htest]))
        have P2 := P1.out
        rw [Vx.out, Vy.out] at P2
        rw [laid_step (f := (fun i => cmpF 0 (X i) (Y i))) hiT] at P2
        have P3 := Aside0.mk P2
        clear P0 P1 P2
        go_upto_region 3 with fail
        go_quiet (fail)
        go_wp2
        go_roundg (gk - 1)
        case measure => have := HJ.out; omega
        case rel => exact ⟨i + 1, by go_num, ⟨by have := HJ.out; omega⟩, P3, ⟨Kept.setCell B1.out (Or.inl rfl) _⟩, ⟨(pw_below_drewN B2.out _).setCell (p := ⟨t, i, none⟩) (Nat.le_refl t) _⟩⟩
      | false =>
        have P1 := Aside0.mk (P0.out 0 (by unfold cmpF bU; simp [htest]))
        have P2 := P1.out
        rw [Vx.out, Vy.out] at P2
        rw [laid_step (f := (fun i => cmpF 0 (X i) (Y i))) hiT] at P2
        have P3 := Aside0.mk P2
        clear P0 P1 P2
        go_upto_region 3 with fail
        go_quiet (fail)
        go_wp2
        go_roundg (gk - 1)
        case measure => have := HJ.out; omega
        case rel => exact ⟨i + 1, by go_num, ⟨by have := HJ.out; omega⟩, P3, ⟨Kept.setCell B1.out (Or.inl rfl) _⟩, ⟨(pw_below_drewN B2.out _).setCell (p := ⟨t, i, none⟩) (Nat.le_refl t) _⟩⟩
    · have hiI : ¬ (i : Int) < (k : Int) := by omega
      have e : i = k := by omega
      have B3 := Aside0.mk (show wr.heap[t]? = some (.cells (rowU (laid T k (fun i => cmpF 0 (X i) (Y i)))) 181 (0, 0)) by rw [← e]; exact B0.out)
      clear B0
      go_wp2
      go_end0
      exact ⟨rfl, B3.out, B1.out, B2.out⟩
set_option maxRecDepth 100000 in
theorem opF0AS (gl ol nl cl : Nat) (Cl : Array Value) (tl : TypeId) (X : Nat → Int) (Y : Int) (t k cu : Nat) (T : List Bool) (w : World) (hcl : w.heap[gl]? = some (.cells Cl tl (0, 0))) (hxl : ∀ i, i < k → Cl[ol + i]? = some (.float .f32 (X i).toNat)) (hgl : gl ≠ t) (hkl : k ≤ nl) (ht : w.heap[t]? = some (.cells (rowU T) 181 (0, 0))) (hkT : k ≤ T.length) (hT : T.length ≤ 100) :
    Calls Tryz.prog 56 #[.slice (some ⟨gl, ol, none⟩) nl cl, .float .f32 (Y).toNat, .slice (some ⟨t, 0, none⟩) k cu] w fun e w' => e = .returned (.tuple #[]) ∧ w'.heap[t]? = some (.cells (rowU (laid T k (fun i => cmpF 0 (X i) (Y)))) 181 (0, 0)) ∧ Kept w w' (fun j => j = t) ∧ Below t w w' := by
  have Hl := Aside0.mk hcl
  have El := Aside0.mk hxl
  have HT := Aside0.mk ht
  have HK := Aside0.mk hkT
  clear ht hkT hcl hxl
  go_enter Tryz.func56, Tryz.ntmps56
  go_wp2
  go_loopg [9] k (fun kq v9 w' => ∃ i : Nat, v9 = .int .i64 i ∧ Aside0 (kq + i = k) ∧ Aside0 (w'.heap[t]? = some (.cells (rowU (laid T i (fun i => cmpF 0 (X i) (Y)))) 181 (0, 0))) ∧ Aside0 (Kept w w' (fun j => j = t)) ∧ Aside0 (Below t w w'))
  case atStart => exact ⟨0, rfl, ⟨by omega⟩, ⟨by rw [laid_zero]; exact HT.out⟩, ⟨kept_refl' w _⟩, ⟨Below.refl t w⟩⟩
  case round =>
    obtain ⟨i, rfl, HJ, B0, B1, B2⟩ := hrel
    have hi0 : i ≤ k := by have := HJ.out; omega
    by_cases hi : i < k
    · have hiI : (i : Int) < (k : Int) := by omega
      have hil : (i : Int) < (nl : Int) := by omega
      obtain ⟨x, hx⟩ : ∃ x, x = X i := ⟨_, rfl⟩
      have cl : wr.cell? ⟨gl, ol + i, none⟩ = some (.float .f32 (x).toNat) := by rw [hx]; exact (cell_of_row' (blk_kept Hl.out B1.out hgl) _).trans (El.out i hi)
      have Vx := Aside0.mk hx
      clear hx
      have d0 := cell_of_row' B0.out i
      rw [rowU_get (by rw [laid_len]; have := HK.out; omega)] at d0
      have d1 := blk_frozen' B0.out i
      have hiT : i < T.length := by have := HK.out; omega
      have P0 := Aside0.mk (rowU_put B0.out i (cmpF 0 x Y))
      obtain ⟨tb, htest⟩ : ∃ tb, (FloatKind.f32.format.order x.toNat Y.toNat == some Ordering.eq) = tb := ⟨_, rfl⟩
      cases tb with
      | true =>
        have P1 := Aside0.mk (P0.out 1 (by unfold cmpF bU; simp [htest]))
        have P2 := P1.out
        rw [Vx.out] at P2
        rw [laid_step (f := (fun i => cmpF 0 (X i) (Y))) hiT] at P2
        have P3 := Aside0.mk P2
        clear P0 P1 P2
        go_wp2
        go_roundg (gk - 1)
        case measure => have := HJ.out; omega
        case rel => exact ⟨i + 1, by go_num, ⟨by have := HJ.out; omega⟩, P3, ⟨Kept.setCell B1.out (Or.inl rfl) _⟩, ⟨(B2.out.setCell (p := ⟨t, i, none⟩) (Nat.le_refl t) _)⟩⟩
      | false =>
        have P1 := Aside0.mk (P0.out 0 (by unfold cmpF bU; simp [htest]))
        have P2 := P1.out
        rw [Vx.out] at P2
        rw [laid_step (f := (fun i => cmpF 0 (X i) (Y))) hiT] at P2
        have P3 := Aside0.mk P2
        clear P0 P1 P2
        go_wp2
        go_roundg (gk - 1)
        case measure => have := HJ.out; omega
        case rel => exact ⟨i + 1, by go_num, ⟨by have := HJ.out; omega⟩, P3, ⟨Kept.setCell B1.out (Or.inl rfl) _⟩, ⟨(B2.out.setCell (p := ⟨t, i, none⟩) (Nat.le_refl t) _)⟩⟩
    · have hiI : ¬ (i : Int) < (k : Int) := by omega
      have e : i = k := by omega
      have B3 := Aside0.mk (show wr.heap[t]? = some (.cells (rowU (laid T k (fun i => cmpF 0 (X i) (Y)))) 181 (0, 0)) by rw [← e]; exact B0.out)
      clear B0
      go_wp2
      go_end0
      exact ⟨rfl, B3.out, B1.out, B2.out⟩
set_option maxRecDepth 100000 in
theorem opF0SA (gr or nr cr : Nat) (Cr : Array Value) (tr : TypeId) (X : Int) (Y : Nat → Int) (t k cu : Nat) (T : List Bool) (w : World) (hcr : w.heap[gr]? = some (.cells Cr tr (0, 0))) (hxr : ∀ i, i < k → Cr[or + i]? = some (.float .f32 (Y i).toNat)) (hgr : gr ≠ t) (hkr : k ≤ nr) (ht : w.heap[t]? = some (.cells (rowU T) 181 (0, 0))) (hkT : k ≤ T.length) (hT : T.length ≤ 100) :
    Calls Tryz.prog 57 #[.float .f32 (X).toNat, .slice (some ⟨gr, or, none⟩) nr cr, .slice (some ⟨t, 0, none⟩) k cu] w fun e w' => e = .returned (.tuple #[]) ∧ w'.heap[t]? = some (.cells (rowU (laid T k (fun i => cmpF 0 (X) (Y i)))) 181 (0, 0)) ∧ Kept w w' (fun j => j = t) ∧ Below t w w' := by
  have Hr := Aside0.mk hcr
  have Er := Aside0.mk hxr
  have HT := Aside0.mk ht
  have HK := Aside0.mk hkT
  clear ht hkT hcr hxr
  go_enter Tryz.func57, Tryz.ntmps57
  go_wp2
  go_loopg [9] k (fun kq v9 w' => ∃ i : Nat, v9 = .int .i64 i ∧ Aside0 (kq + i = k) ∧ Aside0 (w'.heap[t]? = some (.cells (rowU (laid T i (fun i => cmpF 0 (X) (Y i)))) 181 (0, 0))) ∧ Aside0 (Kept w w' (fun j => j = t)) ∧ Aside0 (Below t w w'))
  case atStart => exact ⟨0, rfl, ⟨by omega⟩, ⟨by rw [laid_zero]; exact HT.out⟩, ⟨kept_refl' w _⟩, ⟨Below.refl t w⟩⟩
  case round =>
    obtain ⟨i, rfl, HJ, B0, B1, B2⟩ := hrel
    have hi0 : i ≤ k := by have := HJ.out; omega
    by_cases hi : i < k
    · have hiI : (i : Int) < (k : Int) := by omega
      have hir : (i : Int) < (nr : Int) := by omega
      obtain ⟨y, hy⟩ : ∃ x, x = Y i := ⟨_, rfl⟩
      have cr : wr.cell? ⟨gr, or + i, none⟩ = some (.float .f32 (y).toNat) := by rw [hy]; exact (cell_of_row' (blk_kept Hr.out B1.out hgr) _).trans (Er.out i hi)
      have Vy := Aside0.mk hy
      clear hy
      have d0 := cell_of_row' B0.out i
      rw [rowU_get (by rw [laid_len]; have := HK.out; omega)] at d0
      have d1 := blk_frozen' B0.out i
      have hiT : i < T.length := by have := HK.out; omega
      have P0 := Aside0.mk (rowU_put B0.out i (cmpF 0 X y))
      obtain ⟨tb, htest⟩ : ∃ tb, (FloatKind.f32.format.order X.toNat y.toNat == some Ordering.eq) = tb := ⟨_, rfl⟩
      cases tb with
      | true =>
        have P1 := Aside0.mk (P0.out 1 (by unfold cmpF bU; simp [htest]))
        have P2 := P1.out
        rw [Vy.out] at P2
        rw [laid_step (f := (fun i => cmpF 0 (X) (Y i))) hiT] at P2
        have P3 := Aside0.mk P2
        clear P0 P1 P2
        go_wp2
        go_roundg (gk - 1)
        case measure => have := HJ.out; omega
        case rel => exact ⟨i + 1, by go_num, ⟨by have := HJ.out; omega⟩, P3, ⟨Kept.setCell B1.out (Or.inl rfl) _⟩, ⟨(B2.out.setCell (p := ⟨t, i, none⟩) (Nat.le_refl t) _)⟩⟩
      | false =>
        have P1 := Aside0.mk (P0.out 0 (by unfold cmpF bU; simp [htest]))
        have P2 := P1.out
        rw [Vy.out] at P2
        rw [laid_step (f := (fun i => cmpF 0 (X) (Y i))) hiT] at P2
        have P3 := Aside0.mk P2
        clear P0 P1 P2
        go_wp2
        go_roundg (gk - 1)
        case measure => have := HJ.out; omega
        case rel => exact ⟨i + 1, by go_num, ⟨by have := HJ.out; omega⟩, P3, ⟨Kept.setCell B1.out (Or.inl rfl) _⟩, ⟨(B2.out.setCell (p := ⟨t, i, none⟩) (Nat.le_refl t) _)⟩⟩
    · have hiI : ¬ (i : Int) < (k : Int) := by omega
      have e : i = k := by omega
      have B3 := Aside0.mk (show wr.heap[t]? = some (.cells (rowU (laid T k (fun i => cmpF 0 (X) (Y i)))) 181 (0, 0)) by rw [← e]; exact B0.out)
      clear B0
      go_wp2
      go_end0
      exact ⟨rfl, B3.out, B1.out, B2.out⟩
set_option maxRecDepth 100000 in
theorem opF1AA (gl ol nl cl : Nat) (Cl : Array Value) (tl : TypeId) (gr or nr cr : Nat) (Cr : Array Value) (tr : TypeId) (X : Nat → Int) (Y : Nat → Int) (t k cu : Nat) (T : List Bool) (w : World) (hcl : w.heap[gl]? = some (.cells Cl tl (0, 0))) (hxl : ∀ i, i < k → Cl[ol + i]? = some (.float .f32 (X i).toNat)) (hgl : gl ≠ t) (hkl : k ≤ nl) (hcr : w.heap[gr]? = some (.cells Cr tr (0, 0))) (hxr : ∀ i, i < k → Cr[or + i]? = some (.float .f32 (Y i).toNat)) (hgr : gr ≠ t) (hkr : k ≤ nr) (ht : w.heap[t]? = some (.cells (rowU T) 181 (0, 0))) (hkT : k ≤ T.length) (hT : T.length ≤ 100) :
    Calls Tryz.prog 58 #[.slice (some ⟨gl, ol, none⟩) nl cl, .slice (some ⟨gr, or, none⟩) nr cr, .slice (some ⟨t, 0, none⟩) k cu] w fun e w' => e = .returned (.tuple #[]) ∧ w'.heap[t]? = some (.cells (rowU (laid T k (fun i => cmpF 1 (X i) (Y i)))) 181 (0, 0)) ∧ Kept w w' (fun j => j = t) ∧ Below t w w' := by
  have Hl := Aside0.mk hcl
  have El := Aside0.mk hxl
  have Hr := Aside0.mk hcr
  have Er := Aside0.mk hxr
  have HT := Aside0.mk ht
  have HK := Aside0.mk hkT
  clear ht hkT hcl hxl hcr hxr
  go_enter Tryz.func58, Tryz.ntmps58
  go_wp2
  go_loopg [9] k (fun kq v9 w' => ∃ i : Nat, v9 = .int .i64 i ∧ Aside0 (kq + i = k) ∧ Aside0 (w'.heap[t]? = some (.cells (rowU (laid T i (fun i => cmpF 1 (X i) (Y i)))) 181 (0, 0))) ∧ Aside0 (Kept w w' (fun j => j = t)) ∧ Aside0 (Below t w w'))
  case atStart => exact ⟨0, rfl, ⟨by omega⟩, ⟨by rw [laid_zero]; exact HT.out⟩, ⟨kept_refl' w _⟩, ⟨Below.refl t w⟩⟩
  case round =>
    obtain ⟨i, rfl, HJ, B0, B1, B2⟩ := hrel
    have hi0 : i ≤ k := by have := HJ.out; omega
    by_cases hi : i < k
    · have hiI : (i : Int) < (k : Int) := by omega
      have hil : (i : Int) < (nl : Int) := by omega
      obtain ⟨x, hx⟩ : ∃ x, x = X i := ⟨_, rfl⟩
      have cl : wr.cell? ⟨gl, ol + i, none⟩ = some (.float .f32 (x).toNat) := by rw [hx]; exact (cell_of_row' (blk_kept Hl.out B1.out hgl) _).trans (El.out i hi)
      have Vx := Aside0.mk hx
      clear hx
      have hir : (i : Int) < (nr : Int) := by omega
      obtain ⟨y, hy⟩ : ∃ x, x = Y i := ⟨_, rfl⟩
      have cr : wr.cell? ⟨gr, or + i, none⟩ = some (.float .f32 (y).toNat) := by rw [hy]; exact (cell_of_row' (blk_kept Hr.out B1.out hgr) _).trans (Er.out i hi)
      have Vy := Aside0.mk hy
      clear hy
      have d0 := cell_of_row' B0.out i
      rw [rowU_get (by rw [laid_len]; have := HK.out; omega)] at d0
      have d1 := blk_frozen' B0.out i
      have hiT : i < T.length := by have := HK.out; omega
      have P0 := Aside0.mk (rowU_put B0.out i (cmpF 1 x y))
      obtain ⟨tb, htest⟩ : ∃ tb, (FloatKind.f32.format.order x.toNat y.toNat != some Ordering.eq) = tb := ⟨_, rfl⟩
      cases tb with
      | true =>
        have P1 := Aside0.mk (P0.out 1 (by unfold cmpF bU; simp [htest]))
        have P2 := P1.out
        rw [Vx.out, Vy.out] at P2
        rw [laid_step (f := (fun i => cmpF 1 (X i) (Y i))) hiT] at P2
        have P3 := Aside0.mk P2
        clear P0 P1 P2
        go_upto_region 3 with fail
        go_quiet (fail)
        go_wp2
        go_roundg (gk - 1)
        case measure => have := HJ.out; omega
        case rel => exact ⟨i + 1, by go_num, ⟨by have := HJ.out; omega⟩, P3, ⟨Kept.setCell B1.out (Or.inl rfl) _⟩, ⟨(pw_below_drewN B2.out _).setCell (p := ⟨t, i, none⟩) (Nat.le_refl t) _⟩⟩
      | false =>
        have P1 := Aside0.mk (P0.out 0 (by unfold cmpF bU; simp [htest]))
        have P2 := P1.out
        rw [Vx.out, Vy.out] at P2
        rw [laid_step (f := (fun i => cmpF 1 (X i) (Y i))) hiT] at P2
        have P3 := Aside0.mk P2
        clear P0 P1 P2
        go_upto_region 3 with fail
        go_quiet (fail)
        go_wp2
        go_roundg (gk - 1)
        case measure => have := HJ.out; omega
        case rel => exact ⟨i + 1, by go_num, ⟨by have := HJ.out; omega⟩, P3, ⟨Kept.setCell B1.out (Or.inl rfl) _⟩, ⟨(pw_below_drewN B2.out _).setCell (p := ⟨t, i, none⟩) (Nat.le_refl t) _⟩⟩
    · have hiI : ¬ (i : Int) < (k : Int) := by omega
      have e : i = k := by omega
      have B3 := Aside0.mk (show wr.heap[t]? = some (.cells (rowU (laid T k (fun i => cmpF 1 (X i) (Y i)))) 181 (0, 0)) by rw [← e]; exact B0.out)
      clear B0
      go_wp2
      go_end0
      exact ⟨rfl, B3.out, B1.out, B2.out⟩
set_option maxRecDepth 100000 in
theorem opF1AS (gl ol nl cl : Nat) (Cl : Array Value) (tl : TypeId) (X : Nat → Int) (Y : Int) (t k cu : Nat) (T : List Bool) (w : World) (hcl : w.heap[gl]? = some (.cells Cl tl (0, 0))) (hxl : ∀ i, i < k → Cl[ol + i]? = some (.float .f32 (X i).toNat)) (hgl : gl ≠ t) (hkl : k ≤ nl) (ht : w.heap[t]? = some (.cells (rowU T) 181 (0, 0))) (hkT : k ≤ T.length) (hT : T.length ≤ 100) :
    Calls Tryz.prog 59 #[.slice (some ⟨gl, ol, none⟩) nl cl, .float .f32 (Y).toNat, .slice (some ⟨t, 0, none⟩) k cu] w fun e w' => e = .returned (.tuple #[]) ∧ w'.heap[t]? = some (.cells (rowU (laid T k (fun i => cmpF 1 (X i) (Y)))) 181 (0, 0)) ∧ Kept w w' (fun j => j = t) ∧ Below t w w' := by
  have Hl := Aside0.mk hcl
  have El := Aside0.mk hxl
  have HT := Aside0.mk ht
  have HK := Aside0.mk hkT
  clear ht hkT hcl hxl
  go_enter Tryz.func59, Tryz.ntmps59
  go_wp2
  go_loopg [9] k (fun kq v9 w' => ∃ i : Nat, v9 = .int .i64 i ∧ Aside0 (kq + i = k) ∧ Aside0 (w'.heap[t]? = some (.cells (rowU (laid T i (fun i => cmpF 1 (X i) (Y)))) 181 (0, 0))) ∧ Aside0 (Kept w w' (fun j => j = t)) ∧ Aside0 (Below t w w'))
  case atStart => exact ⟨0, rfl, ⟨by omega⟩, ⟨by rw [laid_zero]; exact HT.out⟩, ⟨kept_refl' w _⟩, ⟨Below.refl t w⟩⟩
  case round =>
    obtain ⟨i, rfl, HJ, B0, B1, B2⟩ := hrel
    have hi0 : i ≤ k := by have := HJ.out; omega
    by_cases hi : i < k
    · have hiI : (i : Int) < (k : Int) := by omega
      have hil : (i : Int) < (nl : Int) := by omega
      obtain ⟨x, hx⟩ : ∃ x, x = X i := ⟨_, rfl⟩
      have cl : wr.cell? ⟨gl, ol + i, none⟩ = some (.float .f32 (x).toNat) := by rw [hx]; exact (cell_of_row' (blk_kept Hl.out B1.out hgl) _).trans (El.out i hi)
      have Vx := Aside0.mk hx
      clear hx
      have d0 := cell_of_row' B0.out i
      rw [rowU_get (by rw [laid_len]; have := HK.out; omega)] at d0
      have d1 := blk_frozen' B0.out i
      have hiT : i < T.length := by have := HK.out; omega
      have P0 := Aside0.mk (rowU_put B0.out i (cmpF 1 x Y))
      obtain ⟨tb, htest⟩ : ∃ tb, (FloatKind.f32.format.order x.toNat Y.toNat != some Ordering.eq) = tb := ⟨_, rfl⟩
      cases tb with
      | true =>
        have P1 := Aside0.mk (P0.out 1 (by unfold cmpF bU; simp [htest]))
        have P2 := P1.out
        rw [Vx.out] at P2
        rw [laid_step (f := (fun i => cmpF 1 (X i) (Y))) hiT] at P2
        have P3 := Aside0.mk P2
        clear P0 P1 P2
        go_wp2
        go_roundg (gk - 1)
        case measure => have := HJ.out; omega
        case rel => exact ⟨i + 1, by go_num, ⟨by have := HJ.out; omega⟩, P3, ⟨Kept.setCell B1.out (Or.inl rfl) _⟩, ⟨(B2.out.setCell (p := ⟨t, i, none⟩) (Nat.le_refl t) _)⟩⟩
      | false =>
        have P1 := Aside0.mk (P0.out 0 (by unfold cmpF bU; simp [htest]))
        have P2 := P1.out
        rw [Vx.out] at P2
        rw [laid_step (f := (fun i => cmpF 1 (X i) (Y))) hiT] at P2
        have P3 := Aside0.mk P2
        clear P0 P1 P2
        go_wp2
        go_roundg (gk - 1)
        case measure => have := HJ.out; omega
        case rel => exact ⟨i + 1, by go_num, ⟨by have := HJ.out; omega⟩, P3, ⟨Kept.setCell B1.out (Or.inl rfl) _⟩, ⟨(B2.out.setCell (p := ⟨t, i, none⟩) (Nat.le_refl t) _)⟩⟩
    · have hiI : ¬ (i : Int) < (k : Int) := by omega
      have e : i = k := by omega
      have B3 := Aside0.mk (show wr.heap[t]? = some (.cells (rowU (laid T k (fun i => cmpF 1 (X i) (Y)))) 181 (0, 0)) by rw [← e]; exact B0.out)
      clear B0
      go_wp2
      go_end0
      exact ⟨rfl, B3.out, B1.out, B2.out⟩
set_option maxRecDepth 100000 in
theorem opF1SA (gr or nr cr : Nat) (Cr : Array Value) (tr : TypeId) (X : Int) (Y : Nat → Int) (t k cu : Nat) (T : List Bool) (w : World) (hcr : w.heap[gr]? = some (.cells Cr tr (0, 0))) (hxr : ∀ i, i < k → Cr[or + i]? = some (.float .f32 (Y i).toNat)) (hgr : gr ≠ t) (hkr : k ≤ nr) (ht : w.heap[t]? = some (.cells (rowU T) 181 (0, 0))) (hkT : k ≤ T.length) (hT : T.length ≤ 100) :
    Calls Tryz.prog 60 #[.float .f32 (X).toNat, .slice (some ⟨gr, or, none⟩) nr cr, .slice (some ⟨t, 0, none⟩) k cu] w fun e w' => e = .returned (.tuple #[]) ∧ w'.heap[t]? = some (.cells (rowU (laid T k (fun i => cmpF 1 (X) (Y i)))) 181 (0, 0)) ∧ Kept w w' (fun j => j = t) ∧ Below t w w' := by
  have Hr := Aside0.mk hcr
  have Er := Aside0.mk hxr
  have HT := Aside0.mk ht
  have HK := Aside0.mk hkT
  clear ht hkT hcr hxr
  go_enter Tryz.func60, Tryz.ntmps60
  go_wp2
  go_loopg [9] k (fun kq v9 w' => ∃ i : Nat, v9 = .int .i64 i ∧ Aside0 (kq + i = k) ∧ Aside0 (w'.heap[t]? = some (.cells (rowU (laid T i (fun i => cmpF 1 (X) (Y i)))) 181 (0, 0))) ∧ Aside0 (Kept w w' (fun j => j = t)) ∧ Aside0 (Below t w w'))
  case atStart => exact ⟨0, rfl, ⟨by omega⟩, ⟨by rw [laid_zero]; exact HT.out⟩, ⟨kept_refl' w _⟩, ⟨Below.refl t w⟩⟩
  case round =>
    obtain ⟨i, rfl, HJ, B0, B1, B2⟩ := hrel
    have hi0 : i ≤ k := by have := HJ.out; omega
    by_cases hi : i < k
    · have hiI : (i : Int) < (k : Int) := by omega
      have hir : (i : Int) < (nr : Int) := by omega
      obtain ⟨y, hy⟩ : ∃ x, x = Y i := ⟨_, rfl⟩
      have cr : wr.cell? ⟨gr, or + i, none⟩ = some (.float .f32 (y).toNat) := by rw [hy]; exact (cell_of_row' (blk_kept Hr.out B1.out hgr) _).trans (Er.out i hi)
      have Vy := Aside0.mk hy
      clear hy
      have d0 := cell_of_row' B0.out i
      rw [rowU_get (by rw [laid_len]; have := HK.out; omega)] at d0
      have d1 := blk_frozen' B0.out i
      have hiT : i < T.length := by have := HK.out; omega
      have P0 := Aside0.mk (rowU_put B0.out i (cmpF 1 X y))
      obtain ⟨tb, htest⟩ : ∃ tb, (FloatKind.f32.format.order X.toNat y.toNat != some Ordering.eq) = tb := ⟨_, rfl⟩
      cases tb with
      | true =>
        have P1 := Aside0.mk (P0.out 1 (by unfold cmpF bU; simp [htest]))
        have P2 := P1.out
        rw [Vy.out] at P2
        rw [laid_step (f := (fun i => cmpF 1 (X) (Y i))) hiT] at P2
        have P3 := Aside0.mk P2
        clear P0 P1 P2
        go_wp2
        go_roundg (gk - 1)
        case measure => have := HJ.out; omega
        case rel => exact ⟨i + 1, by go_num, ⟨by have := HJ.out; omega⟩, P3, ⟨Kept.setCell B1.out (Or.inl rfl) _⟩, ⟨(B2.out.setCell (p := ⟨t, i, none⟩) (Nat.le_refl t) _)⟩⟩
      | false =>
        have P1 := Aside0.mk (P0.out 0 (by unfold cmpF bU; simp [htest]))
        have P2 := P1.out
        rw [Vy.out] at P2
        rw [laid_step (f := (fun i => cmpF 1 (X) (Y i))) hiT] at P2
        have P3 := Aside0.mk P2
        clear P0 P1 P2
        go_wp2
        go_roundg (gk - 1)
        case measure => have := HJ.out; omega
        case rel => exact ⟨i + 1, by go_num, ⟨by have := HJ.out; omega⟩, P3, ⟨Kept.setCell B1.out (Or.inl rfl) _⟩, ⟨(B2.out.setCell (p := ⟨t, i, none⟩) (Nat.le_refl t) _)⟩⟩
    · have hiI : ¬ (i : Int) < (k : Int) := by omega
      have e : i = k := by omega
      have B3 := Aside0.mk (show wr.heap[t]? = some (.cells (rowU (laid T k (fun i => cmpF 1 (X) (Y i)))) 181 (0, 0)) by rw [← e]; exact B0.out)
      clear B0
      go_wp2
      go_end0
      exact ⟨rfl, B3.out, B1.out, B2.out⟩
set_option maxRecDepth 100000 in
theorem opF2AA (gl ol nl cl : Nat) (Cl : Array Value) (tl : TypeId) (gr or nr cr : Nat) (Cr : Array Value) (tr : TypeId) (X : Nat → Int) (Y : Nat → Int) (t k cu : Nat) (T : List Bool) (w : World) (hcl : w.heap[gl]? = some (.cells Cl tl (0, 0))) (hxl : ∀ i, i < k → Cl[ol + i]? = some (.float .f32 (X i).toNat)) (hgl : gl ≠ t) (hkl : k ≤ nl) (hcr : w.heap[gr]? = some (.cells Cr tr (0, 0))) (hxr : ∀ i, i < k → Cr[or + i]? = some (.float .f32 (Y i).toNat)) (hgr : gr ≠ t) (hkr : k ≤ nr) (ht : w.heap[t]? = some (.cells (rowU T) 181 (0, 0))) (hkT : k ≤ T.length) (hT : T.length ≤ 100) :
    Calls Tryz.prog 61 #[.slice (some ⟨gl, ol, none⟩) nl cl, .slice (some ⟨gr, or, none⟩) nr cr, .slice (some ⟨t, 0, none⟩) k cu] w fun e w' => e = .returned (.tuple #[]) ∧ w'.heap[t]? = some (.cells (rowU (laid T k (fun i => cmpF 2 (X i) (Y i)))) 181 (0, 0)) ∧ Kept w w' (fun j => j = t) ∧ Below t w w' := by
  have Hl := Aside0.mk hcl
  have El := Aside0.mk hxl
  have Hr := Aside0.mk hcr
  have Er := Aside0.mk hxr
  have HT := Aside0.mk ht
  have HK := Aside0.mk hkT
  clear ht hkT hcl hxl hcr hxr
  go_enter Tryz.func61, Tryz.ntmps61
  go_wp2
  go_loopg [9] k (fun kq v9 w' => ∃ i : Nat, v9 = .int .i64 i ∧ Aside0 (kq + i = k) ∧ Aside0 (w'.heap[t]? = some (.cells (rowU (laid T i (fun i => cmpF 2 (X i) (Y i)))) 181 (0, 0))) ∧ Aside0 (Kept w w' (fun j => j = t)) ∧ Aside0 (Below t w w'))
  case atStart => exact ⟨0, rfl, ⟨by omega⟩, ⟨by rw [laid_zero]; exact HT.out⟩, ⟨kept_refl' w _⟩, ⟨Below.refl t w⟩⟩
  case round =>
    obtain ⟨i, rfl, HJ, B0, B1, B2⟩ := hrel
    have hi0 : i ≤ k := by have := HJ.out; omega
    by_cases hi : i < k
    · have hiI : (i : Int) < (k : Int) := by omega
      have hil : (i : Int) < (nl : Int) := by omega
      obtain ⟨x, hx⟩ : ∃ x, x = X i := ⟨_, rfl⟩
      have cl : wr.cell? ⟨gl, ol + i, none⟩ = some (.float .f32 (x).toNat) := by rw [hx]; exact (cell_of_row' (blk_kept Hl.out B1.out hgl) _).trans (El.out i hi)
      have Vx := Aside0.mk hx
      clear hx
      have hir : (i : Int) < (nr : Int) := by omega
      obtain ⟨y, hy⟩ : ∃ x, x = Y i := ⟨_, rfl⟩
      have cr : wr.cell? ⟨gr, or + i, none⟩ = some (.float .f32 (y).toNat) := by rw [hy]; exact (cell_of_row' (blk_kept Hr.out B1.out hgr) _).trans (Er.out i hi)
      have Vy := Aside0.mk hy
      clear hy
      have d0 := cell_of_row' B0.out i
      rw [rowU_get (by rw [laid_len]; have := HK.out; omega)] at d0
      have d1 := blk_frozen' B0.out i
      have hiT : i < T.length := by have := HK.out; omega
      have P0 := Aside0.mk (rowU_put B0.out i (cmpF 2 x y))
      obtain ⟨tb, htest⟩ : ∃ tb, (FloatKind.f32.format.order x.toNat y.toNat == some Ordering.gt) = tb := ⟨_, rfl⟩
      cases tb with
      | true =>
        have P1 := Aside0.mk (P0.out 1 (by unfold cmpF bU; simp [htest]))
        have P2 := P1.out
        rw [Vx.out, Vy.out] at P2
        rw [laid_step (f := (fun i => cmpF 2 (X i) (Y i))) hiT] at P2
        have P3 := Aside0.mk P2
        clear P0 P1 P2
        go_upto_region 3 with fail
        go_quiet (fail)
        go_wp2
        go_roundg (gk - 1)
        case measure => have := HJ.out; omega
        case rel => exact ⟨i + 1, by go_num, ⟨by have := HJ.out; omega⟩, P3, ⟨Kept.setCell B1.out (Or.inl rfl) _⟩, ⟨(pw_below_drewN B2.out _).setCell (p := ⟨t, i, none⟩) (Nat.le_refl t) _⟩⟩
      | false =>
        have P1 := Aside0.mk (P0.out 0 (by unfold cmpF bU; simp [htest]))
        have P2 := P1.out
        rw [Vx.out, Vy.out] at P2
        rw [laid_step (f := (fun i => cmpF 2 (X i) (Y i))) hiT] at P2
        have P3 := Aside0.mk P2
        clear P0 P1 P2
        go_upto_region 3 with fail
        go_quiet (fail)
        go_wp2
        go_roundg (gk - 1)
        case measure => have := HJ.out; omega
        case rel => exact ⟨i + 1, by go_num, ⟨by have := HJ.out; omega⟩, P3, ⟨Kept.setCell B1.out (Or.inl rfl) _⟩, ⟨(pw_below_drewN B2.out _).setCell (p := ⟨t, i, none⟩) (Nat.le_refl t) _⟩⟩
    · have hiI : ¬ (i : Int) < (k : Int) := by omega
      have e : i = k := by omega
      have B3 := Aside0.mk (show wr.heap[t]? = some (.cells (rowU (laid T k (fun i => cmpF 2 (X i) (Y i)))) 181 (0, 0)) by rw [← e]; exact B0.out)
      clear B0
      go_wp2
      go_end0
      exact ⟨rfl, B3.out, B1.out, B2.out⟩
set_option maxRecDepth 100000 in
theorem opF2AS (gl ol nl cl : Nat) (Cl : Array Value) (tl : TypeId) (X : Nat → Int) (Y : Int) (t k cu : Nat) (T : List Bool) (w : World) (hcl : w.heap[gl]? = some (.cells Cl tl (0, 0))) (hxl : ∀ i, i < k → Cl[ol + i]? = some (.float .f32 (X i).toNat)) (hgl : gl ≠ t) (hkl : k ≤ nl) (ht : w.heap[t]? = some (.cells (rowU T) 181 (0, 0))) (hkT : k ≤ T.length) (hT : T.length ≤ 100) :
    Calls Tryz.prog 62 #[.slice (some ⟨gl, ol, none⟩) nl cl, .float .f32 (Y).toNat, .slice (some ⟨t, 0, none⟩) k cu] w fun e w' => e = .returned (.tuple #[]) ∧ w'.heap[t]? = some (.cells (rowU (laid T k (fun i => cmpF 2 (X i) (Y)))) 181 (0, 0)) ∧ Kept w w' (fun j => j = t) ∧ Below t w w' := by
  have Hl := Aside0.mk hcl
  have El := Aside0.mk hxl
  have HT := Aside0.mk ht
  have HK := Aside0.mk hkT
  clear ht hkT hcl hxl
  go_enter Tryz.func62, Tryz.ntmps62
  go_wp2
  go_loopg [9] k (fun kq v9 w' => ∃ i : Nat, v9 = .int .i64 i ∧ Aside0 (kq + i = k) ∧ Aside0 (w'.heap[t]? = some (.cells (rowU (laid T i (fun i => cmpF 2 (X i) (Y)))) 181 (0, 0))) ∧ Aside0 (Kept w w' (fun j => j = t)) ∧ Aside0 (Below t w w'))
  case atStart => exact ⟨0, rfl, ⟨by omega⟩, ⟨by rw [laid_zero]; exact HT.out⟩, ⟨kept_refl' w _⟩, ⟨Below.refl t w⟩⟩
  case round =>
    obtain ⟨i, rfl, HJ, B0, B1, B2⟩ := hrel
    have hi0 : i ≤ k := by have := HJ.out; omega
    by_cases hi : i < k
    · have hiI : (i : Int) < (k : Int) := by omega
      have hil : (i : Int) < (nl : Int) := by omega
      obtain ⟨x, hx⟩ : ∃ x, x = X i := ⟨_, rfl⟩
      have cl : wr.cell? ⟨gl, ol + i, none⟩ = some (.float .f32 (x).toNat) := by rw [hx]; exact (cell_of_row' (blk_kept Hl.out B1.out hgl) _).trans (El.out i hi)
      have Vx := Aside0.mk hx
      clear hx
      have d0 := cell_of_row' B0.out i
      rw [rowU_get (by rw [laid_len]; have := HK.out; omega)] at d0
      have d1 := blk_frozen' B0.out i
      have hiT : i < T.length := by have := HK.out; omega
      have P0 := Aside0.mk (rowU_put B0.out i (cmpF 2 x Y))
      obtain ⟨tb, htest⟩ : ∃ tb, (FloatKind.f32.format.order x.toNat Y.toNat == some Ordering.gt) = tb := ⟨_, rfl⟩
      cases tb with
      | true =>
        have P1 := Aside0.mk (P0.out 1 (by unfold cmpF bU; simp [htest]))
        have P2 := P1.out
        rw [Vx.out] at P2
        rw [laid_step (f := (fun i => cmpF 2 (X i) (Y))) hiT] at P2
        have P3 := Aside0.mk P2
        clear P0 P1 P2
        go_wp2
        go_roundg (gk - 1)
        case measure => have := HJ.out; omega
        case rel => exact ⟨i + 1, by go_num, ⟨by have := HJ.out; omega⟩, P3, ⟨Kept.setCell B1.out (Or.inl rfl) _⟩, ⟨(B2.out.setCell (p := ⟨t, i, none⟩) (Nat.le_refl t) _)⟩⟩
      | false =>
        have P1 := Aside0.mk (P0.out 0 (by unfold cmpF bU; simp [htest]))
        have P2 := P1.out
        rw [Vx.out] at P2
        rw [laid_step (f := (fun i => cmpF 2 (X i) (Y))) hiT] at P2
        have P3 := Aside0.mk P2
        clear P0 P1 P2
        go_wp2
        go_roundg (gk - 1)
        case measure => have := HJ.out; omega
        case rel => exact ⟨i + 1, by go_num, ⟨by have := HJ.out; omega⟩, P3, ⟨Kept.setCell B1.out (Or.inl rfl) _⟩, ⟨(B2.out.setCell (p := ⟨t, i, none⟩) (Nat.le_refl t) _)⟩⟩
    · have hiI : ¬ (i : Int) < (k : Int) := by omega
      have e : i = k := by omega
      have B3 := Aside0.mk (show wr.heap[t]? = some (.cells (rowU (laid T k (fun i => cmpF 2 (X i) (Y)))) 181 (0, 0)) by rw [← e]; exact B0.out)
      clear B0
      go_wp2
      go_end0
      exact ⟨rfl, B3.out, B1.out, B2.out⟩
set_option maxRecDepth 100000 in
theorem opF2SA (gr or nr cr : Nat) (Cr : Array Value) (tr : TypeId) (X : Int) (Y : Nat → Int) (t k cu : Nat) (T : List Bool) (w : World) (hcr : w.heap[gr]? = some (.cells Cr tr (0, 0))) (hxr : ∀ i, i < k → Cr[or + i]? = some (.float .f32 (Y i).toNat)) (hgr : gr ≠ t) (hkr : k ≤ nr) (ht : w.heap[t]? = some (.cells (rowU T) 181 (0, 0))) (hkT : k ≤ T.length) (hT : T.length ≤ 100) :
    Calls Tryz.prog 63 #[.float .f32 (X).toNat, .slice (some ⟨gr, or, none⟩) nr cr, .slice (some ⟨t, 0, none⟩) k cu] w fun e w' => e = .returned (.tuple #[]) ∧ w'.heap[t]? = some (.cells (rowU (laid T k (fun i => cmpF 2 (X) (Y i)))) 181 (0, 0)) ∧ Kept w w' (fun j => j = t) ∧ Below t w w' := by
  have Hr := Aside0.mk hcr
  have Er := Aside0.mk hxr
  have HT := Aside0.mk ht
  have HK := Aside0.mk hkT
  clear ht hkT hcr hxr
  go_enter Tryz.func63, Tryz.ntmps63
  go_wp2
  go_loopg [9] k (fun kq v9 w' => ∃ i : Nat, v9 = .int .i64 i ∧ Aside0 (kq + i = k) ∧ Aside0 (w'.heap[t]? = some (.cells (rowU (laid T i (fun i => cmpF 2 (X) (Y i)))) 181 (0, 0))) ∧ Aside0 (Kept w w' (fun j => j = t)) ∧ Aside0 (Below t w w'))
  case atStart => exact ⟨0, rfl, ⟨by omega⟩, ⟨by rw [laid_zero]; exact HT.out⟩, ⟨kept_refl' w _⟩, ⟨Below.refl t w⟩⟩
  case round =>
    obtain ⟨i, rfl, HJ, B0, B1, B2⟩ := hrel
    have hi0 : i ≤ k := by have := HJ.out; omega
    by_cases hi : i < k
    · have hiI : (i : Int) < (k : Int) := by omega
      have hir : (i : Int) < (nr : Int) := by omega
      obtain ⟨y, hy⟩ : ∃ x, x = Y i := ⟨_, rfl⟩
      have cr : wr.cell? ⟨gr, or + i, none⟩ = some (.float .f32 (y).toNat) := by rw [hy]; exact (cell_of_row' (blk_kept Hr.out B1.out hgr) _).trans (Er.out i hi)
      have Vy := Aside0.mk hy
      clear hy
      have d0 := cell_of_row' B0.out i
      rw [rowU_get (by rw [laid_len]; have := HK.out; omega)] at d0
      have d1 := blk_frozen' B0.out i
      have hiT : i < T.length := by have := HK.out; omega
      have P0 := Aside0.mk (rowU_put B0.out i (cmpF 2 X y))
      obtain ⟨tb, htest⟩ : ∃ tb, (FloatKind.f32.format.order X.toNat y.toNat == some Ordering.gt) = tb := ⟨_, rfl⟩
      cases tb with
      | true =>
        have P1 := Aside0.mk (P0.out 1 (by unfold cmpF bU; simp [htest]))
        have P2 := P1.out
        rw [Vy.out] at P2
        rw [laid_step (f := (fun i => cmpF 2 (X) (Y i))) hiT] at P2
        have P3 := Aside0.mk P2
        clear P0 P1 P2
        go_wp2
        go_roundg (gk - 1)
        case measure => have := HJ.out; omega
        case rel => exact ⟨i + 1, by go_num, ⟨by have := HJ.out; omega⟩, P3, ⟨Kept.setCell B1.out (Or.inl rfl) _⟩, ⟨(B2.out.setCell (p := ⟨t, i, none⟩) (Nat.le_refl t) _)⟩⟩
      | false =>
        have P1 := Aside0.mk (P0.out 0 (by unfold cmpF bU; simp [htest]))
        have P2 := P1.out
        rw [Vy.out] at P2
        rw [laid_step (f := (fun i => cmpF 2 (X) (Y i))) hiT] at P2
        have P3 := Aside0.mk P2
        clear P0 P1 P2
        go_wp2
        go_roundg (gk - 1)
        case measure => have := HJ.out; omega
        case rel => exact ⟨i + 1, by go_num, ⟨by have := HJ.out; omega⟩, P3, ⟨Kept.setCell B1.out (Or.inl rfl) _⟩, ⟨(B2.out.setCell (p := ⟨t, i, none⟩) (Nat.le_refl t) _)⟩⟩
    · have hiI : ¬ (i : Int) < (k : Int) := by omega
      have e : i = k := by omega
      have B3 := Aside0.mk (show wr.heap[t]? = some (.cells (rowU (laid T k (fun i => cmpF 2 (X) (Y i)))) 181 (0, 0)) by rw [← e]; exact B0.out)
      clear B0
      go_wp2
      go_end0
      exact ⟨rfl, B3.out, B1.out, B2.out⟩
set_option maxRecDepth 100000 in
theorem opF3AA (gl ol nl cl : Nat) (Cl : Array Value) (tl : TypeId) (gr or nr cr : Nat) (Cr : Array Value) (tr : TypeId) (X : Nat → Int) (Y : Nat → Int) (t k cu : Nat) (T : List Bool) (w : World) (hcl : w.heap[gl]? = some (.cells Cl tl (0, 0))) (hxl : ∀ i, i < k → Cl[ol + i]? = some (.float .f32 (X i).toNat)) (hgl : gl ≠ t) (hkl : k ≤ nl) (hcr : w.heap[gr]? = some (.cells Cr tr (0, 0))) (hxr : ∀ i, i < k → Cr[or + i]? = some (.float .f32 (Y i).toNat)) (hgr : gr ≠ t) (hkr : k ≤ nr) (ht : w.heap[t]? = some (.cells (rowU T) 181 (0, 0))) (hkT : k ≤ T.length) (hT : T.length ≤ 100) :
    Calls Tryz.prog 64 #[.slice (some ⟨gl, ol, none⟩) nl cl, .slice (some ⟨gr, or, none⟩) nr cr, .slice (some ⟨t, 0, none⟩) k cu] w fun e w' => e = .returned (.tuple #[]) ∧ w'.heap[t]? = some (.cells (rowU (laid T k (fun i => cmpF 3 (X i) (Y i)))) 181 (0, 0)) ∧ Kept w w' (fun j => j = t) ∧ Below t w w' := by
  have Hl := Aside0.mk hcl
  have El := Aside0.mk hxl
  have Hr := Aside0.mk hcr
  have Er := Aside0.mk hxr
  have HT := Aside0.mk ht
  have HK := Aside0.mk hkT
  clear ht hkT hcl hxl hcr hxr
  go_enter Tryz.func64, Tryz.ntmps64
  go_wp2
  go_loopg [9] k (fun kq v9 w' => ∃ i : Nat, v9 = .int .i64 i ∧ Aside0 (kq + i = k) ∧ Aside0 (w'.heap[t]? = some (.cells (rowU (laid T i (fun i => cmpF 3 (X i) (Y i)))) 181 (0, 0))) ∧ Aside0 (Kept w w' (fun j => j = t)) ∧ Aside0 (Below t w w'))
  case atStart => exact ⟨0, rfl, ⟨by omega⟩, ⟨by rw [laid_zero]; exact HT.out⟩, ⟨kept_refl' w _⟩, ⟨Below.refl t w⟩⟩
  case round =>
    obtain ⟨i, rfl, HJ, B0, B1, B2⟩ := hrel
    have hi0 : i ≤ k := by have := HJ.out; omega
    by_cases hi : i < k
    · have hiI : (i : Int) < (k : Int) := by omega
      have hil : (i : Int) < (nl : Int) := by omega
      obtain ⟨x, hx⟩ : ∃ x, x = X i := ⟨_, rfl⟩
      have cl : wr.cell? ⟨gl, ol + i, none⟩ = some (.float .f32 (x).toNat) := by rw [hx]; exact (cell_of_row' (blk_kept Hl.out B1.out hgl) _).trans (El.out i hi)
      have Vx := Aside0.mk hx
      clear hx
      have hir : (i : Int) < (nr : Int) := by omega
      obtain ⟨y, hy⟩ : ∃ x, x = Y i := ⟨_, rfl⟩
      have cr : wr.cell? ⟨gr, or + i, none⟩ = some (.float .f32 (y).toNat) := by rw [hy]; exact (cell_of_row' (blk_kept Hr.out B1.out hgr) _).trans (Er.out i hi)
      have Vy := Aside0.mk hy
      clear hy
      have d0 := cell_of_row' B0.out i
      rw [rowU_get (by rw [laid_len]; have := HK.out; omega)] at d0
      have d1 := blk_frozen' B0.out i
      have hiT : i < T.length := by have := HK.out; omega
      have P0 := Aside0.mk (rowU_put B0.out i (cmpF 3 x y))
      obtain ⟨tb, htest⟩ : ∃ tb, (FloatKind.f32.format.order x.toNat y.toNat == some Ordering.gt || FloatKind.f32.format.order x.toNat y.toNat == some Ordering.eq) = tb := ⟨_, rfl⟩
      cases tb with
      | true =>
        have P1 := Aside0.mk (P0.out 1 (by unfold cmpF bU; simp [htest]))
        have P2 := P1.out
        rw [Vx.out, Vy.out] at P2
        rw [laid_step (f := (fun i => cmpF 3 (X i) (Y i))) hiT] at P2
        have P3 := Aside0.mk P2
        clear P0 P1 P2
        go_upto_region 3 with fail
        go_quiet (fail)
        go_wp2
        go_roundg (gk - 1)
        case measure => have := HJ.out; omega
        case rel => exact ⟨i + 1, by go_num, ⟨by have := HJ.out; omega⟩, P3, ⟨Kept.setCell B1.out (Or.inl rfl) _⟩, ⟨(pw_below_drewN B2.out _).setCell (p := ⟨t, i, none⟩) (Nat.le_refl t) _⟩⟩
      | false =>
        have P1 := Aside0.mk (P0.out 0 (by unfold cmpF bU; simp [htest]))
        have P2 := P1.out
        rw [Vx.out, Vy.out] at P2
        rw [laid_step (f := (fun i => cmpF 3 (X i) (Y i))) hiT] at P2
        have P3 := Aside0.mk P2
        clear P0 P1 P2
        go_upto_region 3 with fail
        go_quiet (fail)
        go_wp2
        go_roundg (gk - 1)
        case measure => have := HJ.out; omega
        case rel => exact ⟨i + 1, by go_num, ⟨by have := HJ.out; omega⟩, P3, ⟨Kept.setCell B1.out (Or.inl rfl) _⟩, ⟨(pw_below_drewN B2.out _).setCell (p := ⟨t, i, none⟩) (Nat.le_refl t) _⟩⟩
    · have hiI : ¬ (i : Int) < (k : Int) := by omega
      have e : i = k := by omega
      have B3 := Aside0.mk (show wr.heap[t]? = some (.cells (rowU (laid T k (fun i => cmpF 3 (X i) (Y i)))) 181 (0, 0)) by rw [← e]; exact B0.out)
      clear B0
      go_wp2
      go_end0
      exact ⟨rfl, B3.out, B1.out, B2.out⟩
set_option maxRecDepth 100000 in
theorem opF3AS (gl ol nl cl : Nat) (Cl : Array Value) (tl : TypeId) (X : Nat → Int) (Y : Int) (t k cu : Nat) (T : List Bool) (w : World) (hcl : w.heap[gl]? = some (.cells Cl tl (0, 0))) (hxl : ∀ i, i < k → Cl[ol + i]? = some (.float .f32 (X i).toNat)) (hgl : gl ≠ t) (hkl : k ≤ nl) (ht : w.heap[t]? = some (.cells (rowU T) 181 (0, 0))) (hkT : k ≤ T.length) (hT : T.length ≤ 100) :
    Calls Tryz.prog 65 #[.slice (some ⟨gl, ol, none⟩) nl cl, .float .f32 (Y).toNat, .slice (some ⟨t, 0, none⟩) k cu] w fun e w' => e = .returned (.tuple #[]) ∧ w'.heap[t]? = some (.cells (rowU (laid T k (fun i => cmpF 3 (X i) (Y)))) 181 (0, 0)) ∧ Kept w w' (fun j => j = t) ∧ Below t w w' := by
  have Hl := Aside0.mk hcl
  have El := Aside0.mk hxl
  have HT := Aside0.mk ht
  have HK := Aside0.mk hkT
  clear ht hkT hcl hxl
  go_enter Tryz.func65, Tryz.ntmps65
  go_wp2
  go_loopg [9] k (fun kq v9 w' => ∃ i : Nat, v9 = .int .i64 i ∧ Aside0 (kq + i = k) ∧ Aside0 (w'.heap[t]? = some (.cells (rowU (laid T i (fun i => cmpF 3 (X i) (Y)))) 181 (0, 0))) ∧ Aside0 (Kept w w' (fun j => j = t)) ∧ Aside0 (Below t w w'))
  case atStart => exact ⟨0, rfl, ⟨by omega⟩, ⟨by rw [laid_zero]; exact HT.out⟩, ⟨kept_refl' w _⟩, ⟨Below.refl t w⟩⟩
  case round =>
    obtain ⟨i, rfl, HJ, B0, B1, B2⟩ := hrel
    have hi0 : i ≤ k := by have := HJ.out; omega
    by_cases hi : i < k
    · have hiI : (i : Int) < (k : Int) := by omega
      have hil : (i : Int) < (nl : Int) := by omega
      obtain ⟨x, hx⟩ : ∃ x, x = X i := ⟨_, rfl⟩
      have cl : wr.cell? ⟨gl, ol + i, none⟩ = some (.float .f32 (x).toNat) := by rw [hx]; exact (cell_of_row' (blk_kept Hl.out B1.out hgl) _).trans (El.out i hi)
      have Vx := Aside0.mk hx
      clear hx
      have d0 := cell_of_row' B0.out i
      rw [rowU_get (by rw [laid_len]; have := HK.out; omega)] at d0
      have d1 := blk_frozen' B0.out i
      have hiT : i < T.length := by have := HK.out; omega
      have P0 := Aside0.mk (rowU_put B0.out i (cmpF 3 x Y))
      obtain ⟨tb, htest⟩ : ∃ tb, (FloatKind.f32.format.order x.toNat Y.toNat == some Ordering.gt || FloatKind.f32.format.order x.toNat Y.toNat == some Ordering.eq) = tb := ⟨_, rfl⟩
      cases tb with
      | true =>
        have P1 := Aside0.mk (P0.out 1 (by unfold cmpF bU; simp [htest]))
        have P2 := P1.out
        rw [Vx.out] at P2
        rw [laid_step (f := (fun i => cmpF 3 (X i) (Y))) hiT] at P2
        have P3 := Aside0.mk P2
        clear P0 P1 P2
        go_wp2
        go_roundg (gk - 1)
        case measure => have := HJ.out; omega
        case rel => exact ⟨i + 1, by go_num, ⟨by have := HJ.out; omega⟩, P3, ⟨Kept.setCell B1.out (Or.inl rfl) _⟩, ⟨(B2.out.setCell (p := ⟨t, i, none⟩) (Nat.le_refl t) _)⟩⟩
      | false =>
        have P1 := Aside0.mk (P0.out 0 (by unfold cmpF bU; simp [htest]))
        have P2 := P1.out
        rw [Vx.out] at P2
        rw [laid_step (f := (fun i => cmpF 3 (X i) (Y))) hiT] at P2
        have P3 := Aside0.mk P2
        clear P0 P1 P2
        go_wp2
        go_roundg (gk - 1)
        case measure => have := HJ.out; omega
        case rel => exact ⟨i + 1, by go_num, ⟨by have := HJ.out; omega⟩, P3, ⟨Kept.setCell B1.out (Or.inl rfl) _⟩, ⟨(B2.out.setCell (p := ⟨t, i, none⟩) (Nat.le_refl t) _)⟩⟩
    · have hiI : ¬ (i : Int) < (k : Int) := by omega
      have e : i = k := by omega
      have B3 := Aside0.mk (show wr.heap[t]? = some (.cells (rowU (laid T k (fun i => cmpF 3 (X i) (Y)))) 181 (0, 0)) by rw [← e]; exact B0.out)
      clear B0
      go_wp2
      go_end0
      exact ⟨rfl, B3.out, B1.out, B2.out⟩
set_option maxRecDepth 100000 in
theorem opF3SA (gr or nr cr : Nat) (Cr : Array Value) (tr : TypeId) (X : Int) (Y : Nat → Int) (t k cu : Nat) (T : List Bool) (w : World) (hcr : w.heap[gr]? = some (.cells Cr tr (0, 0))) (hxr : ∀ i, i < k → Cr[or + i]? = some (.float .f32 (Y i).toNat)) (hgr : gr ≠ t) (hkr : k ≤ nr) (ht : w.heap[t]? = some (.cells (rowU T) 181 (0, 0))) (hkT : k ≤ T.length) (hT : T.length ≤ 100) :
    Calls Tryz.prog 66 #[.float .f32 (X).toNat, .slice (some ⟨gr, or, none⟩) nr cr, .slice (some ⟨t, 0, none⟩) k cu] w fun e w' => e = .returned (.tuple #[]) ∧ w'.heap[t]? = some (.cells (rowU (laid T k (fun i => cmpF 3 (X) (Y i)))) 181 (0, 0)) ∧ Kept w w' (fun j => j = t) ∧ Below t w w' := by
  have Hr := Aside0.mk hcr
  have Er := Aside0.mk hxr
  have HT := Aside0.mk ht
  have HK := Aside0.mk hkT
  clear ht hkT hcr hxr
  go_enter Tryz.func66, Tryz.ntmps66
  go_wp2
  go_loopg [9] k (fun kq v9 w' => ∃ i : Nat, v9 = .int .i64 i ∧ Aside0 (kq + i = k) ∧ Aside0 (w'.heap[t]? = some (.cells (rowU (laid T i (fun i => cmpF 3 (X) (Y i)))) 181 (0, 0))) ∧ Aside0 (Kept w w' (fun j => j = t)) ∧ Aside0 (Below t w w'))
  case atStart => exact ⟨0, rfl, ⟨by omega⟩, ⟨by rw [laid_zero]; exact HT.out⟩, ⟨kept_refl' w _⟩, ⟨Below.refl t w⟩⟩
  case round =>
    obtain ⟨i, rfl, HJ, B0, B1, B2⟩ := hrel
    have hi0 : i ≤ k := by have := HJ.out; omega
    by_cases hi : i < k
    · have hiI : (i : Int) < (k : Int) := by omega
      have hir : (i : Int) < (nr : Int) := by omega
      obtain ⟨y, hy⟩ : ∃ x, x = Y i := ⟨_, rfl⟩
      have cr : wr.cell? ⟨gr, or + i, none⟩ = some (.float .f32 (y).toNat) := by rw [hy]; exact (cell_of_row' (blk_kept Hr.out B1.out hgr) _).trans (Er.out i hi)
      have Vy := Aside0.mk hy
      clear hy
      have d0 := cell_of_row' B0.out i
      rw [rowU_get (by rw [laid_len]; have := HK.out; omega)] at d0
      have d1 := blk_frozen' B0.out i
      have hiT : i < T.length := by have := HK.out; omega
      have P0 := Aside0.mk (rowU_put B0.out i (cmpF 3 X y))
      obtain ⟨tb, htest⟩ : ∃ tb, (FloatKind.f32.format.order X.toNat y.toNat == some Ordering.gt || FloatKind.f32.format.order X.toNat y.toNat == some Ordering.eq) = tb := ⟨_, rfl⟩
      cases tb with
      | true =>
        have P1 := Aside0.mk (P0.out 1 (by unfold cmpF bU; simp [htest]))
        have P2 := P1.out
        rw [Vy.out] at P2
        rw [laid_step (f := (fun i => cmpF 3 (X) (Y i))) hiT] at P2
        have P3 := Aside0.mk P2
        clear P0 P1 P2
        go_wp2
        go_roundg (gk - 1)
        case measure => have := HJ.out; omega
        case rel => exact ⟨i + 1, by go_num, ⟨by have := HJ.out; omega⟩, P3, ⟨Kept.setCell B1.out (Or.inl rfl) _⟩, ⟨(B2.out.setCell (p := ⟨t, i, none⟩) (Nat.le_refl t) _)⟩⟩
      | false =>
        have P1 := Aside0.mk (P0.out 0 (by unfold cmpF bU; simp [htest]))
        have P2 := P1.out
        rw [Vy.out] at P2
        rw [laid_step (f := (fun i => cmpF 3 (X) (Y i))) hiT] at P2
        have P3 := Aside0.mk P2
        clear P0 P1 P2
        go_wp2
        go_roundg (gk - 1)
        case measure => have := HJ.out; omega
        case rel => exact ⟨i + 1, by go_num, ⟨by have := HJ.out; omega⟩, P3, ⟨Kept.setCell B1.out (Or.inl rfl) _⟩, ⟨(B2.out.setCell (p := ⟨t, i, none⟩) (Nat.le_refl t) _)⟩⟩
    · have hiI : ¬ (i : Int) < (k : Int) := by omega
      have e : i = k := by omega
      have B3 := Aside0.mk (show wr.heap[t]? = some (.cells (rowU (laid T k (fun i => cmpF 3 (X) (Y i)))) 181 (0, 0)) by rw [← e]; exact B0.out)
      clear B0
      go_wp2
      go_end0
      exact ⟨rfl, B3.out, B1.out, B2.out⟩

end Go.Proofs.YtogbpljnekgfkaaGreatDoor.Cm
