/- float32: its size, its bytes. -/
import Derived.Test.YtogbpljnekgfkaaGreatDoorC0
import Derived.Lib.EndianBits
namespace Go.Proofs.YtogbpljnekgfkaaGreatDoor.Cm
open Go.RowKit Go.IntWalk Go.Proofs.YtogbpljnekgfkaaGreatDoorW.PrintWords Go.Proofs.YtogbpljnekgfkaaGreatDoorW.PrintLast Go.Proofs.YtogbpljnekgfkaaGreatDoorW.PrintMore
attribute [local go_sem] max2_int min2_int max_two min_two max_three min_three max_four min_four
set_option linter.unusedVariables false
set_option linter.unusedSimpArgs false
theorem taF (v : Value) (w : World) : (Instr.typeAssert (.iface 87 v) 20 87 true).run Tryz.prog w = .ok (.tuple #[v, .bool true]) w := as_hit Tryz.underlying87 v w
theorem tbF88 (v : Value) (w : World) : (Instr.typeAssert (.iface 87 v) 20 88 true).run Tryz.prog w = .ok (.tuple #[.pointer none, .bool false]) w := as_miss Tryz.underlying88 (by kernel_rfl) rfl v w
theorem tbF89 (v : Value) (w : World) : (Instr.typeAssert (.iface 87 v) 20 89 true).run Tryz.prog w = .ok (.tuple #[.pointer none, .bool false]) w := as_miss Tryz.underlying89 (by kernel_rfl) rfl v w
theorem tbF90 (v : Value) (w : World) : (Instr.typeAssert (.iface 87 v) 20 90 true).run Tryz.prog w = .ok (.tuple #[.pointer none, .bool false]) w := as_miss Tryz.underlying90 (by kernel_rfl) rfl v w
theorem tbF91 (v : Value) (w : World) : (Instr.typeAssert (.iface 87 v) 20 91 true).run Tryz.prog w = .ok (.tuple #[.pointer none, .bool false]) w := as_miss Tryz.underlying91 (by kernel_rfl) rfl v w
theorem tbF92 (v : Value) (w : World) : (Instr.typeAssert (.iface 87 v) 20 92 true).run Tryz.prog w = .ok (.tuple #[.pointer none, .bool false]) w := as_miss Tryz.underlying92 (by kernel_rfl) rfl v w
theorem tbF93 (v : Value) (w : World) : (Instr.typeAssert (.iface 87 v) 20 93 true).run Tryz.prog w = .ok (.tuple #[.pointer none, .bool false]) w := as_miss Tryz.underlying93 (by kernel_rfl) rfl v w
theorem tbF94 (v : Value) (w : World) : (Instr.typeAssert (.iface 87 v) 20 94 true).run Tryz.prog w = .ok (.tuple #[.pointer none, .bool false]) w := as_miss Tryz.underlying94 (by kernel_rfl) rfl v w
theorem tbF95 (v : Value) (w : World) : (Instr.typeAssert (.iface 87 v) 20 95 true).run Tryz.prog w = .ok (.tuple #[.pointer none, .bool false]) w := as_miss Tryz.underlying95 (by kernel_rfl) rfl v w
theorem tbF96 (v : Value) (w : World) : (Instr.typeAssert (.iface 87 v) 20 96 true).run Tryz.prog w = .ok (.tuple #[.pointer none, .bool false]) w := as_miss Tryz.underlying96 (by kernel_rfl) rfl v w
theorem tbF97 (v : Value) (w : World) : (Instr.typeAssert (.iface 87 v) 20 97 true).run Tryz.prog w = .ok (.tuple #[.pointer none, .bool false]) w := as_miss Tryz.underlying97 (by kernel_rfl) rfl v w
theorem tbF98 (v : Value) (w : World) : (Instr.typeAssert (.iface 87 v) 20 98 true).run Tryz.prog w = .ok (.tuple #[.pointer none, .bool false]) w := as_miss Tryz.underlying98 (by kernel_rfl) rfl v w
attribute [local go_sem] taF tbF88 tbF89 tbF90 tbF91 tbF92 tbF93 tbF94 tbF95 tbF96 tbF97 tbF98
set_option maxRecDepth 100000 in
theorem sizeF (w : World) : Calls Tryz.prog 29 #[] w fun e w' => e = .returned (.int .i64 4) ∧ w' = w.alloc (.cells #[.float .f32 0] 29 (0, 0)) := by
  go_enter Tryz.func29, Tryz.ntmps29
  go_wp2
  go_ret
  exact ⟨rfl, rfl⟩
theorem SizeF (w : World) : Calls Tryz.prog 15 #[] w fun e w' => e = .returned (.int .i64 4) ∧ w' = w.alloc (.cells #[.float .f32 0] 29 (0, 0)) := by
  go_enter Tryz.func15, Tryz.ntmps15
  go_wp2_with (go_at_call 29; refine Calls.mono (sizeF _) ?_; rintro e w1 ⟨rfl, rfl⟩)
  go_ret
  exact ⟨rfl, rfl⟩
/-- Four bytes of a word, the least first. -/
def by4 (u : Nat) (k : Nat) : Int := ((u / 256 ^ k % 256 : Nat) : Int)
def set4 (D : List Int) (o : Nat) (u : Nat) : List Int := (((D.set o (by4 u 0)).set (o + 1) (by4 u 1)).set (o + 2) (by4 u 2)).set (o + 3) (by4 u 3)
theorem by4_0 (u : Nat) : (u : Int) % 256 = by4 u 0 := by unfold by4; simp
theorem by4_1 (u : Nat) : (u : Int) / 256 % 256 = by4 u 1 := by unfold by4; simp
theorem by4_2 (u : Nat) : (u : Int) / 65536 % 256 = by4 u 2 := by unfold by4; simp
theorem by4_3 (u : Nat) (h : u < 4294967296) : (u : Int) / 16777216 = by4 u 3 := by unfold by4; rw [show (256 : Nat) ^ 3 = 16777216 from rfl]; omega
set_option maxHeartbeats 8000000 in
set_option maxRecDepth 100000 in
theorem put32 (g o n c : Nat) (u : Nat) (hu : u < 4294967296) (D : List Int) (w : World) (hd : w.heap[g]? = some (.cells (rowB D) 5 (0, 0))) (hn : 4 ≤ n) (ho : o + 4 ≤ D.length) :
    Calls Tryz.prog 46 #[.agg #[], .slice (some ⟨g, o, none⟩) n c, .int .u32 u] w fun e w' => e = .returned (.tuple #[]) ∧ w'.heap[g]? = some (.cells (rowB (set4 D o u)) 5 (0, 0)) ∧ Kept w w' (fun k => k = g) ∧ Below g w w' := by
  have hg := blk_lt hd
  obtain ⟨w1, hw1⟩ : ∃ w1, w1 = w.alloc (.cells #[] 110 (0, 0)) := ⟨_, rfl⟩
  have D1 := show w1.heap[g]? = some (.cells (rowB D) 5 (0, 0)) by rw [hw1]; exact blk_alloc hd (.cells #[] 110 (0, 0))
  have i3 := (cell_of_row' D1 (o + 3)).trans (rowB_get (by omega))
  have c0 := (cell_of_row' D1 o).trans (rowB_get (by omega))
  have f0 := blk_frozen' D1 o
  have K1 := Aside0.mk (show Kept w w1 (fun k => k = g) by rw [hw1]; exact Kept.alloc (kept_refl' w _) _)
  have B1 := Aside0.mk (show Below g w w1 by rw [hw1]; exact (Below.refl g w).alloc (by omega) _)
  have HW := Aside0.mk hw1.symm
  have HD := Aside0.mk D1
  have HU := Aside0.mk hu
  clear hd D1 hw1 hu
  go_enter Tryz.func46, Tryz.ntmps46
  go_upto_region 1 with fail
  rw [HW.out]
  go_upto_region 3 with fail
  obtain ⟨w2, hw2⟩ : ∃ w2, w2 = w1.setCell ⟨g, o, none⟩ (.int .u8 ((u : Int) % 256)) := ⟨_, rfl⟩
  rw [← hw2]
  have D2 := show w2.heap[g]? = some (.cells (rowB (D.set (o) (by4 u 0))) 5 (0, 0)) by rw [hw2, by4_0]; exact rowB_put HD.out (o) _
  have HD2 := Aside0.mk D2
  have HK2 := Aside0.mk hw2
  have c1 := (cell_of_row' D2 (o + 1)).trans (rowB_get (by simp only [List.length_set]; omega))
  have f1 := blk_frozen' D2 (o + 1)
  clear D2 hw2 c0 f0 i3
  go_upto_region 4 with fail
  obtain ⟨w3, hw3⟩ : ∃ w3, w3 = w2.setCell ⟨g, o + 1, none⟩ (.int .u8 ((u : Int) / 256 % 256)) := ⟨_, rfl⟩
  rw [← hw3]
  have D3 := show w3.heap[g]? = some (.cells (rowB ((D.set (o) (by4 u 0)).set (o + 1) (by4 u 1))) 5 (0, 0)) by rw [hw3, by4_1]; exact rowB_put HD2.out (o + 1) _
  have HD3 := Aside0.mk D3
  have HK3 := Aside0.mk hw3
  have c2 := (cell_of_row' D3 (o + 2)).trans (rowB_get (by simp only [List.length_set]; omega))
  have f2 := blk_frozen' D3 (o + 2)
  clear D3 hw3 c1 f1
  go_upto_region 5 with fail
  obtain ⟨w4, hw4⟩ : ∃ w4, w4 = w3.setCell ⟨g, o + 2, none⟩ (.int .u8 ((u : Int) / 65536 % 256)) := ⟨_, rfl⟩
  rw [← hw4]
  have D4 := show w4.heap[g]? = some (.cells (rowB (((D.set (o) (by4 u 0)).set (o + 1) (by4 u 1)).set (o + 2) (by4 u 2))) 5 (0, 0)) by rw [hw4, by4_2]; exact rowB_put HD3.out (o + 2) _
  have HD4 := Aside0.mk D4
  have HK4 := Aside0.mk hw4
  have c3 := (cell_of_row' D4 (o + 3)).trans (rowB_get (by simp only [List.length_set]; omega))
  have f3 := blk_frozen' D4 (o + 3)
  clear D4 hw4 c2 f2
  go_wp2
  go_end0
  rw [by4_3 u HU.out, show by4 u 3 % 256 = by4 u 3 by unfold by4; omega]
  refine ⟨rfl, rowB_put HD4.out (o + 3) _, ?_, ?_⟩
  · rw [HK4.out, HK3.out, HK2.out]
    exact Kept.setCell (Kept.setCell (Kept.setCell (Kept.setCell K1.out (Or.inl rfl) _) (Or.inl rfl) _) (Or.inl rfl) _) (Or.inl rfl) _
  · rw [HK4.out, HK3.out, HK2.out]
    exact (((B1.out.setCell (p := ⟨g, o, none⟩) (Nat.le_refl g) _).setCell (p := ⟨g, o + 1, none⟩) (Nat.le_refl g) _).setCell (p := ⟨g, o + 2, none⟩) (Nat.le_refl g) _).setCell (p := ⟨g, o + 3, none⟩) (Nat.le_refl g) _
/-- The word that four bytes spell. -/
def word4 (D : List Int) (o : Nat) : Int := D.getD o 0 + D.getD (o + 1) 0 * 256 + D.getD (o + 2) 0 * 65536 + D.getD (o + 3) 0 * 16777216
set_option maxHeartbeats 8000000 in
set_option maxRecDepth 100000 in
theorem get32 (g o n c : Nat) (D : List Int) (w : World) (hd : w.heap[g]? = some (.cells (rowB D) 5 (0, 0))) (hB : Bytes D) (hn : 4 ≤ n) (ho : o + 4 ≤ D.length) :
    Calls Tryz.prog 116 #[.agg #[], .slice (some ⟨g, o, none⟩) n c] w fun e w' => e = .returned (.int .u32 (word4 D o)) ∧ Below w.heap.size w w' := by
  have D1 : (w.alloc (.cells #[] 110 (0, 0))).heap[g]? = some (.cells (rowB D) 5 (0, 0)) := blk_alloc hd (.cells #[] 110 (0, 0))
  have D2 : (w.alloc (.cells #[] 110 (0, 0))).drew.heap[g]? = some (.cells (rowB D) 5 (0, 0)) := D1
  obtain ⟨x0, e0⟩ := byte_fin hB o
  obtain ⟨x1, e1⟩ := byte_fin hB (o + 1)
  obtain ⟨x2, e2⟩ := byte_fin hB (o + 2)
  obtain ⟨x3, e3⟩ := byte_fin hB (o + 3)
  have i0 := (cell_of_row' D1 (o + 3)).trans (rowB_get (by omega))
  have c0 := (cell_of_row' D2 o).trans (rowB_get (by omega))
  have c1 := (cell_of_row' D2 (o + 1)).trans (rowB_get (by omega))
  have c2 := (cell_of_row' D2 (o + 2)).trans (rowB_get (by omega))
  have c3 := (cell_of_row' D2 (o + 3)).trans (rowB_get (by omega))
  have hw : word4 D o = (x0.val : Int) + x1.val * 256 + x2.val * 65536 + x3.val * 16777216 := by unfold word4; rw [e0, e1, e2, e3]
  rw [e0] at c0
  rw [e1] at c1
  rw [e2] at c2
  rw [e3] at c3 i0
  rw [hw]
  have h0 := x0.isLt
  have h1 := x1.isLt
  have h2 := x2.isLt
  have h3 := x3.isLt
  clear hd D1 D2 e0 e1 e2 e3 hw
  go_enter Tryz.func116, Tryz.ntmps116
  go_wp2
  go_region
  go_wp2
  go_ret
  refine ⟨?_, Below.drew ((Below.refl _ w).alloc (Nat.le_refl _) _)⟩
  simp (disch := omega) only [u32_or8, u32_or16, u32_or24]
  rfl
theorem run6 (y : Nat) (w : World) : (callFunc 6 #[.float .f32 y]).run Tryz.prog w = .ok (.value (.int .u32 (y : Int))) w := by
  rw [run_callFunc_extern Tryz.func6 (by kernel_rfl) (by kernel_rfl) (by kernel_rfl) (e := Extern.MathFloatBits.float32bits) (by kernel_rfl)]
  rfl
theorem run17 (x : Int) (w : World) : (callFunc 17 #[.int .u32 x]).run Tryz.prog w = .ok (.value (.float .f32 x.toNat)) w := by
  rw [run_callFunc_extern Tryz.func17 (by kernel_rfl) (by kernel_rfl) (by kernel_rfl) (e := Extern.MathFloatBits.float32frombits) (by kernel_rfl)]
  rfl
attribute [local go_sem] run6
set_option maxHeartbeats 8000000 in
set_option maxRecDepth 100000 in
theorem putOneF (g o n c y : Nat) (hy : y < 4294967296) (D : List Int) (w : World) (hd : w.heap[g]? = some (.cells (rowB D) 5 (0, 0))) (hn : 4 ≤ n) (ho : o + 4 ≤ D.length) :
    Calls Tryz.prog 30 #[.slice (some ⟨g, o, none⟩) n c, .float .f32 y] w fun e w' => e = .returned (.tuple #[]) ∧ w'.heap[g]? = some (.cells (rowB (set4 D o y)) 5 (0, 0)) ∧ Kept w w' (fun k => k = g) ∧ Below g w w' := by
  have hg := blk_lt hd
  obtain ⟨w1, hw1⟩ : ∃ w1, w1 = w.alloc (.cells #[.float .f32 y] 29 (0, 0)) := ⟨_, rfl⟩
  have K1 := Aside0.mk (show Kept w w1.drew (fun k => k = g) by rw [hw1]; exact Kept.drew (Kept.alloc (kept_refl' w _) _))
  have B1 := Aside0.mk (show Below g w w1.drew by rw [hw1]; exact ((Below.refl g w).alloc (by omega) _).drew)
  have x1 : w1.drew.cell? ⟨w.heap.size, 0, none⟩ = some (.float .f32 y) := (cell_of_row' (show w1.drew.heap[w.heap.size]? = some (.cells #[.float .f32 y] 29 (0, 0)) by rw [hw1]; exact blk_new w _) 0).trans rfl
  have H46 := Aside0.mk (put32 g o n c y hy D w1.drew (show w1.drew.heap[g]? = some (.cells (rowB D) 5 (0, 0)) by rw [hw1]; exact blk_alloc hd _) hn ho)
  have HW := Aside0.mk hw1.symm
  clear hw1 hd
  go_enter Tryz.func30, Tryz.ntmps30
  go_upto_region 25 with fail
  rw [HW.out]
  go_region_with (go_at_call 46; refine Calls.mono H46.out ?_; rintro e w3 ⟨rfl, h1, h2, h3⟩; have H1 := Aside0.mk h1; have H2 := Aside0.mk h2; have H3 := Aside0.mk h3; clear h1 h2 h3)
  all_goals
    go_wp2
    go_end0
    exact ⟨rfl, H1.out, ⟨Nat.le_trans K1.out.1 H2.out.1, fun i hi hne => (H2.out.2 i (Nat.lt_of_lt_of_le hi K1.out.1) hne).trans (K1.out.2 i hi hne)⟩, B1.out.trans H3.out⟩

end Go.Proofs.YtogbpljnekgfkaaGreatDoor.Cm
