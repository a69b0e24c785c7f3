/- float32: a comparison by its number. -/
import Derived.Test.YtogbpljnekgfkaaGreatDoorFm
import Derived.Test.YtogbpljnekgfkaaGreatDoorFaa
import Derived.Test.YtogbpljnekgfkaaGreatDoorFas
import Derived.Test.YtogbpljnekgfkaaGreatDoorFsa
namespace Go.Proofs.YtogbpljnekgfkaaGreatDoor.Cm
open Go.RowKit Go.IntWalk Go.Proofs.YtogbpljnekgfkaaGreatDoorW.PrintWords Go.Proofs.YtogbpljnekgfkaaGreatDoorW.PrintLast Go.Proofs.YtogbpljnekgfkaaGreatDoorW.PrintMore
attribute [local go_sem] max2_int min2_int max_two min_two max_three min_three max_four min_four
set_option linter.unusedVariables false
set_option linter.unusedSimpArgs false
set_option maxRecDepth 100000 in
theorem numF0 (op : Nat) (hop : op < 4) (gl gr ob ml mr cl cr m c fr n : Nat) (X : Array Value) (DL DR D : List Int) (w : World)
    (hl : w.heap[gl]? = some (.cells (rowB DL) 5 (0, 0))) (hr : w.heap[gr]? = some (.cells (rowB DR) 5 (0, 0))) (hd : w.heap[ob]? = some (.cells (rowX X D) 5 (0, 0)))
    (hll : ml = DL.length) (hrl : mr = DR.length) (hn : ml = 4 * n) (hmm : mr = ml) (hcl : ml ≤ cl) (hcr : mr ≤ cr) (hb : Bytes D) (hm : m = D.length) (hmc : m ≤ c) (hcc : c ≤ 9223372036854775807) (T0 : Tabs w) (hf : fr ≤ 7) (hfn : fr + n ≤ 8 * m) (hn300 : n ≤ 300) (h3 : 3 < ob) (hBL : Bytes DL) (hBR : Bytes DR) :
    Calls Tryz.prog 18 #[.int .i8 op, .int .i64 (0 : Nat), .slice (some ⟨gl, 0, none⟩) ml cl, .slice (some ⟨gr, 0, none⟩) mr cr, .slice (some ⟨ob, 0, none⟩) m c, .int .i64 fr] w fun e w' => e = .returned (.tuple #[]) ∧ w'.heap[ob]? = some (.cells (rowX X (S D fr (fun i => cmpF op (oneF DL i) (oneF DR i)) n)) 5 (0, 0)) ∧ Kept w w' (fun k => k = ob) ∧ Below ob w w' := by
  subst hmm
  have hos := blk_lt hd
  have h3s := T0.lt.2
  have H := Aside0.mk (fun (W : World) (p : Nat) (hW : Below w.heap.size w W) (hp : w.heap.size ≤ p) (hcb : W.heap[p]? = some (.cells #[.func (.func (55 + 3 * op)) #[] #[]] 145 (0, 0))) =>
    Calls.mono (kAAF (55 + 3 * op) (cmpF op) (entAAF op hop) (isAAF op hop) gl gr ob p mr cl cr m c fr n X DL DR D W (blk_below hl hW) (blk_below hr hW) (blk_below hd hW) hcb hll hrl hn hcl hcr hb hm hmc hcc (T0.below hW h3s) hf hfn hn300 h3 (by omega) hBL hBR)
      (fun e w' h => (⟨h.1, h.2.1, ⟨Nat.le_trans hW.size h.2.2.1.1, fun i hi hne => (h.2.2.1.2 i (Nat.lt_of_lt_of_le hi hW.size) hne).trans (hW.block i hi)⟩, (hW.mono (by omega)).trans h.2.2.2⟩ : e = .returned (.tuple #[]) ∧ w'.heap[ob]? = some (.cells (rowX X (S D fr (fun i => cmpF op (oneF DL i) (oneF DR i)) n)) 5 (0, 0)) ∧ Kept w w' (fun k => k = ob) ∧ Below ob w w')))
  have H43 := Aside0.mk (getCmpF op hop w)
  obtain ⟨w1, hw1⟩ : ∃ w1, w1 = w.alloc (.cells #[.func (.func (55 + 3 * op)) #[] #[], .func (.func (55 + 3 * op + 1)) #[] #[], .func (.func (55 + 3 * op + 2)) #[] #[]] 151 (0, 0)) := ⟨_, rfl⟩
  have hB1 := Aside0.mk (show Below w.heap.size w w1 by rw [hw1]; exact below_alloc (Below.refl _ _) _)
  have H42 := Aside0.mk (genF w.heap.size (55 + 3 * op) (55 + 3 * op + 1) (55 + 3 * op + 2) w1 (by rw [hw1]; exact blk_new w _))
  rw [← hw1] at H43
  clear hl hr hd hll hrl hn hb hm hmc hcc T0 hf hfn hn300 h3 hos h3s hw1 hcl hcr hBL hBR
  go_enter Tryz.func18, Tryz.ntmps18
  go_wp2_with (first | (go_at_call 33; refine Calls.mono H43.out ?_; rintro e w2 ⟨rfl, rfl⟩) | (go_at_call 32; refine Calls.mono H42.out ?_; rintro e w3 ⟨d, p, q, r, rfl, gp, gq, gr', hd3, hp3, hq3, hr3, hB3⟩; have HB := Aside0.mk (hB1.out.trans (hB3.mono hB1.out.size)); have HG := Aside0.mk (Nat.le_trans hB1.out.size gp); have HX := Aside0.mk hp3; have HK := Aside0.mk (kernelOf d 0 _ _ _ w3 hd3); clear hd3 hp3 hq3 hr3 hB3 gp gq gr') | (go_at_call 31; refine Calls.mono HK.out ?_; rintro e w4 ⟨rfl, rfl⟩) | (go_at_call 88; refine Calls.mono (H.out _ _ HB.out HG.out HX.out) ?_; rintro e w5 ⟨rfl, hfin⟩))
  go_end0
  exact ⟨rfl, hfin⟩
set_option maxRecDepth 100000 in
theorem numF1 (op : Nat) (hop : op < 4) (gl gr ob ml mr cl cr m c fr n : Nat) (X : Array Value) (DL DR D : List Int) (w : World)
    (hl : w.heap[gl]? = some (.cells (rowB DL) 5 (0, 0))) (hr : w.heap[gr]? = some (.cells (rowB DR) 5 (0, 0))) (hd : w.heap[ob]? = some (.cells (rowX X D) 5 (0, 0)))
    (hll : ml = DL.length) (hrl : mr = DR.length) (hn : ml = 4 * n) (hz0 : 4 ≤ mr) (hmr : mr ≤ 100000) (hcl : ml ≤ cl) (hcr : mr ≤ cr) (hb : Bytes D) (hm : m = D.length) (hmc : m ≤ c) (hcc : c ≤ 9223372036854775807) (T0 : Tabs w) (hf : fr ≤ 7) (hfn : fr + n ≤ 8 * m) (hn300 : n ≤ 300) (h3 : 3 < ob) (hBL : Bytes DL) (hBR : Bytes DR) :
    Calls Tryz.prog 18 #[.int .i8 op, .int .i64 (1 : Nat), .slice (some ⟨gl, 0, none⟩) ml cl, .slice (some ⟨gr, 0, none⟩) mr cr, .slice (some ⟨ob, 0, none⟩) m c, .int .i64 fr] w fun e w' => e = .returned (.tuple #[]) ∧ w'.heap[ob]? = some (.cells (rowX X (S D fr (fun i => cmpF op (oneF DL i) (oneF DR 0)) n)) 5 (0, 0)) ∧ Kept w w' (fun k => k = ob) ∧ Below ob w w' := by
  have hos := blk_lt hd
  have h3s := T0.lt.2
  have H := Aside0.mk (fun (W : World) (p : Nat) (hW : Below w.heap.size w W) (hp : w.heap.size ≤ p) (hcb : W.heap[p]? = some (.cells #[.func (.func (55 + 3 * op + 1)) #[] #[]] 147 (0, 0))) =>
    Calls.mono (kASF (55 + 3 * op + 1) (cmpF op) (entASF op hop) (isASF op hop) gl gr ob p ml mr cl cr m c fr n X DL DR D W (blk_below hl hW) (blk_below hr hW) (blk_below hd hW) hcb hll hrl hn hz0 hmr hcl hcr hb hm hmc hcc (T0.below hW h3s) hf hfn hn300 h3 (by omega) hBL hBR)
      (fun e w' h => (⟨h.1, h.2.1, ⟨Nat.le_trans hW.size h.2.2.1.1, fun i hi hne => (h.2.2.1.2 i (Nat.lt_of_lt_of_le hi hW.size) hne).trans (hW.block i hi)⟩, (hW.mono (by omega)).trans h.2.2.2⟩ : e = .returned (.tuple #[]) ∧ w'.heap[ob]? = some (.cells (rowX X (S D fr (fun i => cmpF op (oneF DL i) (oneF DR 0)) n)) 5 (0, 0)) ∧ Kept w w' (fun k => k = ob) ∧ Below ob w w')))
  have H43 := Aside0.mk (getCmpF op hop w)
  obtain ⟨w1, hw1⟩ : ∃ w1, w1 = w.alloc (.cells #[.func (.func (55 + 3 * op)) #[] #[], .func (.func (55 + 3 * op + 1)) #[] #[], .func (.func (55 + 3 * op + 2)) #[] #[]] 151 (0, 0)) := ⟨_, rfl⟩
  have hB1 := Aside0.mk (show Below w.heap.size w w1 by rw [hw1]; exact below_alloc (Below.refl _ _) _)
  have H42 := Aside0.mk (genF w.heap.size (55 + 3 * op) (55 + 3 * op + 1) (55 + 3 * op + 2) w1 (by rw [hw1]; exact blk_new w _))
  rw [← hw1] at H43
  clear hl hr hd hll hrl hn hb hm hmc hcc T0 hf hfn hn300 h3 hos h3s hw1 hcl hcr hBL hBR
  go_enter Tryz.func18, Tryz.ntmps18
  go_wp2_with (first | (go_at_call 33; refine Calls.mono H43.out ?_; rintro e w2 ⟨rfl, rfl⟩) | (go_at_call 32; refine Calls.mono H42.out ?_; rintro e w3 ⟨d, p, q, r, rfl, gp, gq, gr', hd3, hp3, hq3, hr3, hB3⟩; have HB := Aside0.mk (hB1.out.trans (hB3.mono hB1.out.size)); have HG := Aside0.mk (Nat.le_trans hB1.out.size gq); have HX := Aside0.mk hq3; have HK := Aside0.mk (kernelOf d 1 _ _ _ w3 hd3); clear hd3 hp3 hq3 hr3 hB3 gp gq gr') | (go_at_call 31; refine Calls.mono HK.out ?_; rintro e w4 ⟨rfl, rfl⟩) | (go_at_call 92; refine Calls.mono (H.out _ _ HB.out HG.out HX.out) ?_; rintro e w5 ⟨rfl, hfin⟩))
  go_end0
  exact ⟨rfl, hfin⟩
set_option maxRecDepth 100000 in
theorem numF2 (op : Nat) (hop : op < 4) (gl gr ob ml mr cl cr m c fr n : Nat) (X : Array Value) (DL DR D : List Int) (w : World)
    (hl : w.heap[gl]? = some (.cells (rowB DL) 5 (0, 0))) (hr : w.heap[gr]? = some (.cells (rowB DR) 5 (0, 0))) (hd : w.heap[ob]? = some (.cells (rowX X D) 5 (0, 0)))
    (hll : ml = DL.length) (hrl : mr = DR.length) (hn : mr = 4 * n) (hz0 : 4 ≤ ml) (hml : ml ≤ 100000) (hcl : ml ≤ cl) (hcr : mr ≤ cr) (hb : Bytes D) (hm : m = D.length) (hmc : m ≤ c) (hcc : c ≤ 9223372036854775807) (T0 : Tabs w) (hf : fr ≤ 7) (hfn : fr + n ≤ 8 * m) (hn300 : n ≤ 300) (h3 : 3 < ob) (hBL : Bytes DL) (hBR : Bytes DR) :
    Calls Tryz.prog 18 #[.int .i8 op, .int .i64 (2 : Nat), .slice (some ⟨gl, 0, none⟩) ml cl, .slice (some ⟨gr, 0, none⟩) mr cr, .slice (some ⟨ob, 0, none⟩) m c, .int .i64 fr] w fun e w' => e = .returned (.tuple #[]) ∧ w'.heap[ob]? = some (.cells (rowX X (S D fr (fun i => cmpF op (oneF DL 0) (oneF DR i)) n)) 5 (0, 0)) ∧ Kept w w' (fun k => k = ob) ∧ Below ob w w' := by
  have hos := blk_lt hd
  have h3s := T0.lt.2
  have H := Aside0.mk (fun (W : World) (p : Nat) (hW : Below w.heap.size w W) (hp : w.heap.size ≤ p) (hcb : W.heap[p]? = some (.cells #[.func (.func (55 + 3 * op + 2)) #[] #[]] 149 (0, 0))) =>
    Calls.mono (kSAF (55 + 3 * op + 2) (cmpF op) (entSAF op hop) (isSAF op hop) gl gr ob p ml mr cl cr m c fr n X DL DR D W (blk_below hl hW) (blk_below hr hW) (blk_below hd hW) hcb hll hrl hn hz0 hml hcl hcr hb hm hmc hcc (T0.below hW h3s) hf hfn hn300 h3 (by omega) hBL hBR)
      (fun e w' h => (⟨h.1, h.2.1, ⟨Nat.le_trans hW.size h.2.2.1.1, fun i hi hne => (h.2.2.1.2 i (Nat.lt_of_lt_of_le hi hW.size) hne).trans (hW.block i hi)⟩, (hW.mono (by omega)).trans h.2.2.2⟩ : e = .returned (.tuple #[]) ∧ w'.heap[ob]? = some (.cells (rowX X (S D fr (fun i => cmpF op (oneF DL 0) (oneF DR i)) n)) 5 (0, 0)) ∧ Kept w w' (fun k => k = ob) ∧ Below ob w w')))
  have H43 := Aside0.mk (getCmpF op hop w)
  obtain ⟨w1, hw1⟩ : ∃ w1, w1 = w.alloc (.cells #[.func (.func (55 + 3 * op)) #[] #[], .func (.func (55 + 3 * op + 1)) #[] #[], .func (.func (55 + 3 * op + 2)) #[] #[]] 151 (0, 0)) := ⟨_, rfl⟩
  have hB1 := Aside0.mk (show Below w.heap.size w w1 by rw [hw1]; exact below_alloc (Below.refl _ _) _)
  have H42 := Aside0.mk (genF w.heap.size (55 + 3 * op) (55 + 3 * op + 1) (55 + 3 * op + 2) w1 (by rw [hw1]; exact blk_new w _))
  rw [← hw1] at H43
  clear hl hr hd hll hrl hn hb hm hmc hcc T0 hf hfn hn300 h3 hos h3s hw1 hcl hcr hBL hBR
  go_enter Tryz.func18, Tryz.ntmps18
  go_wp2_with (first | (go_at_call 33; refine Calls.mono H43.out ?_; rintro e w2 ⟨rfl, rfl⟩) | (go_at_call 32; refine Calls.mono H42.out ?_; rintro e w3 ⟨d, p, q, r, rfl, gp, gq, gr', hd3, hp3, hq3, hr3, hB3⟩; have HB := Aside0.mk (hB1.out.trans (hB3.mono hB1.out.size)); have HG := Aside0.mk (Nat.le_trans hB1.out.size gr'); have HX := Aside0.mk hr3; have HK := Aside0.mk (kernelOf d 2 _ _ _ w3 hd3); clear hd3 hp3 hq3 hr3 hB3 gp gq gr') | (go_at_call 31; refine Calls.mono HK.out ?_; rintro e w4 ⟨rfl, rfl⟩) | (go_at_call 94; refine Calls.mono (H.out _ _ HB.out HG.out HX.out) ?_; rintro e w5 ⟨rfl, hfin⟩))
  go_end0
  exact ⟨rfl, hfin⟩

end Go.Proofs.YtogbpljnekgfkaaGreatDoor.Cm
