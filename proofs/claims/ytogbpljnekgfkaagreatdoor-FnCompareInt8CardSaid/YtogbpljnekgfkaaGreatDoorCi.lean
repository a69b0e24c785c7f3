/- int8: impl.CompareInt8. -/
import Derived.Test.YtogbpljnekgfkaaGreatDoorCb1
import Derived.Test.YtogbpljnekgfkaaGreatDoorCj
namespace Go.Proofs.YtogbpljnekgfkaaGreatDoor.Cm
open Go.RowKit Go.IntWalk Go.Proofs.YtogbpljnekgfkaaGreatDoorW.PrintWords Go.Proofs.YtogbpljnekgfkaaGreatDoorW.PrintLast Go.Proofs.YtogbpljnekgfkaaGreatDoorW.PrintMore
attribute [local go_sem] max2_int min2_int max_two min_two max_three min_three max_four min_four
set_option linter.unusedVariables false
set_option linter.unusedSimpArgs false
/-- The number that a word stands for; what it is as bytes, and back. -/
def valI (u : Int) : Int := IntKind.i8.wrap u
def bytI (al : List Int) (i : Nat) : Int := IntKind.u8.wrap (IntKind.i8.wrap (al.getD i 0))
theorem one_bytI {al : List Int} {i : Nat} (h : i < al.length) : oneI ((List.range al.length).map (bytI al)) i = valI (al.getD i 0) := by
  unfold oneI valI
  rw [List.getD_eq_getElem?_getD, List.getElem?_map, List.getElem?_range h]
  simp only [Option.map_some, Option.getD_some, bytI]
  simp only [IntKind.wrap, IntKind.bits, IntKind.signed]
  simp
  omega
/-- What the comparison of two lists says at place i. -/
def resI (op how : Nat) (al bl : List Int) (i : Nat) : Bool := cmpI op (valI (al.getD (if how = 2 then 0 else i) 0)) (valI (bl.getD (if how = 1 then 0 else i) 0))
theorem S_congr {D : List Int} {p n : Nat} {g h : Nat → Bool} (e : ∀ i, i < n → g i = h i) : S D p g n = S D p h n := by
  unfold S
  rw [List.map_congr_left fun i hi => e i (List.mem_range.1 hi)]
/-- A comparison by its number, whichever way. -/
theorem numI (op how : Nat) (hop : op < 4) (hhow : how < 3) (gl gr ob m cl cr c fr n : Nat) (X : Array Value) (al bl D : List Int) (w : World)
    (hl : w.heap[gl]? = some (.cells (rowB ((List.range al.length).map (bytI al))) 5 (0, 0))) (hr : w.heap[gr]? = some (.cells (rowB ((List.range bl.length).map (bytI bl))) 5 (0, 0))) (hd : w.heap[ob]? = some (.cells (rowX X D) 5 (0, 0)))
    (h0 : how = 0 → n = al.length ∧ n = bl.length) (h1 : how = 1 → n = al.length ∧ 0 < bl.length) (h2 : how = 2 → n = bl.length ∧ 0 < al.length) (hal : al.length ≤ 300) (hbl : bl.length ≤ 300) (hcl : al.length ≤ cl) (hcr : bl.length ≤ cr) (hb : Bytes D) (hm : m = D.length) (hmc : m ≤ c) (hcc : c ≤ 9223372036854775807) (T0 : Tabs w) (hf : fr ≤ 7) (hfn : fr + n ≤ 8 * m) (h3 : 3 < ob) :
    Calls Tryz.prog 28 #[.int .i8 op, .int .i64 how, .slice (some ⟨gl, 0, none⟩) al.length cl, .slice (some ⟨gr, 0, none⟩) bl.length cr, .slice (some ⟨ob, 0, none⟩) m c, .int .i64 fr] w fun e w' => e = .returned (.tuple #[]) ∧ w'.heap[ob]? = some (.cells (rowX X (S D fr (resI op how al bl) n)) 5 (0, 0)) ∧ Kept w w' (fun k => k = ob) ∧ Below ob w w' := by
  have la : al.length = ((List.range al.length).map (bytI al)).length := by simp
  have lb : bl.length = ((List.range bl.length).map (bytI bl)).length := by simp
  match how, hhow with
  | 0, _ =>
    obtain ⟨e1, e2⟩ := h0 rfl
    refine Calls.mono (numI0 op hop gl gr ob al.length bl.length cl cr m c fr n X _ _ D w hl hr hd la lb (by omega) (by omega) hcl hcr hb hm hmc hcc T0 hf hfn (by omega) h3) ?_
    rintro e w' ⟨rfl, g1, g2, g3⟩
    refine ⟨rfl, ?_, g2, g3⟩
    rw [g1, S_congr (h := resI op 0 al bl) fun i hi => by rw [one_bytI (by omega), one_bytI (by omega)]; rfl]
  | 1, _ =>
    obtain ⟨e1, e2⟩ := h1 rfl
    refine Calls.mono (numI1 op hop gl gr ob al.length bl.length cl cr m c fr n X _ _ D w hl hr hd la lb (by omega) (by omega) (by omega) hcl hcr hb hm hmc hcc T0 hf hfn (by omega) h3) ?_
    rintro e w' ⟨rfl, g1, g2, g3⟩
    refine ⟨rfl, ?_, g2, g3⟩
    rw [g1, S_congr (h := resI op 1 al bl) fun i hi => by rw [one_bytI (by omega), one_bytI (by omega)]; rfl]
  | 2, _ =>
    obtain ⟨e1, e2⟩ := h2 rfl
    refine Calls.mono (numI2 op hop gl gr ob al.length bl.length cl cr m c fr n X _ _ D w hl hr hd la lb (by omega) (by omega) (by omega) hcl hcr hb hm hmc hcc T0 hf hfn (by omega) h3) ?_
    rintro e w' ⟨rfl, g1, g2, g3⟩
    refine ⟨rfl, ?_, g2, g3⟩
    rw [g1, S_congr (h := resI op 2 al bl) fun i hi => by rw [one_bytI (by omega), one_bytI (by omega)]; rfl]
  | _ + 3, h => exact absurd h (by omega)
theorem rowX_size (X : Array Value) (D : List Int) : (rowX X D).size = D.length + X.size := by simp [rowX, rowB]
/-- What stays while the numbers are laid. -/
structure Bs (w : World) (N g lm cap : Nat) (X : Array Value) (ml : List Int) (W : World) : Prop where
  n0 : W.heap[N]? = some (.cells #[.slice (some ⟨g, 0, none⟩) lm cap] 23 (0, 0))
  n1 : W.heap[N + 1]? = some (.cells #[.bool false] 4 (0, 0))
  gg : W.heap[g]? = some (.cells (rowX X ml) 5 (0, 0))
  bb : Below N w W
  tt : Tabs W
theorem Bs.below {w : World} {N g lm cap : Nat} {X : Array Value} {ml : List Int} {W W' : World} (h : Bs w N g lm cap X ml W) (hb : Below W.heap.size W W') : Bs w N g lm cap X ml W' :=
  ⟨blk_below h.n0 hb, blk_below h.n1 hb, blk_below h.gg hb, h.bb.trans (hb.mono (by have := blk_lt h.n0; omega)), h.tt.below hb h.tt.lt.2⟩
theorem Bs.put {w : World} {N g lm cap G : Nat} {X : Array Value} {ml : List Int} {W W' : World} (h : Bs w N g lm cap X ml W) (hk : Kept W W' (fun k => k = G)) (hb : Below G W W') (h1 : N + 1 < G) (h2 : g ≠ G) (h3 : 3 < N) : Bs w N g lm cap X ml W' :=
  ⟨blk_kept h.n0 hk (by omega), blk_kept h.n1 hk (by omega), blk_kept h.gg hk h2, h.bb.trans (hb.mono (by omega)), h.tt.kept hk (by omega) (by omega)⟩
set_option maxHeartbeats 64000000 in
set_option maxRecDepth 100000 in
theorem compareI (H14 : Copies) (op how : Nat) (hop : op < 4) (hhow : how < 3) (A : Option Addr) (ca : Nat) (B : Option Addr) (cb : Nat) (M : Option Addr) (cm fr n : Nat) (al bl ml : List Int) (w : World)
    (hA : Kd.C (Kd.int .u64) w A al.length al) (hB : Kd.C (Kd.int .u64) w B bl.length bl) (hM : Kd.C (Kd.int .u8) w M ml.length ml) (hmc : ml.length ≤ cm) (hb : Bytes ml) (T0 : Tabs w)
    (h0 : how = 0 → n = al.length ∧ n = bl.length) (h1 : how = 1 → n = al.length ∧ 0 < bl.length) (h2 : how = 2 → n = bl.length ∧ 0 < al.length) (hal : al.length ≤ 300) (hbl : bl.length ≤ 300) (hml : ml.length ≤ 100) (hf : fr ≤ 7) (hfn : fr + n ≤ 8 * ml.length) :
    Calls Tryz.prog 12 #[.int .i64 op, .int .i64 how, .slice A al.length ca, .slice B bl.length cb, .slice M ml.length cm, .int .i64 fr] w fun e w' => ∃ v : Value, e = .returned (.tuple #[v, .bool true]) ∧ Kd.R (Kd.int .u8) 5 w' w.heap.size (fun _ => True) v (S ml fr (resI op how al bl) n) ∧ Below w.heap.size w w' := by
  have HA := Aside0.mk hA
  have HB := Aside0.mk hB
  have HBY := Aside0.mk hb
  have HT0 := Aside0.mk T0
  have HN0 := Aside0.mk h0
  have HN1 := Aside0.mk h1
  have HN2 := Aside0.mk h2
  have h3s := T0.lt.2
  have H14' := Aside0.mk (fun W (h : Below w.heap.size w W) => copied H14 M cm ml W (Kd.C_below hM h) hmc hml)
  obtain ⟨la, hla⟩ : ∃ la, la = al.length := ⟨_, rfl⟩
  obtain ⟨lb, hlb⟩ : ∃ lb, lb = bl.length := ⟨_, rfl⟩
  obtain ⟨lm, hlm⟩ : ∃ lm, lm = ml.length := ⟨_, rfl⟩
  rw [← hla] at hal hA
  rw [← hlb] at hbl hB
  rw [← hlm] at hml hfn
  rw [← hla, ← hlb, ← hlm]
  have HLA := Aside0.mk hla
  have HLB := Aside0.mk hlb
  have HLM := Aside0.mk hlm
  have hmka := fun W => mkB la (by omega) W
  have hmkb := fun W => mkB lb (by omega) W
  obtain ⟨N, hN⟩ : ∃ N, N = w.heap.size := ⟨_, rfl⟩
  have HNN := Aside0.mk hN
  have hB1 := Aside0.mk (show Below w.heap.size w ((w.alloc (.cells #[.slice none 0 0] 23 (0, 0))).alloc (.cells #[.bool false] 4 (0, 0))) from below_alloc (below_alloc (Below.refl _ _) _) _)
  rw [← hN] at h3s
  have hlaw : IntKind.i64.wrap (la : Int) = la := by rw [IntKind.wrap_i64]; omega
  have hlbw : IntKind.i64.wrap (lb : Int) = lb := by rw [IntKind.wrap_i64]; omega
  clear hA hB hM hmc hb T0 h0 h1 h2 H14 hla hlb hlm
  go_enter_defers Tryz.func12, Tryz.ntmps12
  go_upto_region 2 with fail
  obtain ⟨W1, hW1⟩ : ∃ W1, W1 = (w.alloc (.cells #[.slice none 0 0] 23 (0, 0))).alloc (.cells #[.bool false] 4 (0, 0)) := ⟨_, rfl⟩
  simp only [World.size_alloc, ← hN]
  rw [← hW1] at hB1 ⊢
  have Q0 := Aside0.mk (show W1.heap[N]? = some (.cells #[.slice none 0 0] 23 (0, 0)) by rw [hW1, hN]; exact blk_alloc (blk_new w _) _)
  have Q1 := Aside0.mk (show W1.heap[N + 1]? = some (.cells #[.bool false] 4 (0, 0)) by rw [hW1]; exact blk_at (by simp [hN]))
  have QS := Aside0.mk (show W1.heap.size = N + 1 + 1 by rw [hW1]; simp [hN])
  have H14 := Aside0.mk (HLM.out ▸ H14'.out W1 hB1.out)
  clear hW1 hN H14'
  go_upto_region 3 with (go_at_call 14; refine Calls.mono H14.out ?_; rintro e w2 ⟨g, cap, X, rfl, hg, hrow, hcap1, hcap2, hcap3, hbel⟩; have q0 := blk_below Q0.out hbel; have a0 : w2.cell? ⟨N, 0, none⟩ = some (.slice none 0 0) := (cell_of_row' q0 0).trans rfl; have f0 := blk_frozen' q0 0; have X0 := Aside0.mk q0; have X1 := Aside0.mk (blk_below Q1.out hbel); have XG := Aside0.mk hrow; have XB := Aside0.mk hbel; have XC := Aside0.mk (And.intro hcap1 (And.intro hcap2 hcap3)); rw [QS.out] at hg; clear q0 hrow hbel hcap1 hcap2 hcap3)
  obtain ⟨W3, hW3⟩ : ∃ W3, W3 = w2.setCell ⟨N, 0, none⟩ (.slice (some ⟨g, 0, none⟩) lm cap) := ⟨_, rfl⟩
  rw [← hW3]
  have hgN : g ≠ N := by omega
  have hgN1 : g ≠ N + 1 := by omega
  have R0 := Aside0.mk (show W3.heap[N]? = some (.cells #[.slice (some ⟨g, 0, none⟩) lm cap] 23 (0, 0)) by rw [hW3]; exact blk_put (cs := #[.slice none 0 0]) X0.out 0 _ rfl)
  have R1 := Aside0.mk (show W3.heap[N + 1]? = some (.cells #[.bool false] 4 (0, 0)) by rw [hW3]; exact blk_far (p := ⟨N, 0, none⟩) X1.out (show N + 1 ≠ N by omega) _)
  have RG := Aside0.mk (show W3.heap[g]? = some (.cells (rowX X ml) 5 (0, 0)) by rw [hW3]; exact blk_far (p := ⟨N, 0, none⟩) XG.out hgN _)
  have hb3 : Below N w W3 := by
    rw [hW3]
    exact ((HNN.out ▸ hB1.out).trans (XB.out.mono (by rw [QS.out]; omega))).setCell (p := ⟨N, 0, none⟩) (Nat.le_refl N) _
  have RB := Aside0.mk hb3
  have hgs := blk_lt RG.out
  have RT := Aside0.mk (HT0.out.below hb3 (by omega))
  clear hb3 hW3 a0 f0 X0 X1 XG XB Q0 Q1 QS hB1 H14 HT0
  go_cut [14, 15] from 22 to 31 (fun v14 v15 wx => ∃ gx gy : Nat, v14 = .slice (some ⟨gx, 0, none⟩) la la ∧ v15 = .slice (some ⟨gy, 0, none⟩) lb lb ∧ gx ≠ gy ∧ W3.heap.size ≤ gx ∧ W3.heap.size ≤ gy ∧ Aside0 (wx.heap[gx]? = some (.cells (rowB (List.replicate la 0)) 5 (0, 0))) ∧ Aside0 (wx.heap[gy]? = some (.cells (rowB (List.replicate lb 0)) 5 (0, 0))) ∧ Aside0 (Below W3.heap.size W3 wx))
  case first =>
    clear HA HB HBY HN0 HN1 HN2 HLA HLB HLM R0 R1 RG RB RT
    refine wp_region_noPanic ?_
    go_region_with (go_at_call 26; refine Calls.mono (SizeI _) ?_; rintro e w1 ⟨rfl, h1⟩; rw [h1]; clear h1)
    all_goals
      refine NoPanic.normal ?_
      go_wp2
      go_meet
      refine ⟨_, _, rfl, rfl, ?_, ?_, ?_, ⟨?_⟩, ⟨?_⟩, ⟨?_⟩⟩
      · omega
      · omega
      · omega
      · repeat (first | exact blk_at (by simp) | refine blk_alloc ?_ _)
      · repeat (first | exact blk_at (by simp) | refine blk_alloc ?_ _)
      · repeat (first | exact Below.refl _ _ | refine Below.drew ?_ | refine below_alloc ?_ _)
  case rest =>
    obtain ⟨gx, gy, rfl, rfl, hxy, hgx, hgy, ZX, ZY, ZB⟩ := hcut
    have S0 := Aside0.mk (Bs.below (W := W3) (ml := ml) ⟨R0.out, R1.out, RG.out, RB.out, RT.out⟩ ZB.out)
    have hNx : N + 1 < gx := by have := blk_lt R1.out; omega
    have hNy : N + 1 < gy := by have := blk_lt R1.out; omega
    have hgxg : g ≠ gx := by omega
    have hgyg : g ≠ gy := by omega
    have h3g : 3 < g := by omega
    have hgN' : N ≤ g := by omega
    clear R0 R1 RG RB RT ZB hgx hgy hgs hg
    go_wp2
    go_loopg [34] la (fun kq v34 w' => ∃ i : Nat, v34 = .int .i64 i ∧ Aside0 (kq + i = la) ∧ Aside0 (w'.heap[gx]? = some (.cells (rowB (part (bytI al) la i)) 5 (0, 0))) ∧ Aside0 (w'.heap[gy]? = some (.cells (rowB (List.replicate lb 0)) 5 (0, 0))) ∧ Aside0 (Bs w N g lm cap X ml w'))
    case atStart => exact ⟨0, rfl, ⟨by omega⟩, ⟨by rw [part_zero]; exact ZX.out⟩, ZY, S0⟩
    case round =>
      clear ZX ZY S0
      obtain ⟨i, rfl, HJ, PX, PY, S1⟩ := hrel
      have hi0 : i ≤ la := by have := HJ.out; omega
      by_cases hi : i < la
      · have hiI : (i : Int) < (la : Int) := by omega
        obtain ⟨ad, hAd, hcell⟩ := Kd.at_int (Kd.C_below HA.out (HNN.out ▸ S1.out.bb)) (i : Int) (Int.natCast_nonneg _) (by have := HLA.out; omega)
        rw [Int.toNat_natCast] at hcell
        subst hAd
        obtain ⟨x, hx⟩ : ∃ x, x = al.getD i 0 := ⟨_, rfl⟩
        rw [show rd al (i : Int) = x by rw [hx]; unfold rd; rw [Int.toNat_natCast]] at hcell
        have HX := Aside0.mk (show bytI al i = IntKind.u8.wrap (IntKind.i8.wrap x) by rw [hx]; rfl)
        have HP := Aside0.mk (putAtI gx la la i (IntKind.i8.wrap x) _ wr PX.out (part_len _ _ _).symm hi (by omega) (Nat.le_refl _))
        clear hx
        go_wp2_with (go_at_call 27; refine Calls.mono HP.out ?_; rintro e w5 ⟨rfl, h1, h2, h3⟩; rw [← HX.out, part_step hi] at h1; have U1 := Aside0.mk h1; have U2 := Aside0.mk h2; have U3 := Aside0.mk h3; clear h1 h2 h3)
        go_roundg (gk - 1)
        case measure => have := HJ.out; omega
        case rel => exact ⟨i + 1, by go_num, ⟨by have := HJ.out; omega⟩, U1, ⟨blk_kept PY.out U2.out hxy.symm⟩, ⟨S1.out.put U2.out U3.out hNx hgxg h3s⟩⟩
      · have hiI : ¬ (i : Int) < (la : Int) := by omega
        have QX := Aside0.mk (show wr.heap[gx]? = some (.cells (rowB ((List.range la).map (bytI al))) 5 (0, 0)) by
          have h := PX.out
          rw [part_all _ _ _ (by omega)] at h
          exact h)
        clear PX
        go_wp2
        go_loopg [47] lb (fun kq v47 w' => ∃ i : Nat, v47 = .int .i64 i ∧ Aside0 (kq + i = lb) ∧ Aside0 (w'.heap[gx]? = some (.cells (rowB ((List.range la).map (bytI al))) 5 (0, 0))) ∧ Aside0 (w'.heap[gy]? = some (.cells (rowB (part (bytI bl) lb i)) 5 (0, 0))) ∧ Aside0 (Bs w N g lm cap X ml w'))
        case atStart => exact ⟨0, rfl, ⟨by omega⟩, QX, ⟨by rw [part_zero]; exact PY.out⟩, S1⟩
        case round =>
          clear QX PY S1
          obtain ⟨j, rfl, HK, PX, PY, S1⟩ := hrel
          have hj0 : j ≤ lb := by have := HK.out; omega
          by_cases hj : j < lb
          · have hjI : (j : Int) < (lb : Int) := by omega
            obtain ⟨ad, hAd, hcell⟩ := Kd.at_int (Kd.C_below HB.out (HNN.out ▸ S1.out.bb)) (j : Int) (Int.natCast_nonneg _) (by have := HLB.out; omega)
            rw [Int.toNat_natCast] at hcell
            subst hAd
            obtain ⟨x, hx⟩ : ∃ x, x = bl.getD j 0 := ⟨_, rfl⟩
            rw [show rd bl (j : Int) = x by rw [hx]; unfold rd; rw [Int.toNat_natCast]] at hcell
            have HX := Aside0.mk (show bytI bl j = IntKind.u8.wrap (IntKind.i8.wrap x) by rw [hx]; rfl)
            have HP := Aside0.mk (putAtI gy lb lb j (IntKind.i8.wrap x) _ wr PY.out (part_len _ _ _).symm hj (by omega) (Nat.le_refl _))
            clear hx
            go_wp2_with (go_at_call 27; refine Calls.mono HP.out ?_; rintro e w5 ⟨rfl, h1, h2, h3⟩; rw [← HX.out, part_step hj] at h1; have U1 := Aside0.mk h1; have U2 := Aside0.mk h2; have U3 := Aside0.mk h3; clear h1 h2 h3)
            go_roundg (gk - 1)
            case measure => have := HK.out; omega
            case rel => exact ⟨j + 1, by go_num, ⟨by have := HK.out; omega⟩, ⟨blk_kept PX.out U2.out hxy⟩, U1, ⟨S1.out.put U2.out U3.out hNy hgyg h3s⟩⟩
          · have hjI : ¬ (j : Int) < (lb : Int) := by omega
            have QY := Aside0.mk (show wr.heap[gy]? = some (.cells (rowB ((List.range lb).map (bytI bl))) 5 (0, 0)) by
              have h := PY.out
              rw [part_all _ _ _ (by omega)] at h
              exact h)
            clear PY
            have z0 : wr.cell? ⟨N, 0, none⟩ = some (.slice (some ⟨g, 0, none⟩) lm cap) := (cell_of_row' S1.out.n0 0).trans rfl
            have H19 := Aside0.mk (operator op hop)
            have hal' : al.length ≤ 300 := by rw [← HLA.out]; exact hal
            have hbl' : bl.length ≤ 300 := by rw [← HLB.out]; exact hbl
            have hcap' : cap ≤ 9223372036854775807 := by have := XC.out.2.1; unfold maxLen at this; omega
            have H28 := Aside0.mk (show ∀ W : World, Below wr.heap.size wr W → Calls Tryz.prog 28 #[.int .i8 op, .int .i64 how, .slice (some ⟨gx, 0, none⟩) la la, .slice (some ⟨gy, 0, none⟩) lb lb, .slice (some ⟨g, 0, none⟩) lm cap, .int .i64 fr] W (fun e w' => e = .returned (.tuple #[]) ∧ w'.heap[g]? = some (.cells (rowX X (S ml fr (resI op how al bl) n)) 5 (0, 0)) ∧ w'.heap[N]? = some (.cells #[.slice (some ⟨g, 0, none⟩) lm cap] 23 (0, 0)) ∧ w'.heap[N + 1]? = some (.cells #[.bool false] 4 (0, 0)) ∧ Below N w w') from fun W hW => by
              have hx := PX.out
              have hy := QY.out
              rw [HLA.out] at hx
              rw [HLB.out] at hy
              rw [HLA.out, HLB.out]
              refine Calls.mono (numI op how hop hhow gx gy g lm al.length bl.length cap fr n X al bl ml W (blk_below hx hW) (blk_below hy hW) (blk_below S1.out.gg hW) HN0.out HN1.out HN2.out hal' hbl' (Nat.le_refl _) (Nat.le_refl _) HBY.out HLM.out XC.out.1 hcap' (S1.out.tt.below hW S1.out.tt.lt.2) hf hfn h3g) ?_
              rintro e w' ⟨rfl, k1, k2, k3⟩
              exact ⟨rfl, k1, blk_kept (blk_below S1.out.n0 hW) k2 (fun h => hgN h.symm), blk_kept (blk_below S1.out.n1 hW) k2 (fun h => hgN1 h.symm), (S1.out.bb.trans (hW.mono (by have := blk_lt S1.out.n0; omega))).trans (k3.mono hgN')⟩)
            clear hal' hbl' hcap'
            go_wp2
            refine wp_region_noPanic ?_
            go_region_with (first | (go_at_call 19; refine Calls.mono (H19.out _) ?_; rintro e w5 ⟨rfl, hb5⟩; have B5 := Aside0.mk hb5; have z5 : w5.cell? ⟨N, 0, none⟩ = some (.slice (some ⟨g, 0, none⟩) lm cap) := (cell_of_row' (blk_below S1.out.n0 (show Below wr.heap.size wr w5 from (show Below wr.heap.size wr wr.drew from (Below.refl _ _).drew).trans hb5)) 0).trans rfl; clear hb5) | (go_at_call 28; refine Calls.mono (H28.out _ (show Below wr.heap.size wr _ from (show Below wr.heap.size wr wr.drew from (Below.refl _ _).drew).trans B5.out)) ?_; rintro e w6 ⟨rfl, k1, k2, k3, k4⟩; have z6 : w6.cell? ⟨N, 0, none⟩ = some (.slice (some ⟨g, 0, none⟩) lm cap) := (cell_of_row' k2 0).trans rfl; have z7 : w6.cell? ⟨N + 1, 0, none⟩ = some (.bool false) := (cell_of_row' k3 0).trans rfl; have v0 := blk_frozen' k2 0; have v1 := blk_frozen' k3 0; have K1 := Aside0.mk k1; have K2 := Aside0.mk k2; have K3 := Aside0.mk k3; have K4 := Aside0.mk k4; clear k1 k2 k3 k4))
            all_goals
              refine NoPanic.normal ?_
              go_wp2
              refine leaves_cons (f := 13) (args := #[.pointer (some ⟨N, 0, none⟩), .pointer (some ⟨N + 1, 0, none⟩)]) (by simp) (by simp [go_sem]) ?_
              refine (no_idle13 ⟨N, 0, none⟩ ⟨N + 1, 0, none⟩ _).mono ?_
              rintro e u' w'' ⟨rfl, rfl, rfl⟩
              have k0 := blk_far (p := ⟨N + 1, 0, none⟩) (blk_put (cs := #[.slice (some ⟨g, 0, none⟩) lm cap]) K2.out 0 (.slice (some ⟨g, 0, none⟩) lm cap) rfl) (show N ≠ N + 1 by omega) (.bool true)
              have k1 := blk_put (cs := #[.bool false]) (blk_far (p := ⟨N, 0, none⟩) K3.out (show N + 1 ≠ N by omega) (.slice (some ⟨g, 0, none⟩) lm cap)) 0 (.bool true) rfl
              have k2 := blk_far (p := ⟨N + 1, 0, none⟩) (blk_far (p := ⟨N, 0, none⟩) K1.out hgN (.slice (some ⟨g, 0, none⟩) lm cap)) hgN1 (.bool true)
              have e0 := (cell_of_row' k0 0).trans rfl
              have e1 := (cell_of_row' k1 0).trans rfl
              have HR := Aside0.mk (rowX_R k2 (base := N) hgN' ((S_len _ _ _ _).trans HLM.out.symm) XC.out.1 XC.out.2.1 (by rw [rowX_size, S_len, ← rowX_size]; exact XC.out.2.2))
              have HBL := Aside0.mk (Below.setCell (p := ⟨N + 1, 0, none⟩) (Below.setCell (p := ⟨N, 0, none⟩) K4.out (Nat.le_refl N) (.slice (some ⟨g, 0, none⟩) lm cap)) (show N ≤ N + 1 by omega) (.bool true))
              clear k0 k1 k2
              simp [Leaves, settle, results, Tryz.results12, go_sem, e0, e1]
              rw [← HNN.out]
              exact ⟨HR.out, HBL.out⟩

end Go.Proofs.YtogbpljnekgfkaaGreatDoor.Cm
