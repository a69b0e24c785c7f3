/- float32: impl.CompareFloat32. -/
import Derived.Test.YtogbpljnekgfkaaGreatDoorFb1
import Derived.Test.YtogbpljnekgfkaaGreatDoorCj
namespace Go.Proofs.YtogbpljnekgfkaaGreatDoor.Cm
open Go.RowKit Go.IntWalk Go.Proofs.YtogbpljnekgfkaaGreatDoorW.PrintWords Go.Proofs.YtogbpljnekgfkaaGreatDoorW.PrintLast Go.Proofs.YtogbpljnekgfkaaGreatDoorW.PrintMore
attribute [local go_sem] max2_int min2_int max_two min_two max_three min_three max_four min_four
set_option linter.unusedVariables false
set_option linter.unusedSimpArgs false
attribute [local go_sem] run17
/-- The number that a word stands for; what it is as bytes, and back. -/
def valF (u : Int) : Int := u % 4294967296
def bytF (al : List Int) (j : Nat) : Int := by4 (valF (al.getD (j / 4) 0)).toNat (j % 4)
theorem val_lt (u : Int) : (valF u).toNat < 4294967296 := by
  unfold valF
  omega
theorem val_pos (u : Int) : 0 ≤ valF u := by
  unfold valF
  omega
theorem by4_byte (u k : Nat) : 0 ≤ by4 u k ∧ by4 u k < 256 := by unfold by4; omega
theorem byt_bytes (al : List Int) (m : Nat) : Bytes ((List.range m).map (bytF al)) := fun x hx => by
  obtain ⟨j, _, rfl⟩ := List.mem_map.1 hx
  exact by4_byte _ _
theorem word_by4 (u : Nat) (h : u < 4294967296) : by4 u 0 + by4 u 1 * 256 + by4 u 2 * 65536 + by4 u 3 * 16777216 = (u : Int) := by
  rw [← by4_0, ← by4_1, ← by4_2, ← by4_3 u h]
  omega
theorem byt_at (al : List Int) {m j : Nat} (h : j < m) : ((List.range m).map (bytF al)).getD j 0 = bytF al j := by
  rw [List.getD_eq_getElem?_getD, List.getElem?_map, List.getElem?_range h]
  rfl
theorem byt_four (al : List Int) (i k : Nat) (hk : k < 4) : bytF al (4 * i + k) = by4 (valF (al.getD i 0)).toNat k := by
  unfold bytF
  rw [show (4 * i + k) / 4 = i by omega, show (4 * i + k) % 4 = k by omega]
theorem one_bytF {al : List Int} {m i : Nat} (hm : m = 4 * al.length) (h : i < al.length) : oneF ((List.range m).map (bytF al)) i = valF (al.getD i 0) := by
  unfold oneF word4
  rw [byt_at al (show 4 * i < m by omega), byt_at al (show 4 * i + 1 < m by omega), byt_at al (show 4 * i + 2 < m by omega), byt_at al (show 4 * i + 3 < m by omega)]
  rw [show bytF al (4 * i) = by4 (valF (al.getD i 0)).toNat 0 from byt_four al i 0 (by decide), byt_four al i 1 (by decide), byt_four al i 2 (by decide), byt_four al i 3 (by decide), word_by4 _ (val_lt _)]
  exact Int.toNat_of_nonneg (val_pos _)
theorem part_step4 {al : List Int} {m i : Nat} (h : 4 * i + 4 ≤ m) : set4 (part (bytF al) m (4 * i)) (4 * i) (valF (al.getD i 0)).toNat = part (bytF al) m (4 * (i + 1)) := by
  unfold set4
  rw [show by4 (valF (al.getD i 0)).toNat 0 = bytF al (4 * i) from (byt_four al i 0 (by decide)).symm, ← byt_four al i 1 (by decide), ← byt_four al i 2 (by decide), ← byt_four al i 3 (by decide)]
  rw [part_step (by omega), part_step (by omega), part_step (by omega), part_step (by omega)]
  rfl
/-- What the comparison of two lists says at place i. -/
def resF (op how : Nat) (al bl : List Int) (i : Nat) : Bool := cmpF op (valF (al.getD (if how = 2 then 0 else i) 0)) (valF (bl.getD (if how = 1 then 0 else i) 0))
theorem S_congr {D : List Int} {p n : Nat} {g h : Nat → Bool} (e : ∀ i, i < n → g i = h i) : S D p g n = S D p h n := by
  unfold S
  rw [List.map_congr_left fun i hi => e i (List.mem_range.1 hi)]
/-- A comparison by its number, whichever way. -/
theorem numF (op how : Nat) (hop : op < 4) (hhow : how < 3) (gl gr ob m ma mb cl cr c fr n : Nat) (X : Array Value) (al bl D : List Int) (w : World) (hma : ma = 4 * al.length) (hmb : mb = 4 * bl.length)
    (hl : w.heap[gl]? = some (.cells (rowB ((List.range ma).map (bytF al))) 5 (0, 0))) (hr : w.heap[gr]? = some (.cells (rowB ((List.range mb).map (bytF bl))) 5 (0, 0))) (hd : w.heap[ob]? = some (.cells (rowX X D) 5 (0, 0)))
    (h0 : how = 0 → n = al.length ∧ n = bl.length) (h1 : how = 1 → n = al.length ∧ 0 < bl.length) (h2 : how = 2 → n = bl.length ∧ 0 < al.length) (hal : al.length ≤ 300) (hbl : bl.length ≤ 300) (hcl : ma ≤ cl) (hcr : mb ≤ cr) (hb : Bytes D) (hm : m = D.length) (hmc : m ≤ c) (hcc : c ≤ 9223372036854775807) (T0 : Tabs w) (hf : fr ≤ 7) (hfn : fr + n ≤ 8 * m) (h3 : 3 < ob) :
    Calls Tryz.prog 18 #[.int .i8 op, .int .i64 how, .slice (some ⟨gl, 0, none⟩) ma cl, .slice (some ⟨gr, 0, none⟩) mb cr, .slice (some ⟨ob, 0, none⟩) m c, .int .i64 fr] w fun e w' => e = .returned (.tuple #[]) ∧ w'.heap[ob]? = some (.cells (rowX X (S D fr (resF op how al bl) n)) 5 (0, 0)) ∧ Kept w w' (fun k => k = ob) ∧ Below ob w w' := by
  have la : ma = ((List.range ma).map (bytF al)).length := by simp
  have lb : mb = ((List.range mb).map (bytF bl)).length := by simp
  have bA := byt_bytes al ma
  have bB := byt_bytes bl mb
  match how, hhow with
  | 0, _ =>
    obtain ⟨e1, e2⟩ := h0 rfl
    refine Calls.mono (numF0 op hop gl gr ob ma mb cl cr m c fr n X _ _ D w hl hr hd la lb (by omega) (by omega) hcl hcr hb hm hmc hcc T0 hf hfn (by omega) h3 bA bB) ?_
    rintro e w' ⟨rfl, g1, g2, g3⟩
    refine ⟨rfl, ?_, g2, g3⟩
    rw [g1, S_congr (h := resF op 0 al bl) fun i hi => by rw [one_bytF hma (by omega), one_bytF hmb (by omega)]; rfl]
  | 1, _ =>
    obtain ⟨e1, e2⟩ := h1 rfl
    refine Calls.mono (numF1 op hop gl gr ob ma mb cl cr m c fr n X _ _ D w hl hr hd la lb (by omega) (by omega) (by omega) hcl hcr hb hm hmc hcc T0 hf hfn (by omega) h3 bA bB) ?_
    rintro e w' ⟨rfl, g1, g2, g3⟩
    refine ⟨rfl, ?_, g2, g3⟩
    rw [g1, S_congr (h := resF op 1 al bl) fun i hi => by rw [one_bytF hma (by omega), one_bytF hmb (by omega)]; rfl]
  | 2, _ =>
    obtain ⟨e1, e2⟩ := h2 rfl
    refine Calls.mono (numF2 op hop gl gr ob ma mb cl cr m c fr n X _ _ D w hl hr hd la lb (by omega) (by omega) (by omega) hcl hcr hb hm hmc hcc T0 hf hfn (by omega) h3 bA bB) ?_
    rintro e w' ⟨rfl, g1, g2, g3⟩
    refine ⟨rfl, ?_, g2, g3⟩
    rw [g1, S_congr (h := resF op 2 al bl) fun i hi => by rw [one_bytF hma (by omega), one_bytF hmb (by omega)]; rfl]
  | _ + 3, h => exact absurd h (by omega)
theorem rowX_size (X : Array Value) (D : List Int) : (rowX X D).size = D.length + X.size := by simp [rowX, rowB]
/-- What stays while the numbers are laid. -/
structure Bs (w : World) (N g lm cap : Nat) (X : Array Value) (ml : List Int) (W : World) : Prop where
  n0 : W.heap[N]? = some (.cells #[.slice (some ⟨g, 0, none⟩) lm cap] 23 (0, 0))
  n1 : W.heap[N + 1]? = some (.cells #[.bool false] 4 (0, 0))
  gg : W.heap[g]? = some (.cells (rowX X ml) 5 (0, 0))
  bb : Below N w W
  tt : Tabs W
theorem Bs.below {w : World} {N g lm cap : Nat} {X : Array Value} {ml : List Int} {W W' : World} (h : Bs w N g lm cap X ml W) (hb : Below W.heap.size W W') : Bs w N g lm cap X ml W' :=
  ⟨blk_below h.n0 hb, blk_below h.n1 hb, blk_below h.gg hb, h.bb.trans (hb.mono (by have := blk_lt h.n0; omega)), h.tt.below hb h.tt.lt.2⟩
theorem Bs.put {w : World} {N g lm cap G : Nat} {X : Array Value} {ml : List Int} {W W' : World} (h : Bs w N g lm cap X ml W) (hk : Kept W W' (fun k => k = G)) (hb : Below G W W') (h1 : N + 1 < G) (h2 : g ≠ G) (h3 : 3 < N) : Bs w N g lm cap X ml W' :=
  ⟨blk_kept h.n0 hk (by omega), blk_kept h.n1 hk (by omega), blk_kept h.gg hk h2, h.bb.trans (hb.mono (by omega)), h.tt.kept hk (by omega) (by omega)⟩
set_option maxHeartbeats 64000000 in
set_option maxRecDepth 100000 in
theorem compareF (H14 : Copies) (op how : Nat) (hop : op < 4) (hhow : how < 3) (A : Option Addr) (ca : Nat) (B : Option Addr) (cb : Nat) (M : Option Addr) (cm fr n : Nat) (al bl ml : List Int) (w : World)
    (hA : Kd.C (Kd.int .u64) w A al.length al) (hB : Kd.C (Kd.int .u64) w B bl.length bl) (hM : Kd.C (Kd.int .u8) w M ml.length ml) (hmc : ml.length ≤ cm) (hb : Bytes ml) (T0 : Tabs w)
    (h0 : how = 0 → n = al.length ∧ n = bl.length) (h1 : how = 1 → n = al.length ∧ 0 < bl.length) (h2 : how = 2 → n = bl.length ∧ 0 < al.length) (hal : al.length ≤ 300) (hbl : bl.length ≤ 300) (hml : ml.length ≤ 100) (hf : fr ≤ 7) (hfn : fr + n ≤ 8 * ml.length) :
    Calls Tryz.prog 5 #[.int .i64 op, .int .i64 how, .slice A al.length ca, .slice B bl.length cb, .slice M ml.length cm, .int .i64 fr] w fun e w' => ∃ v : Value, e = .returned (.tuple #[v, .bool true]) ∧ Kd.R (Kd.int .u8) 5 w' w.heap.size (fun _ => True) v (S ml fr (resF op how al bl) n) ∧ Below w.heap.size w w' := by
  have HA := Aside0.mk hA
  have HB := Aside0.mk hB
  have HBY := Aside0.mk hb
  have HT0 := Aside0.mk T0
  have HN0 := Aside0.mk h0
  have HN1 := Aside0.mk h1
  have HN2 := Aside0.mk h2
  have h3s := T0.lt.2
  have H14' := Aside0.mk (fun W (h : Below w.heap.size w W) => copied H14 M cm ml W (Kd.C_below hM h) hmc hml)
  obtain ⟨la, hla⟩ : ∃ la, la = al.length := ⟨_, rfl⟩
  obtain ⟨lb, hlb⟩ : ∃ lb, lb = bl.length := ⟨_, rfl⟩
  obtain ⟨lm, hlm⟩ : ∃ lm, lm = ml.length := ⟨_, rfl⟩
  rw [← hla] at hal hA
  rw [← hlb] at hbl hB
  rw [← hlm] at hml hfn
  rw [← hla, ← hlb, ← hlm]
  have HLA := Aside0.mk hla
  have HLB := Aside0.mk hlb
  have HLM := Aside0.mk hlm
  obtain ⟨ma, hma⟩ : ∃ ma, ma = 4 * la := ⟨_, rfl⟩
  obtain ⟨mb, hmb⟩ : ∃ mb, mb = 4 * lb := ⟨_, rfl⟩
  have hma1 : ma ≤ 1200 := by omega
  have hmb1 : mb ≤ 1200 := by omega
  have HMA := Aside0.mk hma
  have HMB := Aside0.mk hmb
  have hmka := fun W => mkB ma (by omega) W
  have hmkb := fun W => mkB mb (by omega) W
  obtain ⟨N, hN⟩ : ∃ N, N = w.heap.size := ⟨_, rfl⟩
  have HNN := Aside0.mk hN
  have hB1 := Aside0.mk (show Below w.heap.size w ((w.alloc (.cells #[.slice none 0 0] 23 (0, 0))).alloc (.cells #[.bool false] 4 (0, 0))) from below_alloc (below_alloc (Below.refl _ _) _) _)
  rw [← hN] at h3s
  have hlaw : IntKind.i64.wrap (4 * (la : Int)) = (ma : Int) := by rw [IntKind.wrap_i64]; omega
  have hlbw : IntKind.i64.wrap (4 * (lb : Int)) = (mb : Int) := by rw [IntKind.wrap_i64]; omega
  clear hA hB hM hmc hb T0 h0 h1 h2 H14 hla hlb hlm hma hmb
  go_enter_defers Tryz.func5, Tryz.ntmps5
  go_upto_region 2 with fail
  obtain ⟨W1, hW1⟩ : ∃ W1, W1 = (w.alloc (.cells #[.slice none 0 0] 23 (0, 0))).alloc (.cells #[.bool false] 4 (0, 0)) := ⟨_, rfl⟩
  simp only [World.size_alloc, ← hN]
  rw [← hW1] at hB1 ⊢
  have Q0 := Aside0.mk (show W1.heap[N]? = some (.cells #[.slice none 0 0] 23 (0, 0)) by rw [hW1, hN]; exact blk_alloc (blk_new w _) _)
  have Q1 := Aside0.mk (show W1.heap[N + 1]? = some (.cells #[.bool false] 4 (0, 0)) by rw [hW1]; exact blk_at (by simp [hN]))
  have QS := Aside0.mk (show W1.heap.size = N + 1 + 1 by rw [hW1]; simp [hN])
  have H14 := Aside0.mk (HLM.out ▸ H14'.out W1 hB1.out)
  clear hW1 hN H14'
  go_upto_region 3 with (go_at_call 14; refine Calls.mono H14.out ?_; rintro e w2 ⟨g, cap, X, rfl, hg, hrow, hcap1, hcap2, hcap3, hbel⟩; have q0 := blk_below Q0.out hbel; have a0 : w2.cell? ⟨N, 0, none⟩ = some (.slice none 0 0) := (cell_of_row' q0 0).trans rfl; have f0 := blk_frozen' q0 0; have X0 := Aside0.mk q0; have X1 := Aside0.mk (blk_below Q1.out hbel); have XG := Aside0.mk hrow; have XB := Aside0.mk hbel; have XC := Aside0.mk (And.intro hcap1 (And.intro hcap2 hcap3)); rw [QS.out] at hg; clear q0 hrow hbel hcap1 hcap2 hcap3)
  obtain ⟨W3, hW3⟩ : ∃ W3, W3 = w2.setCell ⟨N, 0, none⟩ (.slice (some ⟨g, 0, none⟩) lm cap) := ⟨_, rfl⟩
  rw [← hW3]
  have hgN : g ≠ N := by omega
  have hgN1 : g ≠ N + 1 := by omega
  have R0 := Aside0.mk (show W3.heap[N]? = some (.cells #[.slice (some ⟨g, 0, none⟩) lm cap] 23 (0, 0)) by rw [hW3]; exact blk_put (cs := #[.slice none 0 0]) X0.out 0 _ rfl)
  have R1 := Aside0.mk (show W3.heap[N + 1]? = some (.cells #[.bool false] 4 (0, 0)) by rw [hW3]; exact blk_far (p := ⟨N, 0, none⟩) X1.out (show N + 1 ≠ N by omega) _)
  have RG := Aside0.mk (show W3.heap[g]? = some (.cells (rowX X ml) 5 (0, 0)) by rw [hW3]; exact blk_far (p := ⟨N, 0, none⟩) XG.out hgN _)
  have hb3 : Below N w W3 := by
    rw [hW3]
    exact ((HNN.out ▸ hB1.out).trans (XB.out.mono (by rw [QS.out]; omega))).setCell (p := ⟨N, 0, none⟩) (Nat.le_refl N) _
  have RB := Aside0.mk hb3
  have hgs := blk_lt RG.out
  have RT := Aside0.mk (HT0.out.below hb3 (by omega))
  clear hb3 hW3 a0 f0 X0 X1 XG XB Q0 Q1 QS hB1 H14 HT0
  go_cut [14, 15] from 22 to 31 (fun v14 v15 wx => ∃ gx gy : Nat, v14 = .slice (some ⟨gx, 0, none⟩) ma ma ∧ v15 = .slice (some ⟨gy, 0, none⟩) mb mb ∧ gx ≠ gy ∧ W3.heap.size ≤ gx ∧ W3.heap.size ≤ gy ∧ Aside0 (wx.heap[gx]? = some (.cells (rowB (List.replicate ma 0)) 5 (0, 0))) ∧ Aside0 (wx.heap[gy]? = some (.cells (rowB (List.replicate mb 0)) 5 (0, 0))) ∧ Aside0 (Below W3.heap.size W3 wx))
  case first =>
    clear HA HB HBY HN0 HN1 HN2 HLA HLB HLM R0 R1 RG RB RT
    refine wp_region_noPanic ?_
    go_region_with (go_at_call 15; refine Calls.mono (SizeF _) ?_; rintro e w1 ⟨rfl, h1⟩; rw [h1]; clear h1)
    all_goals
      refine NoPanic.normal ?_
      go_wp2
      go_meet
      refine ⟨_, _, rfl, rfl, ?_, ?_, ?_, ⟨?_⟩, ⟨?_⟩, ⟨?_⟩⟩
      · omega
      · omega
      · omega
      · repeat (first | exact blk_at (by simp) | refine blk_alloc ?_ _)
      · repeat (first | exact blk_at (by simp) | refine blk_alloc ?_ _)
      · repeat (first | exact Below.refl _ _ | refine Below.drew ?_ | refine below_alloc ?_ _)
  case rest =>
    obtain ⟨gx, gy, rfl, rfl, hxy, hgx, hgy, ZX, ZY, ZB⟩ := hcut
    have S0 := Aside0.mk (Bs.below (W := W3) (ml := ml) ⟨R0.out, R1.out, RG.out, RB.out, RT.out⟩ ZB.out)
    have hNx : N + 1 < gx := by have := blk_lt R1.out; omega
    have hNy : N + 1 < gy := by have := blk_lt R1.out; omega
    have hgxg : g ≠ gx := by omega
    have hgyg : g ≠ gy := by omega
    have h3g : 3 < g := by omega
    have hgN' : N ≤ g := by omega
    clear R0 R1 RG RB RT ZB hgx hgy hgs hg
    go_wp2
    go_loopg [34] la (fun kq v34 w' => ∃ i : Nat, v34 = .int .i64 i ∧ Aside0 (kq + i = la) ∧ Aside0 (w'.heap[gx]? = some (.cells (rowB (part (bytF al) ma (4 * i))) 5 (0, 0))) ∧ Aside0 (w'.heap[gy]? = some (.cells (rowB (List.replicate mb 0)) 5 (0, 0))) ∧ Aside0 (Bs w N g lm cap X ml w'))
    case atStart => exact ⟨0, rfl, ⟨by omega⟩, ⟨by rw [show 4 * 0 = 0 from rfl, part_zero]; exact ZX.out⟩, ZY, S0⟩
    case round =>
      clear ZX ZY S0
      obtain ⟨i, rfl, HJ, PX, PY, S1⟩ := hrel
      have hi0 : i ≤ la := by have := HJ.out; omega
      by_cases hi : i < la
      · have hiI : (i : Int) < (la : Int) := by omega
        obtain ⟨ad, hAd, hcell⟩ := Kd.at_int (Kd.C_below HA.out (HNN.out ▸ S1.out.bb)) (i : Int) (Int.natCast_nonneg _) (by have := HLA.out; omega)
        rw [Int.toNat_natCast] at hcell
        subst hAd
        obtain ⟨x, hx⟩ : ∃ x, x = al.getD i 0 := ⟨_, rfl⟩
        rw [show rd al (i : Int) = x by rw [hx]; unfold rd; rw [Int.toNat_natCast]] at hcell
        have HX := Aside0.mk (show (x % 4294967296).toNat = (valF (al.getD i 0)).toNat by rw [hx]; rfl)
        have HP := Aside0.mk (putAtF gx ma ma i (x % 4294967296).toNat (val_lt x) _ wr PX.out (part_len _ _ _).symm (by have := HMA.out; omega) (by omega) (Nat.le_refl _))
        clear hx
        go_wp2_with (go_at_call 16; refine Calls.mono HP.out ?_; rintro e w5 ⟨rfl, h1, h2, h3⟩; rw [HX.out, part_step4 (by have := HMA.out; omega)] at h1; have U1 := Aside0.mk h1; have U2 := Aside0.mk h2; have U3 := Aside0.mk h3; clear h1 h2 h3)
        go_roundg (gk - 1)
        case measure => have := HJ.out; omega
        case rel => exact ⟨i + 1, by go_num, ⟨by have := HJ.out; omega⟩, U1, ⟨blk_kept PY.out U2.out hxy.symm⟩, ⟨S1.out.put U2.out U3.out hNx hgxg h3s⟩⟩
      · have hiI : ¬ (i : Int) < (la : Int) := by omega
        have QX := Aside0.mk (show wr.heap[gx]? = some (.cells (rowB ((List.range ma).map (bytF al))) 5 (0, 0)) by
          have h := PX.out
          rw [part_all _ _ _ (by have := HMA.out; have := HMB.out; omega)] at h
          exact h)
        clear PX
        go_wp2
        go_loopg [48] lb (fun kq v48 w' => ∃ i : Nat, v48 = .int .i64 i ∧ Aside0 (kq + i = lb) ∧ Aside0 (w'.heap[gx]? = some (.cells (rowB ((List.range ma).map (bytF al))) 5 (0, 0))) ∧ Aside0 (w'.heap[gy]? = some (.cells (rowB (part (bytF bl) mb (4 * i))) 5 (0, 0))) ∧ Aside0 (Bs w N g lm cap X ml w'))
        case atStart => exact ⟨0, rfl, ⟨by omega⟩, QX, ⟨by rw [show 4 * 0 = 0 from rfl, part_zero]; exact PY.out⟩, S1⟩
        case round =>
          clear QX PY S1
          obtain ⟨j, rfl, HK, PX, PY, S1⟩ := hrel
          have hj0 : j ≤ lb := by have := HK.out; omega
          by_cases hj : j < lb
          · have hjI : (j : Int) < (lb : Int) := by omega
            obtain ⟨ad, hAd, hcell⟩ := Kd.at_int (Kd.C_below HB.out (HNN.out ▸ S1.out.bb)) (j : Int) (Int.natCast_nonneg _) (by have := HLB.out; omega)
            rw [Int.toNat_natCast] at hcell
            subst hAd
            obtain ⟨x, hx⟩ : ∃ x, x = bl.getD j 0 := ⟨_, rfl⟩
            rw [show rd bl (j : Int) = x by rw [hx]; unfold rd; rw [Int.toNat_natCast]] at hcell
            have HX := Aside0.mk (show (x % 4294967296).toNat = (valF (bl.getD j 0)).toNat by rw [hx]; rfl)
            have HP := Aside0.mk (putAtF gy mb mb j (x % 4294967296).toNat (val_lt x) _ wr PY.out (part_len _ _ _).symm (by have := HMB.out; omega) (by omega) (Nat.le_refl _))
            clear hx
            go_wp2_with (go_at_call 16; refine Calls.mono HP.out ?_; rintro e w5 ⟨rfl, h1, h2, h3⟩; rw [HX.out, part_step4 (by have := HMB.out; omega)] at h1; have U1 := Aside0.mk h1; have U2 := Aside0.mk h2; have U3 := Aside0.mk h3; clear h1 h2 h3)
            go_roundg (gk - 1)
            case measure => have := HK.out; omega
            case rel => exact ⟨j + 1, by go_num, ⟨by have := HK.out; omega⟩, ⟨blk_kept PX.out U2.out hxy⟩, U1, ⟨S1.out.put U2.out U3.out hNy hgyg h3s⟩⟩
          · have hjI : ¬ (j : Int) < (lb : Int) := by omega
            have QY := Aside0.mk (show wr.heap[gy]? = some (.cells (rowB ((List.range mb).map (bytF bl))) 5 (0, 0)) by
              have h := PY.out
              rw [part_all _ _ _ (by have := HMA.out; have := HMB.out; omega)] at h
              exact h)
            clear PY
            have z0 : wr.cell? ⟨N, 0, none⟩ = some (.slice (some ⟨g, 0, none⟩) lm cap) := (cell_of_row' S1.out.n0 0).trans rfl
            have H19 := Aside0.mk (operator op hop)
            have hal' : al.length ≤ 300 := by rw [← HLA.out]; exact hal
            have hbl' : bl.length ≤ 300 := by rw [← HLB.out]; exact hbl
            have hcap' : cap ≤ 9223372036854775807 := by have := XC.out.2.1; unfold maxLen at this; omega
            have H28 := Aside0.mk (show ∀ W : World, Below wr.heap.size wr W → Calls Tryz.prog 18 #[.int .i8 op, .int .i64 how, .slice (some ⟨gx, 0, none⟩) ma ma, .slice (some ⟨gy, 0, none⟩) mb mb, .slice (some ⟨g, 0, none⟩) lm cap, .int .i64 fr] W (fun e w' => e = .returned (.tuple #[]) ∧ w'.heap[g]? = some (.cells (rowX X (S ml fr (resF op how al bl) n)) 5 (0, 0)) ∧ w'.heap[N]? = some (.cells #[.slice (some ⟨g, 0, none⟩) lm cap] 23 (0, 0)) ∧ w'.heap[N + 1]? = some (.cells #[.bool false] 4 (0, 0)) ∧ Below N w w') from fun W hW => by
              have hx := PX.out
              have hy := QY.out
              refine Calls.mono (numF op how hop hhow gx gy g lm ma mb ma mb cap fr n X al bl ml W (by rw [HMA.out, HLA.out]) (by rw [HMB.out, HLB.out]) (blk_below hx hW) (blk_below hy hW) (blk_below S1.out.gg hW) HN0.out HN1.out HN2.out hal' hbl' (Nat.le_refl _) (Nat.le_refl _) HBY.out HLM.out XC.out.1 hcap' (S1.out.tt.below hW S1.out.tt.lt.2) hf hfn h3g) ?_
              rintro e w' ⟨rfl, k1, k2, k3⟩
              exact ⟨rfl, k1, blk_kept (blk_below S1.out.n0 hW) k2 (fun h => hgN h.symm), blk_kept (blk_below S1.out.n1 hW) k2 (fun h => hgN1 h.symm), (S1.out.bb.trans (hW.mono (by have := blk_lt S1.out.n0; omega))).trans (k3.mono hgN')⟩)
            clear hal' hbl' hcap'
            go_wp2
            refine wp_region_noPanic ?_
            go_region_with (first | (go_at_call 19; refine Calls.mono (H19.out _) ?_; rintro e w5 ⟨rfl, hb5⟩; have B5 := Aside0.mk hb5; have z5 : w5.cell? ⟨N, 0, none⟩ = some (.slice (some ⟨g, 0, none⟩) lm cap) := (cell_of_row' (blk_below S1.out.n0 (show Below wr.heap.size wr w5 from (show Below wr.heap.size wr wr.drew from (Below.refl _ _).drew).trans hb5)) 0).trans rfl; clear hb5) | (go_at_call 18; refine Calls.mono (H28.out _ (show Below wr.heap.size wr _ from (show Below wr.heap.size wr wr.drew from (Below.refl _ _).drew).trans B5.out)) ?_; rintro e w6 ⟨rfl, k1, k2, k3, k4⟩; have z6 : w6.cell? ⟨N, 0, none⟩ = some (.slice (some ⟨g, 0, none⟩) lm cap) := (cell_of_row' k2 0).trans rfl; have z7 : w6.cell? ⟨N + 1, 0, none⟩ = some (.bool false) := (cell_of_row' k3 0).trans rfl; have v0 := blk_frozen' k2 0; have v1 := blk_frozen' k3 0; have K1 := Aside0.mk k1; have K2 := Aside0.mk k2; have K3 := Aside0.mk k3; have K4 := Aside0.mk k4; clear k1 k2 k3 k4))
            all_goals
              refine NoPanic.normal ?_
              go_wp2
              refine leaves_cons (f := 13) (args := #[.pointer (some ⟨N, 0, none⟩), .pointer (some ⟨N + 1, 0, none⟩)]) (by simp) (by simp [go_sem]) ?_
              refine (no_idle13 ⟨N, 0, none⟩ ⟨N + 1, 0, none⟩ _).mono ?_
              rintro e u' w'' ⟨rfl, rfl, rfl⟩
              have k0 := blk_far (p := ⟨N + 1, 0, none⟩) (blk_put (cs := #[.slice (some ⟨g, 0, none⟩) lm cap]) K2.out 0 (.slice (some ⟨g, 0, none⟩) lm cap) rfl) (show N ≠ N + 1 by omega) (.bool true)
              have k1 := blk_put (cs := #[.bool false]) (blk_far (p := ⟨N, 0, none⟩) K3.out (show N + 1 ≠ N by omega) (.slice (some ⟨g, 0, none⟩) lm cap)) 0 (.bool true) rfl
              have k2 := blk_far (p := ⟨N + 1, 0, none⟩) (blk_far (p := ⟨N, 0, none⟩) K1.out hgN (.slice (some ⟨g, 0, none⟩) lm cap)) hgN1 (.bool true)
              have e0 := (cell_of_row' k0 0).trans rfl
              have e1 := (cell_of_row' k1 0).trans rfl
              have HR := Aside0.mk (rowX_R k2 (base := N) hgN' ((S_len _ _ _ _).trans HLM.out.symm) XC.out.1 XC.out.2.1 (by rw [rowX_size, S_len, ← rowX_size]; exact XC.out.2.2))
              have HBL := Aside0.mk (Below.setCell (p := ⟨N + 1, 0, none⟩) (Below.setCell (p := ⟨N, 0, none⟩) K4.out (Nat.le_refl N) (.slice (some ⟨g, 0, none⟩) lm cap)) (show N ≤ N + 1 by omega) (.bool true))
              clear k0 k1 k2
              simp [Leaves, settle, results, Tryz.results5, go_sem, e0, e1]
              rw [← HNN.out]
              exact ⟨HR.out, HBL.out⟩

end Go.Proofs.YtogbpljnekgfkaaGreatDoor.Cm
