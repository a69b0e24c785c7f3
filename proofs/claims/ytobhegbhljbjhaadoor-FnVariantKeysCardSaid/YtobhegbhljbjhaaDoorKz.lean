/- spec.fewNodes, as a function. The arguments, as they come in. IdFor; impl.VariantIds. impl.VariantIds. -/
import Derived.Test.YtobhegbhljbjhaaDoorKh
import Derived.Deep.Slices
import Derived.Deep.Fields
import Derived.ChangeSame
import Derived.Test.YtobhegbhljbjhaaDoorKx
import Derived.Test.YtobhegbhljbjhaaDoorKm
namespace Go.Proofs.YtobhegbhljbjhaaDoor.Vk
set_option linter.unusedVariables false
set_option linter.unusedSimpArgs false
open Go.RowKit Go.IntWalk Go.Proofs.YtobhegbhljbjhaaDoorW.PrintWords Go.Proofs.YtobhegbhljbjhaaDoorW.PrintLast Go.Proofs.YtobhegbhljbjhaaDoorW.PrintMore Go.Proofs.YtobhegbhljbjhaaDoor.MVkS
attribute [local go_sem] max2_int min2_int max_two min_two max_three min_three max_four min_four
/-! ## spec.fewNodes answers what a function says -/
def fewText (m : Int) (z : Nat) : Int := wrap64 (m - wrap64 (1 + wrap64 ((z : Int) / 16)))
def fewKeys : List ByteArray → Int → Int
  | [], m => m
  | k :: l, m => fewKeys l (fewText m k.size)
def fewAll (f : S26 → Int → Bool × Int) : List S26 → Int → Bool × Int
  | [], m => (true, m)
  | u :: l, m => if (f u m).1 = true then fewAll f l (f u m).2 else (false, (f u m).2)
def few : Nat → S26 → Int → Bool × Int
  | 0, _, m => (true, m)
  | n + 1, x, m => if fewKeys x.f4 (fewText m x.f3.size) < 0 then (false, fewKeys x.f4 (fewText m x.f3.size)) else fewAll (few n) x.f5 (fewKeys x.f4 (fewText m x.f3.size))
def FewD (n : Nat) (x : S26) (w0 w : World) (lb : Nat) (L : Int) (e : Ending) (w' : World) : Prop := ∃ (b : Bool) (L' : Int), e = .returned (.bool b) ∧ I64 L' ∧ w'.heap[lb]? = some (.cells #[.int .i64 L'] 3 (0, 0)) ∧ Below w0.heap.size w0 w' ∧ Kept w w' (fun k => k = lb) ∧ (fine n x → 0 ≤ L → L ≤ 20000 → b = true → 0 ≤ L' ∧ L' + nodes n x ≤ L) ∧ few n x L = (b, L')
set_option maxHeartbeats 8000000 in
set_option maxRecDepth 100000 in
theorem few14d : ∀ (n : Nat) (x : S26), dep n x → ∀ (A4 : Option Addr) (c4 : Nat) (A5 : Option Addr) (c5 : Nat) (w0 w : World) (h4 : Kd.string.C w0 A4 x.f4.length x.f4) (h5 : k26.C w0 A5 x.f5.length x.f5)
    (hB : Below w0.heap.size w0 w) (lb : Nat) (hlb : w0.heap.size ≤ lb) (L : Int) (hL : I64 L) (hp : w.heap[lb]? = some (.cells #[.int .i64 L] 3 (0, 0))),
    Calls Tryd.prog 14 #[.agg #[.int .i64 x.f0, .int .u64 x.f1, .int .i64 x.f2, .string x.f3, .slice A4 x.f4.length c4, .slice A5 x.f5.length c5], .pointer (some ⟨lb, 0, none⟩)] w (FewD n x w0 w lb L)
  | 0, x, h, _, _, _, _, _, _, _, _, _, _, _, _, _, _ => h.elim
  | n + 1, x, hx, A4, c4, A5, c5, w0, w, h4, h5, hB, lb, hlb, L, hL, hp => by
    have IH := Aside0.mk (few14d n)
    have HX := Aside0.mk hx
    have H4 := Aside0.mk h4
    have H5 := Aside0.mk h5
    have HB := Aside0.mk hB
    have HLB := Aside0.mk hlb
    have HL := Aside0.mk hL
    have HP := Aside0.mk hp
    have hn4 : x.f4.length ≤ 9223372036854775807 := h4.2.1
    have hn5 : x.f5.length ≤ 9223372036854775807 := h5.2.1
    clear hx h4 h5 hB hlb hL hp
    go_enter Tryd.func14, Tryd.ntmps14
    go_wp2_with (first | ((with_reducible refine gate_dst (N := 2) rfl ?_); refine box_event ?hg (N := 2) ?hd (cs := #[.int .i64 x.f0, .int .u64 x.f1, .int .i64 x.f2, .string x.f3, .slice A4 x.f4.length c4, .slice A5 x.f5.length c5]) (t := 26) ?hr ?_; (case hd => rfl); (case hg => rfl); (case hr => first | (go_simp; done) | (go_simp; rfl)); intro gb hg w3 hbox hb; have BK := Aside0.mk hbox; have HG := Aside0.mk hg; have HB3 := Aside0.mk hb; clear hb hbox hg; have hc3 : w3.cell? ⟨gb, 3, none⟩ = some (.string x.f3) := (blk_cell BK.out 3).trans rfl; have hc4 : w3.cell? ⟨gb, 4, none⟩ = some (.slice A4 x.f4.length c4) := (blk_cell BK.out 4).trans rfl; have LB := Aside0.mk (blk_below HP.out HB3.out); have hl0 : w3.cell? ⟨lb, 0, none⟩ = some (.int .i64 L) := (blk_cell LB.out 0).trans rfl; have hlf := blk_frozen LB.out 0))
    have hgl : gb ≠ lb := by
      have := blk_lt HP.out
      rw [HG.out]
      omega
    have F1 := Aside0.mk (Few.moved (W1 := (w3.setCell ⟨lb, 0, none⟩ (.int .i64 (wrap64 (L - wrap64 (1 + wrap64 ((x.f3.size : Int) / 16)))))).drew) (Few.set (Few.moved (w := w) ⟨HP.out, HL.out, HB.out, Kept.refl _ _⟩ HB3.out) HLB.out _ (I64_wrap _)) (below_drew (Below.refl _ _)))
    have BK1 := Aside0.mk (show (w3.setCell ⟨lb, 0, none⟩ (.int .i64 (wrap64 (L - wrap64 (1 + wrap64 ((x.f3.size : Int) / 16)))))).drew.heap[gb]? = some (.cells #[.int .i64 x.f0, .int .u64 x.f1, .int .i64 x.f2, .string x.f3, .slice A4 x.f4.length c4, .slice A5 x.f5.length c5] 26 (0, 0)) from blk_drew (blk_far BK.out hgl _))
    go_region
    obtain ⟨E1, hE1⟩ : ∃ E, E = wrap64 (L - wrap64 (1 + wrap64 ((x.f3.size : Int) / 16))) := ⟨_, rfl⟩
    rw [← hE1] at F1 BK1 ⊢
    obtain ⟨W1, hW1⟩ : ∃ W, W = (w3.setCell ⟨lb, 0, none⟩ (.int .i64 E1)).drew := ⟨_, rfl⟩
    rw [← hW1] at F1 BK1 ⊢
    have G1 := Aside0.mk (show fine (n + 1) x → 0 ≤ L → L ≤ 20000 → -257 ≤ E1 ∧ E1 + 1 ≤ L from fun hf h0 h1 => by
      have h2 := hf.1
      rw [hE1, st_few (by omega) h1 (by omega) (by omega)]
      omega)
    have D1 := Aside0.mk (show E1 = fewText L x.f3.size from hE1)
    clear hE1 hW1 hc4 hc3 hl0 hlf LB BK HB3 HG
    have hc4 : W1.cell? ⟨gb, 4, none⟩ = some (.slice A4 x.f4.length c4) := (blk_cell BK1.out 4).trans rfl
    go_wp2
    go_loopg [21] x.f4.length (fun kq v21 w' => ∃ (i : Nat) (M : Int), v21 = .int .i64 (i : Int) ∧ Aside0 (kq + i = x.f4.length) ∧ Aside0 (Few w0 w w' lb M) ∧ Aside0 (w'.heap[gb]? = some (.cells #[.int .i64 x.f0, .int .u64 x.f1, .int .i64 x.f2, .string x.f3, .slice A4 x.f4.length c4, .slice A5 x.f5.length c5] 26 (0, 0))) ∧ Aside0 (fine (n + 1) x → 0 ≤ L → L ≤ 20000 → -257 - 13 * (i : Int) ≤ M ∧ M + 1 ≤ L) ∧ Aside0 (fewKeys x.f4 E1 = fewKeys (x.f4.drop i) M))
    case atStart => exact ⟨0, E1, rfl, ⟨by omega⟩, F1, BK1, ⟨fun hf h0 h1 => by have := G1.out hf h0 h1; omega⟩, ⟨rfl⟩⟩
    case round =>
      clear F1 BK1 G1 hc4
      obtain ⟨i, M, rfl, HJ, HF, BK, HG, HD⟩ := hrel
      have hm0 : wr.cell? ⟨lb, 0, none⟩ = some (.int .i64 M) := (blk_cell HF.out.cell 0).trans rfl
      have hmf := blk_frozen HF.out.cell 0
      by_cases hi : i < x.f4.length
      · have hiI : (i : Int) < (x.f4.length : Int) := by omega
        obtain ⟨ad, e, hx0⟩ := Kd.at_string H4.out (i : Int) (by omega) hiI
        cases e
        rw [rdOf_at _ _ hi] at hx0
        have hxr := (HF.out.below.cell (World.block_lt_of_cell? w0 _ hx0)).trans hx0
        rw [Int.toNat_natCast] at hxr
        clear hx0
        obtain ⟨s, hs⟩ : ∃ s, s = x.f4[i] := ⟨_, rfl⟩
        have HS0 := Aside0.mk hs
        have HS := Aside0.mk (show fine (n + 1) x → s.size ≤ 200 from fun hf => by rw [hs]; exact hf.2.2.1 _ (List.getElem_mem hi))
        rw [← hs] at hxr
        clear hs
        go_wp2
        go_roundg (gk - 1)
        case measure => have := HJ.out; omega
        case rel => exact ⟨i + 1, _, by go_num, ⟨by have := HJ.out; omega⟩, ⟨HF.out.set HLB.out _ (I64_wrap _)⟩, ⟨blk_far BK.out hgl _⟩, ⟨fun hf h0 h1 => by
            have h2 := HG.out hf h0 h1
            have h3 := HS.out hf
            have h4 := hf.2.1
            rw [st_few (by omega) (by omega) (by omega) (by omega)]
            omega⟩, ⟨by rw [HD.out, List.drop_eq_getElem_cons hi, fewKeys, ← HS0.out]; rfl⟩⟩
      · have hiI : ¬ (i : Int) < (x.f4.length : Int) := by omega
        by_cases hneg : M < 0
        · go_wp2
          go_ret
          exact ⟨false, M, rfl, HF.out.range, HF.out.cell, HF.out.below, HF.out.kept, (fun _ _ _ h => by cases h), by rw [few, ← D1.out, HD.out, List.drop_eq_nil_of_le (by omega), fewKeys, if_pos hneg]⟩
        · have G2 := Aside0.mk (show fine (n + 1) x → 0 ≤ L → L ≤ 20000 → 0 ≤ M ∧ M + 1 ≤ L from fun hf h0 h1 => ⟨by omega, (HG.out hf h0 h1).2⟩)
          have HD2 := Aside0.mk (show few (n + 1) x L = fewAll (few n) x.f5 M from by rw [few, ← D1.out, HD.out, List.drop_eq_nil_of_le (by omega), fewKeys, if_neg hneg])
          clear HG HD
          go_wp2
          go_loopg [7] x.f5.length (fun kq v7 w' => ∃ (i : Nat) (M : Int), v7 = .int .i64 (i : Int) ∧ Aside0 (kq + i = x.f5.length) ∧ Aside0 (Few w0 w w' lb M) ∧ Aside0 (w'.heap[gb]? = some (.cells #[.int .i64 x.f0, .int .u64 x.f1, .int .i64 x.f2, .string x.f3, .slice A4 x.f4.length c4, .slice A5 x.f5.length c5] 26 (0, 0))) ∧ Aside0 (fine (n + 1) x → 0 ≤ L → L ≤ 20000 → 0 ≤ M ∧ M + 1 + (((x.f5.take i).map (nodes n)).sum : Nat) ≤ L) ∧ Aside0 (few (n + 1) x L = fewAll (few n) (x.f5.drop i) M))
          case atStart => exact ⟨0, M, rfl, ⟨by omega⟩, HF, BK, ⟨fun hf h0 h1 => by have := G2.out hf h0 h1; simp; omega⟩, HD2⟩
          case round =>
            clear HF BK G2 HD2 hm0 hmf hneg hiI hi HJ
            obtain ⟨i, M, rfl, HJ, HF, BK, HG, HD⟩ := hrel
            have hc5 : wr.cell? ⟨gb, 5, none⟩ = some (.slice A5 x.f5.length c5) := (blk_cell BK.out 5).trans rfl
            by_cases hi : i < x.f5.length
            · have hiI : (i : Int) < (x.f5.length : Int) := by omega
              obtain ⟨y, hy⟩ : ∃ y, y = x.f5[i] := ⟨_, rfl⟩
              have hdep : dep n y := by rw [hy]; exact HX.out _ (List.getElem_mem hi)
              have HY := Aside0.mk (show fine (n + 1) x → fine n y from fun hf => by rw [hy]; exact hf.2.2.2.2 _ (List.getElem_mem hi))
              have HNX := Aside0.mk (show ((x.f5.take (i + 1)).map (nodes n)).sum = ((x.f5.take i).map (nodes n)).sum + nodes n y by rw [take_snoc _ _ hi, List.map_append, List.sum_append, hy]; simp)
              obtain ⟨ad, B4, d4, B5, d5, e, g0, g1, g2, g3, g4, g5, l4, q4, l5, q5⟩ := at_T26 H5.out (i : Int) (by omega) hiI
              cases e
              rw [rdT_at _ _ hi, ← hy] at g0 g1 g2 g3 g4 g5 l4 q4 l5 q5
              rw [Int.toNat_natCast] at g0 g1 g2 g3 g4 g5
              have HY0 := Aside0.mk hy
              clear hy
              have STEP := Aside0.mk (IH.out y hdep B4 d4 B5 d5 w0 wr q4 q5 HF.out.below lb HLB.out M HF.out.range HF.out.cell)
              clear hdep l4 q4 l5 q5
              replace g0 := (HF.out.below.cell (World.block_lt_of_cell? w0 _ g0)).trans g0
              replace g1 := (HF.out.below.cell (World.block_lt_of_cell? w0 _ g1)).trans g1
              replace g2 := (HF.out.below.cell (World.block_lt_of_cell? w0 _ g2)).trans g2
              replace g3 := (HF.out.below.cell (World.block_lt_of_cell? w0 _ g3)).trans g3
              replace g4 := (HF.out.below.cell (World.block_lt_of_cell? w0 _ g4)).trans g4
              replace g5 := (HF.out.below.cell (World.block_lt_of_cell? w0 _ g5)).trans g5
              go_wp2_with (go_at_call 14; refine Calls.mono STEP.out ?_; rintro r w9 ⟨b, M2, rfl, hr2, hcell, hbel, hkep, hq, hfd⟩; have HFD := Aside0.mk hfd; clear hfd; have HF2 := Aside0.mk (Few.then_ HF.out ⟨hcell, hr2, hbel, hkep⟩); have BK2 := Aside0.mk (blk_kept BK.out hkep hgl); have HQ := Aside0.mk hq; clear hr2 hcell hbel hkep hq; cases b)
              · go_ret
                exact ⟨false, M2, rfl, HF2.out.range, HF2.out.cell, HF2.out.below, HF2.out.kept, (fun _ _ _ h => by cases h), by rw [HD.out, List.drop_eq_getElem_cons hi, fewAll, ← HY0.out, HFD.out, if_neg (show ¬ false = true by decide)]⟩
              · go_roundg (gk - 1)
                case measure => have := HJ.out; omega
                case rel => exact ⟨i + 1, M2, by go_num, ⟨by have := HJ.out; omega⟩, HF2, BK2, ⟨fun hf h0 h1 => by
                    have h2 := HG.out hf h0 h1
                    have h3 := HQ.out (HY.out hf) (by omega) (by omega) trivial
                    have h4 := HNX.out
                    omega⟩, ⟨by rw [HD.out, List.drop_eq_getElem_cons hi, fewAll, ← HY0.out, HFD.out, if_pos rfl]⟩⟩
            · have hiI : ¬ (i : Int) < (x.f5.length : Int) := by omega
              go_wp2
              go_ret
              refine ⟨true, M, rfl, HF.out.range, HF.out.cell, HF.out.below, HF.out.kept, fun hf h0 h1 _ => ?_, by rw [HD.out, List.drop_eq_nil_of_le (by omega), fewAll]⟩
              have h2 := HG.out hf h0 h1
              rw [List.take_of_length_le (by omega)] at h2
              unfold nodes
              omega
theorem few_keys : ∀ (l : List ByteArray) (m : Int), (∀ k ∈ l, k.size ≤ 200) → -257 ≤ m → m ≤ 20000 → l.length ≤ 500 → fewKeys l m ≤ m ∧ -257 - 13 * (l.length : Int) ≤ fewKeys l m := by
  have h : ∀ (l : List ByteArray) (m : Int), (∀ k ∈ l, k.size ≤ 200) → -257 - 13 * 500 + 13 * (l.length : Int) ≤ m → m ≤ 20000 → fewKeys l m ≤ m ∧ m - 13 * (l.length : Int) ≤ fewKeys l m := by
    intro l
    induction l with
    | nil => intro m _ _ _; simp [fewKeys]
    | cons k l ih =>
      intro m hk h1 h2
      have hk0 := hk k List.mem_cons_self
      have e : fewText m k.size = m - 1 - (k.size : Int) / 16 := by
        unfold fewText
        rw [List.length_cons] at h1
        exact st_few (by omega) h2 (by omega) (by omega)
      rw [List.length_cons] at h1 ⊢
      have h3 := ih (fewText m k.size) (fun y hy => hk y (List.mem_cons_of_mem _ hy)) (by rw [e]; omega) (by rw [e]; omega)
      rw [fewKeys]
      rw [e] at h3 ⊢
      omega
  intro l m h1 h2 h3 h4
  have := h l m h1 (by omega) h3
  omega
theorem few_nodes : ∀ (n : Nat) (x : S26) (L : Int), fine n x → 0 ≤ L → L ≤ 20000 → (few n x L).1 = true → 0 ≤ (few n x L).2 ∧ (few n x L).2 + nodes n x ≤ L
  | 0, x, L, _, h0, _, _ => by unfold few nodes; simp; omega
  | n + 1, x, L, hf, h0, h1, hb => by
    have hall : ∀ (l : List S26) (M : Int), (∀ u ∈ l, fine n u) → 0 ≤ M → M ≤ 20000 → (fewAll (few n) l M).1 = true → 0 ≤ (fewAll (few n) l M).2 ∧ (fewAll (few n) l M).2 + ((l.map (nodes n)).sum : Nat) ≤ M := by
      intro l
      induction l with
      | nil => intro M _ h2 _ _; unfold fewAll; simp; omega
      | cons u l ih =>
        intro M hl h2 h3 h4
        unfold fewAll at h4 ⊢
        by_cases hc : (few n u M).1 = true
        · rw [if_pos hc] at h4 ⊢
          have h5 := few_nodes n u M (hl u List.mem_cons_self) h2 h3 hc
          have h6 := ih (few n u M).2 (fun v hv => hl v (List.mem_cons_of_mem _ hv)) h5.1 (by omega) h4
          rw [List.map_cons, List.sum_cons]
          omega
        · rw [if_neg hc] at h4
          cases h4
    have ht : fewText L x.f3.size = L - 1 - (x.f3.size : Int) / 16 := by
      unfold fewText
      exact st_few (by omega) h1 (by omega) (by have := hf.1; omega)
    have hk := few_keys x.f4 (fewText L x.f3.size) hf.2.2.1 (by rw [ht]; have := hf.1; omega) (by rw [ht]; omega) hf.2.1
    unfold few at hb ⊢
    by_cases hneg : fewKeys x.f4 (fewText L x.f3.size) < 0
    · rw [if_pos hneg] at hb
      cases hb
    · rw [if_neg hneg] at hb ⊢
      have h5 := hall x.f5 _ hf.2.2.2.2 (by omega) (by omega) hb
      unfold nodes
      omega
set_option maxHeartbeats 8000000 in
set_option maxRecDepth 100000 in
theorem fits6d (n : Nat) (x : S26) (hx : dep n x) (hs : small n x) : ∃ b : Bool, (b = true → fine n x ∧ nodes n x ≤ 20000) ∧ ∀ (A4 : Option Addr) (c4 : Nat) (A5 : Option Addr) (c5 : Nat) (w : World) (hT : Utf8T w) (h4 : Kd.string.C w A4 x.f4.length x.f4) (l4 : x.f4.length ≤ c4) (h5 : k26.C w A5 x.f5.length x.f5) (l5 : x.f5.length ≤ c5),
    Calls Tryd.prog 6 #[.agg #[.int .i64 x.f0, .int .u64 x.f1, .int .i64 x.f2, .string x.f3, .slice A4 x.f4.length c4, .slice A5 x.f5.length c5], .bool false, .int .i64 12] w fun e w' => e = .returned (.bool b) ∧ Below w.heap.size w w' := by
  obtain ⟨K, b, hf, hp⟩ := fits_some n x hx hs false 12
  have FN := Aside0.mk (few_nodes n x)
  refine ⟨(few n x 20000).1 && b, fun h => ?_, fun A4 c4 A5 c5 w hT h4 l4 h5 l5 => ?_⟩
  · rw [Bool.and_eq_true] at h
    have h1 := hp h.2
    have h2 := FN.out 20000 h1 (by omega) (by omega) h.1
    exact ⟨h1, by omega⟩
  have hB := Below.refl w.heap.size w
  have HF := Aside0.mk hf
  have HPP := Aside0.mk hp
  have H4 := Aside0.mk h4
  have H5 := Aside0.mk h5
  have HB := Aside0.mk hB
  have HT := Aside0.mk hT
  have FEW := Aside0.mk (fun (W : World) (hW : Below w.heap.size w W) (lb : Nat) (hlb : w.heap.size ≤ lb) (hc : W.heap[lb]? = some (.cells #[.int .i64 20000] 3 (0, 0))) => few14d n x hx A4 c4 A5 c5 w W h4 h5 hW lb hlb 20000 (by unfold I64; omega) hc)
  have VF := Aside0.mk (fun (W : World) (hW : Below w.heap.size w W) => spec_variantFits.calls K x.f0 x.f1 x.f2 x.f3 A4 c4 x.f4 A5 c5 x.f5 false 12 b W (hT.below hW) (Kd.C_below h4 hW) l4 (Kd.C_below h5 hW) l5 hf)
  clear hx hs hT h4 h5 hB hf hp l4 l5
  go_enter Tryd.func6, Tryd.ntmps6
  go_wp2_with (first | ((with_reducible refine gate_dst (N := 3) rfl ?_); refine box_event ?hg (N := 3) ?hd (cs := #[.int .i64 x.f0, .int .u64 x.f1, .int .i64 x.f2, .string x.f3, .slice A4 x.f4.length c4, .slice A5 x.f5.length c5]) (t := 26) ?hr ?_; (case hd => rfl); (case hg => rfl); (case hr => first | (go_simp; done) | (go_simp; rfl)); intro gb hg w3 hbox hb; have HB3 := Aside0.mk (HB.out.trans (hb.mono HB.out.size)); have BK := Aside0.mk (blk_alloc hbox (.cells #[.int .i64 20000] 3 (0, 0))); have HNE := Aside0.mk (show gb ≠ w3.heap.size from Nat.ne_of_lt (blk_lt hbox)); have HB4 := Aside0.mk (show Below w.heap.size w (w3.alloc (.cells #[.int .i64 20000] 3 (0, 0))) from HB3.out.alloc HB3.out.size _); have LC := Aside0.mk (show (w3.alloc (.cells #[.int .i64 20000] 3 (0, 0))).heap[w3.heap.size]? = some (.cells #[.int .i64 20000] 3 (0, 0)) from blk_new _ _); clear hb hbox hg; have hc0 : (w3.alloc (.cells #[.int .i64 20000] 3 (0, 0))).cell? ⟨gb, 0, none⟩ = some (.int .i64 x.f0) := (blk_cell BK.out 0).trans rfl; have hc1 : (w3.alloc (.cells #[.int .i64 20000] 3 (0, 0))).cell? ⟨gb, 1, none⟩ = some (.int .u64 x.f1) := (blk_cell BK.out 1).trans rfl; have hc2 : (w3.alloc (.cells #[.int .i64 20000] 3 (0, 0))).cell? ⟨gb, 2, none⟩ = some (.int .i64 x.f2) := (blk_cell BK.out 2).trans rfl; have hc3 : (w3.alloc (.cells #[.int .i64 20000] 3 (0, 0))).cell? ⟨gb, 3, none⟩ = some (.string x.f3) := (blk_cell BK.out 3).trans rfl; have hc4 : (w3.alloc (.cells #[.int .i64 20000] 3 (0, 0))).cell? ⟨gb, 4, none⟩ = some (.slice A4 x.f4.length c4) := (blk_cell BK.out 4).trans rfl; have hc5 : (w3.alloc (.cells #[.int .i64 20000] 3 (0, 0))).cell? ⟨gb, 5, none⟩ = some (.slice A5 x.f5.length c5) := (blk_cell BK.out 5).trans rfl) | (go_at_call 14; refine Calls.mono (FEW.out _ HB4.out _ HB3.out.size LC.out) ?_; rintro r w9 ⟨b1, L', rfl, _, hcell, hbel, hkep, hq, hfd⟩; have HFD := Aside0.mk (show (few n x 20000).1 = b1 from by rw [hfd]); clear hfd; have HB9 := Aside0.mk hbel; have BK9 := Aside0.mk (blk_kept BK.out hkep HNE.out); have HQ := Aside0.mk hq; clear hcell hbel hkep hq; have hd0 : w9.cell? ⟨gb, 0, none⟩ = some (.int .i64 x.f0) := (blk_cell BK9.out 0).trans rfl; have hd1 : w9.cell? ⟨gb, 1, none⟩ = some (.int .u64 x.f1) := (blk_cell BK9.out 1).trans rfl; have hd2 : w9.cell? ⟨gb, 2, none⟩ = some (.int .i64 x.f2) := (blk_cell BK9.out 2).trans rfl; have hd3 : w9.cell? ⟨gb, 3, none⟩ = some (.string x.f3) := (blk_cell BK9.out 3).trans rfl; have hd4 : w9.cell? ⟨gb, 4, none⟩ = some (.slice A4 x.f4.length c4) := (blk_cell BK9.out 4).trans rfl; have hd5 : w9.cell? ⟨gb, 5, none⟩ = some (.slice A5 x.f5.length c5) := (blk_cell BK9.out 5).trans rfl; cases b1) | (go_at_call 15; refine Calls.mono (VF.out _ HB9.out) ?_; rintro r w10 ⟨rfl, hb10⟩; have HB10 := Aside0.mk (HB9.out.trans (hb10.mono HB9.out.size)); clear hb10))
  · go_ret
    exact ⟨by rw [HFD.out]; rfl, HB9.out⟩
  · go_ret
    exact ⟨by rw [HFD.out]; rfl, HB10.out⟩
/-! ## The arguments, as they come in -/
section
variable {H : Type} {enc : TypeId × Value → H} {w : World} {base : Nat} {spare : Nat → Bool} {held : Bool}
theorem list6 {α : Type} : ∀ {l : List α}, l.length = 6 → ∃ a b c d e f, l = [a, b, c, d, e, f]
  | [a, b, c, d, e, f], _ => ⟨a, b, c, d, e, f, rfl⟩
  | [], h => by simp at h
  | [_], h => by simp at h
  | [_, _], h => by simp at h
  | [_, _, _], h => by simp at h
  | [_, _, _, _], h => by simp at h
  | [_, _, _, _, _], h => by simp at h
  | _ :: _ :: _ :: _ :: _ :: _ :: _ :: _, h => by simp at h
theorem list7 {α : Type} : ∀ {l : List α}, l.length = 7 → ∃ a b c d e f g, l = [a, b, c, d, e, f, g]
  | [a, b, c, d, e, f, g], _ => ⟨a, b, c, d, e, f, g, rfl⟩
  | [], h => by simp at h
  | [_], h => by simp at h
  | [_, _], h => by simp at h
  | [_, _, _], h => by simp at h
  | [_, _, _, _], h => by simp at h
  | [_, _, _, _, _], h => by simp at h
  | [_, _, _, _, _, _], h => by simp at h
  | _ :: _ :: _ :: _ :: _ :: _ :: _ :: _ :: _, h => by simp at h
theorem open_texts {fuel : Nat} {cs : List Value} {x : DataW H × List MemPlace} (h : DataW.trod enc Tryd.prog w base spare held fuel 23 cs = some x) :
    ∃ (a : Option Addr) (zs : List ByteArray) (cap : Nat), cs = [.slice a zs.length cap] ∧ zs.length ≤ cap ∧ Kd.C Kd.string w a zs.length zs ∧ ∀ z ∈ zs, z.size ≤ 9223372036854775807 := by
  rcases DataW.trod_slice Tryd.underlying23 h with ⟨rfl, -⟩ | ⟨a, len, cap, elems, rest, n, -, rfl, -, hb, hl, hc, hel, hi, -⟩
  · exact ⟨none, [], 0, rfl, Nat.le_refl _, Kd.C_nil _ _, fun z hz => by cases hz⟩
  · have hc9 : Tryd.prog.cellsOf 9 = 1 := by kernel_rfl
    have hstep : ∀ i, i < len → ∃ z : ByteArray, z.size ≤ 9223372036854775807 ∧ w.cell? (a.add (i * 1)) = some (.string z) := by
      intro i hil
      have h1 := hi i hil
      rw [hc9, List.getElem?_eq_getElem (by omega)] at h1
      obtain ⟨cs', hcs, ht⟩ := Option.bind_eq_some_iff.1 h1
      obtain ⟨z, hz, -, hs⟩ := DataW.trod_string Tryd.underlying9 ht
      obtain ⟨-, hcl, hat⟩ := World.cells?_some hcs
      have h0 := hat 0 (by decide)
      rw [hz] at h0
      refine ⟨z, hs, ?_⟩
      rw [show a.add (i * 1) = (a.add (i * 1)).add 0 by simp [Addr.add]]
      exact h0
    obtain ⟨f, hfz⟩ : ∃ f : Nat → ByteArray, ∀ i, i < len → (f i).size ≤ 9223372036854775807 ∧ w.cell? (a.add (i * 1)) = some (.string (f i)) :=
      ⟨fun i => if h : i < len then (hstep i h).choose else ByteArray.empty, fun i h => by
        simp only [dif_pos h]
        exact (hstep i h).choose_spec⟩
    refine ⟨some a, (List.range len).map f, cap, by simp, by simpa using hl, ⟨rfl, by unfold maxLen at hc; simp; omega, fun _ => ⟨a, rfl, fun j z hj => ?_⟩⟩, fun z hz => ?_⟩
    · have hjl : j < len := by
        have := (List.getElem?_eq_some_iff.1 hj).1
        simpa using this
      have hz : z = f j := by
        rw [List.getElem?_map, List.getElem?_range hjl] at hj
        exact (Option.some.inj hj).symm
      subst hz
      refine ⟨[.string (f j)], rfl, rfl, fun i u hu => ?_⟩
      obtain rfl : i = 0 := by have := (List.getElem?_eq_some_iff.1 hu).1; simp at this; omega
      have h2 := (hfz j hjl).2
      simp at hu
      subst hu
      exact h2
    · obtain ⟨i, hi2, rfl⟩ := List.mem_map.1 hz
      exact (hfz i (List.mem_range.1 hi2)).1
theorem open_variant : ∀ (fuel : Nat) (cs : List Value) (x : DataW H × List MemPlace), DataW.trod enc Tryd.prog w base spare held fuel 26 cs = some x → ∃ v : S26, k26.K w v cs ∧ ∀ n, small n v := by
  intro fuel
  induction fuel using Nat.strongRecOn with
  | ind fuel ih =>
    intro cs x h
    obtain ⟨ys, n', hfu, -, hlen, hyl, hf⟩ := DataW.trod_struct Tryd.underlying26 h
    rw [show Tryd.prog.cellsOf 26 = 6 by kernel_rfl] at hlen
    obtain ⟨c0, c1, c2, c3, c4, c5, rfl⟩ := list6 hlen
    obtain ⟨y0, y1, y2, y3, y4, y5, rfl⟩ := list6 (show ys.length = 6 from hyl)
    have t0 : DataW.trod enc Tryd.prog w base spare held n' 3 (List.take (Tryd.prog.cellsOf 3) (List.drop 0 [c0, c1, c2, c3, c4, c5])) = some y0 := hf 0 _ rfl
    have t1 : DataW.trod enc Tryd.prog w base spare held n' 22 (List.take (Tryd.prog.cellsOf 22) (List.drop 1 [c0, c1, c2, c3, c4, c5])) = some y1 := hf 1 _ rfl
    have t2 : DataW.trod enc Tryd.prog w base spare held n' 3 (List.take (Tryd.prog.cellsOf 3) (List.drop 2 [c0, c1, c2, c3, c4, c5])) = some y2 := hf 2 _ rfl
    have t3 : DataW.trod enc Tryd.prog w base spare held n' 9 (List.take (Tryd.prog.cellsOf 9) (List.drop 3 [c0, c1, c2, c3, c4, c5])) = some y3 := hf 3 _ rfl
    have t4 : DataW.trod enc Tryd.prog w base spare held n' 23 (List.take (Tryd.prog.cellsOf 23) (List.drop 4 [c0, c1, c2, c3, c4, c5])) = some y4 := hf 4 _ rfl
    have t5 : DataW.trod enc Tryd.prog w base spare held n' 24 (List.take (Tryd.prog.cellsOf 24) (List.drop 5 [c0, c1, c2, c3, c4, c5])) = some y5 := hf 5 _ rfl
    rw [show Tryd.prog.cellsOf 3 = 1 by kernel_rfl] at t0 t2
    rw [show Tryd.prog.cellsOf 22 = 1 by kernel_rfl] at t1
    rw [show Tryd.prog.cellsOf 9 = 1 by kernel_rfl] at t3
    rw [show Tryd.prog.cellsOf 23 = 1 by kernel_rfl] at t4
    rw [show Tryd.prog.cellsOf 24 = 1 by kernel_rfl] at t5
    obtain ⟨n0, e0, -, -⟩ := DataW.trod_int Tryd.underlying3 t0
    obtain ⟨n1, e1, -, -⟩ := DataW.trod_int Tryd.underlying22 t1
    obtain ⟨n2, e2, -, -⟩ := DataW.trod_int Tryd.underlying3 t2
    obtain ⟨s3, e3, -, w3⟩ := DataW.trod_string Tryd.underlying9 t3
    obtain ⟨a4, l4, cap4, e4, hl4, hC4, hs4⟩ := open_texts t4
    simp only [List.drop_zero, List.drop_succ_cons, List.take_succ_cons, List.take_zero, List.cons.injEq, and_true] at e0 e1 e2 e3 e4
    subst e0 e1 e2 e3 e4
    rcases DataW.trod_slice Tryd.underlying24 t5 with ⟨e5, -⟩ | ⟨a, len, cap, elems, rest, m, hm, e5, -, hb, hl, hc, hel, hi, -⟩
    · simp only [List.drop_succ_cons, List.drop_zero, List.take_succ_cons, List.take_zero, List.cons.injEq, and_true] at e5
      subst e5
      refine ⟨⟨n0, n1, n2, s3, l4, []⟩, k26_mk w ⟨n0, n1, n2, s3, l4, []⟩ hl4 hC4 (Nat.le_refl _) (Kd.C_nil _ _), fun n => ?_⟩
      cases n with
      | zero => trivial
      | succ n => exact ⟨w3, hC4.2.1, hs4, by simp, fun u hu => by cases hu⟩
    · simp only [List.drop_succ_cons, List.drop_zero, List.take_succ_cons, List.take_zero, List.cons.injEq, and_true] at e5
      subst e5
      have hc26 : Tryd.prog.cellsOf 26 = 6 := by kernel_rfl
      have hstep : ∀ i, i < len → ∃ (z : S26) (cs' : List Value), k26.K w z cs' ∧ (∀ n, small n z) ∧ cs'.length = 6 ∧ ∀ q u, cs'[q]? = some u → w.cell? (a.add (i * 6 + q)) = some u := by
        intro i hil
        have h1 := hi i hil
        rw [hc26, List.getElem?_eq_getElem (by omega)] at h1
        obtain ⟨cs', hcs, ht⟩ := Option.bind_eq_some_iff.1 h1
        obtain ⟨z, hz, hsm⟩ := ih m (by omega) cs' _ ht
        obtain ⟨-, hcl, hat⟩ := World.cells?_some hcs
        refine ⟨z, cs', hz, hsm, hcl, fun q u hq => ?_⟩
        have hql := (List.getElem?_eq_some_iff.1 hq).1
        have h2 := hat q (by omega)
        rw [Go.Deep.add_add] at h2
        rw [h2, hq]
      obtain ⟨f, hfz⟩ : ∃ f : Nat → S26, ∀ i, i < len → ∃ cs' : List Value, k26.K w (f i) cs' ∧ (∀ n, small n (f i)) ∧ cs'.length = 6 ∧ ∀ q u, cs'[q]? = some u → w.cell? (a.add (i * 6 + q)) = some u :=
        ⟨fun i => if h : i < len then (hstep i h).choose else z26, fun i h => by
          simp only [dif_pos h]
          exact (hstep i h).choose_spec⟩
      have hml : ((List.range len).map f).length = len := by simp
      have hC5 : Kd.C k26 w (some a) ((List.range len).map f).length ((List.range len).map f) := by
        refine ⟨rfl, by unfold maxLen at hc; rw [hml]; omega, fun _ => ⟨a, rfl, fun j z hj => ?_⟩⟩
        have hjl : j < len := by
          have := (List.getElem?_eq_some_iff.1 hj).1
          simpa using this
        have hz : z = f j := by
          rw [List.getElem?_map, List.getElem?_range hjl] at hj
          exact (Option.some.inj hj).symm
        subst hz
        obtain ⟨cs', hK, -, hcl, hq⟩ := hfz j hjl
        exact ⟨cs', hcl, hK, fun q u hu => hq q u hu⟩
      have hmk := k26_mk w ⟨n0, n1, n2, s3, l4, (List.range len).map f⟩ hl4 hC4 (show ((List.range len).map f).length ≤ cap by rw [hml]; exact hl) hC5
      simp only [hml] at hmk
      refine ⟨⟨n0, n1, n2, s3, l4, (List.range len).map f⟩, hmk, fun n => ?_⟩
      cases n with
      | zero => trivial
      | succ n =>
        refine ⟨w3, hC4.2.1, hs4, hC5.2.1, fun u hu => ?_⟩
        obtain ⟨i, hi2, rfl⟩ := List.mem_map.1 hu
        obtain ⟨_, _, hsm, _⟩ := hfz i (List.mem_range.1 hi2)
        exact hsm n
theorem open_ways {fuel : Nat} {cs : List Value} {x : DataW H × List MemPlace} (h : DataW.trod enc Tryd.prog w base spare held fuel 28 cs = some x) :
    ∃ (a b : Int) (s2 s3 s4 s5 : Bool) (A6 : Option Addr) (more : List ByteArray) (c6 : Nat), cs = [.int .i64 a, .int .i64 b, .bool s2, .bool s3, .bool s4, .bool s5, .slice A6 more.length c6] ∧ more.length ≤ c6 ∧ Kd.C Kd.string w A6 more.length more ∧ ∀ z ∈ more, z.size ≤ 9223372036854775807 := by
  obtain ⟨ys, n', hfu, -, hlen, hyl, hf⟩ := DataW.trod_struct Tryd.underlying28 h
  rw [show Tryd.prog.cellsOf 28 = 7 by kernel_rfl] at hlen
  obtain ⟨c0, c1, c2, c3, c4, c5, c6, rfl⟩ := list7 hlen
  obtain ⟨y0, y1, y2, y3, y4, y5, y6, rfl⟩ := list7 (show ys.length = 7 from hyl)
  have t0 : DataW.trod enc Tryd.prog w base spare held n' 3 (List.take (Tryd.prog.cellsOf 3) (List.drop 0 [c0, c1, c2, c3, c4, c5, c6])) = some y0 := hf 0 _ rfl
  have t1 : DataW.trod enc Tryd.prog w base spare held n' 3 (List.take (Tryd.prog.cellsOf 3) (List.drop 1 [c0, c1, c2, c3, c4, c5, c6])) = some y1 := hf 1 _ rfl
  have t2 : DataW.trod enc Tryd.prog w base spare held n' 4 (List.take (Tryd.prog.cellsOf 4) (List.drop 2 [c0, c1, c2, c3, c4, c5, c6])) = some y2 := hf 2 _ rfl
  have t3 : DataW.trod enc Tryd.prog w base spare held n' 4 (List.take (Tryd.prog.cellsOf 4) (List.drop 3 [c0, c1, c2, c3, c4, c5, c6])) = some y3 := hf 3 _ rfl
  have t4 : DataW.trod enc Tryd.prog w base spare held n' 4 (List.take (Tryd.prog.cellsOf 4) (List.drop 4 [c0, c1, c2, c3, c4, c5, c6])) = some y4 := hf 4 _ rfl
  have t5 : DataW.trod enc Tryd.prog w base spare held n' 4 (List.take (Tryd.prog.cellsOf 4) (List.drop 5 [c0, c1, c2, c3, c4, c5, c6])) = some y5 := hf 5 _ rfl
  have t6 : DataW.trod enc Tryd.prog w base spare held n' 23 (List.take (Tryd.prog.cellsOf 23) (List.drop 6 [c0, c1, c2, c3, c4, c5, c6])) = some y6 := hf 6 _ rfl
  rw [show Tryd.prog.cellsOf 3 = 1 by kernel_rfl] at t0 t1
  rw [show Tryd.prog.cellsOf 4 = 1 by kernel_rfl] at t2 t3 t4 t5
  rw [show Tryd.prog.cellsOf 23 = 1 by kernel_rfl] at t6
  obtain ⟨n0, e0, -, -⟩ := DataW.trod_int Tryd.underlying3 t0
  obtain ⟨n1, e1, -, -⟩ := DataW.trod_int Tryd.underlying3 t1
  obtain ⟨b2, e2, -⟩ := DataW.trod_bool Tryd.underlying4 t2
  obtain ⟨b3, e3, -⟩ := DataW.trod_bool Tryd.underlying4 t3
  obtain ⟨b4, e4, -⟩ := DataW.trod_bool Tryd.underlying4 t4
  obtain ⟨b5, e5, -⟩ := DataW.trod_bool Tryd.underlying4 t5
  obtain ⟨a6, l6, cap6, e6, hl6, hC6, hs6⟩ := open_texts t6
  simp only [List.drop_zero, List.drop_succ_cons, List.take_succ_cons, List.take_zero, List.cons.injEq, and_true] at e0 e1 e2 e3 e4 e5 e6
  subst e0 e1 e2 e3 e4 e5 e6
  exact ⟨n0, n1, b2, b3, b4, b5, a6, l6, cap6, rfl, hl6, hC6, hs6⟩
end
/-! ## IdFor -/
def idsOf (K : List ByteArray) (key : ByteArray) (i : Nat) : List Int := ((List.range i).filter fun j => decide (K[j]? = some key)).map fun j : Nat => (j : Int)
theorem idsOf_succ (K : List ByteArray) (key : ByteArray) (i : Nat) (h : i < K.length) : idsOf K key (i + 1) = if K[i] = key then idsOf K key i ++ [(i : Int)] else idsOf K key i := by
  unfold idsOf
  rw [List.range_succ, List.filter_append, List.map_append]
  by_cases hk : K[i] = key
  · rw [if_pos hk, List.filter_cons_of_pos (by simp [h, hk])]
    rfl
  · rw [if_neg hk, List.filter_cons_of_neg (by simp [h, hk])]
    simp
theorem idsOf_len (K : List ByteArray) (key : ByteArray) (i : Nat) : (idsOf K key i).length ≤ i := by
  unfold idsOf
  rw [List.length_map]
  refine Nat.le_trans (List.length_filter_le _ _) ?_
  rw [List.length_range]
  exact Nat.le_refl i
theorem idsOf_none (K : List ByteArray) (key : ByteArray) : ∀ i, (∀ j (h : j < K.length), j < i → K[j] ≠ key) → i ≤ K.length → idsOf K key i = []
  | 0, _, _ => rfl
  | i + 1, h, hi => by
    rw [idsOf_succ K key i (by omega), if_neg (h i (by omega) (by omega)), idsOf_none K key i (fun j hj hji => h j hj (by omega)) (by omega)]
theorem idsOf_one (K : List ByteArray) (key : ByteArray) (p : Nat) (hp : p < K.length) (hk : K[p] = key) (h : ∀ j (h : j < K.length), j ≠ p → K[j] ≠ key) : ∀ i, p < i → i ≤ K.length → idsOf K key i = [(p : Int)]
  | 0, h0, _ => absurd h0 (by omega)
  | i + 1, h0, hi => by
    rw [idsOf_succ K key i (by omega)]
    by_cases e : i = p
    · subst e
      rw [if_pos hk, idsOf_none K key i (fun j hj hji => h j hj (by omega)) (by omega)]
      rfl
    · rw [if_neg (h i (by omega) e)]
      exact idsOf_one K key p hp hk h i (by omega) (by omega)
theorem compare_zero : ∀ a b : List UInt8, Lib.compareBytes a b = 0 ↔ a = b
  | [], [] => by simp [Lib.compareBytes]
  | [], _ :: _ => by simp [Lib.compareBytes]
  | _ :: _, [] => by simp [Lib.compareBytes]
  | x :: a, y :: b => by
    unfold Lib.compareBytes
    by_cases h1 : x < y
    · rw [if_pos h1]
      constructor
      · intro h; exact absurd h (by decide)
      · intro h
        injection h with h2 _
        subst h2
        exact absurd h1 (UInt8.lt_irrefl x)
    · rw [if_neg h1]
      by_cases h2 : y < x
      · rw [if_pos h2]
        constructor
        · intro h; exact absurd h (by decide)
        · intro h
          injection h with h3 _
          subst h3
          exact absurd h2 (UInt8.lt_irrefl x)
      · rw [if_neg h2, compare_zero a b]
        have e : x = y := UInt8.le_antisymm (UInt8.not_lt.1 h2) (UInt8.not_lt.1 h1)
        subst e
        simp
theorem compare_neg : ∀ a b : List UInt8, Lib.compareBytes a b < 0 ↔ a < b
  | [], [] => by simp [Lib.compareBytes]
  | [], y :: b => by simp [Lib.compareBytes]
  | x :: a, [] => by simp [Lib.compareBytes]
  | x :: a, y :: b => by
    unfold Lib.compareBytes
    rw [List.cons_lt_cons_iff]
    by_cases h1 : x < y
    · rw [if_pos h1]
      exact ⟨fun _ => .inl h1, fun _ => by decide⟩
    · rw [if_neg h1]
      by_cases h2 : y < x
      · rw [if_pos h2]
        constructor
        · intro h; exact absurd h (by decide)
        · rintro (h | ⟨h, _⟩)
          · exact absurd h h1
          · subst h; exact absurd h2 (UInt8.lt_irrefl x)
      · rw [if_neg h2, compare_neg a b]
        have e : x = y := UInt8.le_antisymm (UInt8.not_lt.1 h2) (UInt8.not_lt.1 h1)
        subst e
        simp [UInt8.lt_irrefl]
theorem cm_zero (a b : ByteArray) : cm a b = 0 ↔ a = b := by
  unfold cm
  rw [compare_zero]
  exact ⟨fun h => ByteArray.ext (Array.ext' h), fun h => by rw [h]⟩
theorem cm_neg (a b : ByteArray) : cm a b < 0 ↔ a.data.toList < b.data.toList := compare_neg _ _
theorem sorted_mono {K : List ByteArray} {key : ByteArray} (hs : K.Pairwise fun x y => bl x ≤ bl y) (a b : Nat) (hb : b < K.length) (hab : a ≤ b) (h : cm K[b] key < 0) : cm (K[a]'(by omega)) key < 0 := by
  rcases Nat.eq_or_lt_of_le hab with e | hlt
  · subst e; exact h
  · rw [cm_neg] at h ⊢
    have h1 := List.pairwise_iff_getElem.1 hs a b (by omega) hb hlt
    exact List.lt_of_le_of_lt h1 h
theorem sorted_ids {K : List ByteArray} {key : ByteArray} (hn : K.Nodup) (hs : K.Pairwise fun x y => bl x ≤ bl y) (p : Nat) (f : Bool) (hp : p ≤ K.length) (h1 : ∀ t (h : t < K.length), t < p → cm K[t] key < 0) (h2 : ∀ t (h : t < K.length), p ≤ t → 0 ≤ cm K[t] key) (hf : f = true ↔ ∃ h : p < K.length, cm K[p] key = 0) :
    idsOf K key K.length = if f = true then [(p : Int)] else [] := by
  by_cases hf1 : f = true
  · rw [if_pos hf1]
    obtain ⟨hpl, h0⟩ := hf.1 hf1
    refine idsOf_one K key p hpl ((cm_zero _ _).1 h0) (fun j hj hne he => ?_) _ hpl (Nat.le_refl _)
    have e : K[j] = K[p] := he.trans ((cm_zero _ _).1 h0).symm
    rcases Nat.lt_or_gt_of_ne hne with h | h
    · exact List.pairwise_iff_getElem.1 hn j p hj hpl h e
    · exact List.pairwise_iff_getElem.1 hn p j hpl hj h e.symm
  · rw [if_neg hf1]
    refine idsOf_none K key _ (fun j hj _ he => ?_) (Nat.le_refl _)
    have h0 := (cm_zero K[j] key).2 he
    rcases Nat.lt_or_ge j p with h | h
    · have := h1 j hj h
      omega
    · have hpl : p < K.length := by omega
      have hle : bl K[p] ≤ bl K[j] := by
        rcases Nat.eq_or_lt_of_le h with e | hlt
        · subst e; exact List.le_refl _
        · exact List.pairwise_iff_getElem.1 hs p j hpl hj hlt
      have hge : ¬ K[p].data.toList < key.data.toList := fun hl => by
        have := h2 p hpl (Nat.le_refl _)
        have := (cm_neg K[p] key).2 hl
        omega
      rw [he] at hle
      have e : K[p].data.toList = key.data.toList := List.le_antisymm hle (List.not_lt.1 hge)
      exact hf1 (hf.2 ⟨hpl, (cm_zero _ _).2 (ByteArray.ext (Array.ext' e))⟩)
theorem info71 : (Tryd.prog.info? 71).map (fun i => (i.zero, i.size, i.bytes)) = some (some (.int .u32 0), 1, 4) := by kernel_rfl
set_option maxHeartbeats 8000000 in
set_option maxRecDepth 100000 in
theorem idFor37 (A : Option Addr) (n c : Nat) (D : List Int) (s5 : Bool) (size : Nat) (K : List ByteArray) (hM : MD D s5 size K) (B : Option Addr) (cB : Nat) (key : ByteArray) (hkey : key.size ≤ 2147483647) (hs : s5 = true → K.Nodup ∧ K.Pairwise fun x y => bl x ≤ bl y) (w : World) (hC : (Kd.int .u8).C w A n D) (hK : KeysIn w (.slice B K.length cB) K) :
    Calls Tryd.prog 37 #[.agg #[.slice A n c, .slice B K.length cB], .string key] w fun e w' => ∃ u, e = .returned u ∧ Kd.R (Kd.int .u32) 71 w' w.heap.size (fun _ => True) u (idsOf K key K.length) ∧ Below w.heap.size w w' := by
  have few := hM.few
  have fewI : (K.length : Int) ≤ 49 := by omega
  have R34 := Aside0.mk (fun W (hW : Below w.heap.size w W) => sorted34 A n c D s5 size K hM (.slice B K.length cB) ⟨_, _, _, rfl⟩ W (Kd.C_below hC hW))
  have RK := Aside0.mk (fun W (hW : Below w.heap.size w W) => hK.below hW)
  have HKEY := Aside0.mk hkey
  have HS := Aside0.mk hs
  clear hM hC hK hkey hs
  cases s5 with
  | true =>
    have HS2 := Aside0.mk (HS.out rfl)
    clear HS
    go_enter Tryd.func37, Tryd.ntmps37
    go_upto_region 2 with ((with_reducible refine gate_dst (N := 2) rfl ?_); refine box_event ?hg (N := 2) ?hd (cs := #[.slice A n c, .slice B K.length cB]) (t := 65) ?hr ?_; (case hd => rfl); (case hg => rfl); (case hr => first | (go_simp; done) | (go_simp; rfl)); intro gb hg w3 hbox hb3; have BK := Aside0.mk hbox; have HB := Aside0.mk hb3; have hcv := run_conv key w3; clear hb3 hbox hg)
    obtain ⟨W4, hW4⟩ : ∃ W4, W4 = Lib.bytesWorld w3 5 key := ⟨_, rfl⟩
    obtain ⟨tb, htb⟩ : ∃ tb, tb = w3.heap.size := ⟨_, rfl⟩
    obtain ⟨ct, hct⟩ : ∃ ct, ct = grownCap w3 key.size 0 5 := ⟨_, rfl⟩
    have BK4 := Aside0.mk (show W4.heap[gb]? = some (.cells #[.slice A n c, .slice B K.length cB] 65 (0, 0)) from by rw [hW4]; exact blk_bytes BK.out key)
    have HB4 := Aside0.mk (show Below w.heap.size w W4 from by rw [hW4]; exact below_bytes HB.out key)
    have HT4 := Aside0.mk (show (Kd.int .u8).C W4 (some ⟨tb, 0, none⟩) key.size (bytesOf key) from by rw [hW4, htb]; exact C_conv w3 key (by have := HKEY.out; omega))
    rw [← hW4, ← htb, ← hct]
    clear hW4 htb hct hcv BK HB
    have t0 := (blk_cell BK4.out 0).trans (show (#[.slice A n c, .slice B K.length cB] : Array Value)[0]? = some (.slice A n c) from rfl)
    have t1 := (blk_cell BK4.out 1).trans (show (#[.slice A n c, .slice B K.length cB] : Array Value)[1]? = some (.slice B K.length cB) from rfl)
    go_upto_region 5 with (first | (go_at_call 34; refine Calls.mono (R34.out _ HB4.out) ?_; rintro e w5 ⟨rfl, b⟩; have BK5 := Aside0.mk (blk_below BK4.out b); have HB5 := Aside0.mk (HB4.out.trans (b.mono HB4.out.size)); have HT5 := Aside0.mk (Kd.C_below HT4.out b); have t5 := (blk_cell BK5.out 1).trans (show (#[.slice A n c, .slice B K.length cB] : Array Value)[1]? = some (.slice B K.length cB) from rfl); have HB47 := Aside0.mk (bin47 B cB K few (some ⟨tb, 0, none⟩) ct key w5 (RK.out w5 HB5.out) HT5.out (sorted_mono HS2.out.2)); clear b) | (go_at_call 47; refine Calls.mono HB47.out ?_; rintro e w6 ⟨p, f, rfl, p1, p2, p3, p4, rfl⟩; have pI : (0 : Int) ≤ (p : Int) ∧ (p : Int) ≤ 49 := (by omega); have P4 := Aside0.mk (sorted_ids HS2.out.1 HS2.out.2 p f p1 p2 p3 p4); clear p2 p3 p4))
    cases f with
    | true =>
      have P5 := Aside0.mk (show idsOf K key K.length = [(p : Int)] from by have h := P4.out; rw [if_pos rfl] at h; exact h)
      clear P4
      go_wp2_with ((with_reducible refine gate_builtin (b := .append) (xs := #[.tmp 23, .tmp 26]) rfl ?_); at_builtin; refine Kd.R_append (Kd.int .u32) (w0 := w) w.heap.size rfl (.tmp 23) (.tmp 26) 80 71 (.int .u32 0) 4 rfl Tryd.underlying80 info71 rfl (by decide) (by omega) (.slice none 0 0) [] (p : Int) [.int .u32 (p : Int)] (fun _ => True) (fun _ => False) rfl rfl ?aP (fun _ hk => hk.elim) ?aF ?aO ?aB ?aS ?aL ?_; (case aP => exact rfl); (case aB => exact HB5.out); (case aF => exact (fun _ _ => trivial)); (case aO => exact (Kd.R_nil _ _ _ _ _)); (case aS => exact Below.size HB5.out); (case aL => decide); intro v1 w7 ho hb hg hat; have HR7 := Aside0.mk ho; have HB7 := Aside0.mk hb; clear ho hb hg hat)
      go_ret
      exact ⟨_, rfl, by rw [P5.out]; exact HR7.out, HB7.out⟩
    | false =>
      have P5 := Aside0.mk (show idsOf K key K.length = [] from by have h := P4.out; rw [if_neg (by decide)] at h; exact h)
      clear P4
      go_wp2
      go_ret
      exact ⟨_, rfl, by rw [P5.out]; exact Kd.R_nil _ _ _ _ _, HB5.out⟩
  | false =>
    go_enter Tryd.func37, Tryd.ntmps37
    go_upto_region 2 with ((with_reducible refine gate_dst (N := 2) rfl ?_); refine box_event ?hg (N := 2) ?hd (cs := #[.slice A n c, .slice B K.length cB]) (t := 65) ?hr ?_; (case hd => rfl); (case hg => rfl); (case hr => first | (go_simp; done) | (go_simp; rfl)); intro gb hg w3 hbox hb3; have BK := Aside0.mk hbox; have HB := Aside0.mk hb3; have hcv := run_conv key w3; clear hb3 hbox hg)
    obtain ⟨W4, hW4⟩ : ∃ W4, W4 = Lib.bytesWorld w3 5 key := ⟨_, rfl⟩
    obtain ⟨tb, htb⟩ : ∃ tb, tb = w3.heap.size := ⟨_, rfl⟩
    obtain ⟨ct, hct⟩ : ∃ ct, ct = grownCap w3 key.size 0 5 := ⟨_, rfl⟩
    have BK4 := Aside0.mk (show W4.heap[gb]? = some (.cells #[.slice A n c, .slice B K.length cB] 65 (0, 0)) from by rw [hW4]; exact blk_bytes BK.out key)
    have HB4 := Aside0.mk (show Below w.heap.size w W4 from by rw [hW4]; exact below_bytes HB.out key)
    have HT4 := Aside0.mk (show (Kd.int .u8).C W4 (some ⟨tb, 0, none⟩) key.size (bytesOf key) from by rw [hW4, htb]; exact C_conv w3 key (by have := HKEY.out; omega))
    rw [← hW4, ← htb, ← hct]
    clear hW4 htb hct hcv BK HB
    have t0 := (blk_cell BK4.out 0).trans (show (#[.slice A n c, .slice B K.length cB] : Array Value)[0]? = some (.slice A n c) from rfl)
    have t1 := (blk_cell BK4.out 1).trans (show (#[.slice A n c, .slice B K.length cB] : Array Value)[1]? = some (.slice B K.length cB) from rfl)
    go_wp2_with (go_at_call 34; refine Calls.mono (R34.out _ HB4.out) ?_; rintro e w5 ⟨rfl, b⟩; have BK5 := Aside0.mk (blk_below BK4.out b); have HB5 := Aside0.mk (HB4.out.trans (b.mono HB4.out.size)); have HT5 := Aside0.mk (Kd.C_below HT4.out b); have t5 := (blk_cell BK5.out 1).trans (show (#[.slice A n c, .slice B K.length cB] : Array Value)[1]? = some (.slice B K.length cB) from rfl); clear b)
    go_loopg [6, 32] K.length (fun kq v6 v32 w' => ∃ (i : Nat), v32 = .int .i64 (i : Int) ∧ Aside0 (kq + i = K.length) ∧ Aside0 (Kd.R (Kd.int .u32) 71 w' w.heap.size (fun k => w5.heap.size ≤ k) v6 (idsOf K key i)) ∧ Aside0 (Below w5.heap.size w5 w'))
    case atStart => exact ⟨0, rfl, ⟨by omega⟩, ⟨Kd.R_nil _ _ _ _ _⟩, ⟨Below.refl _ _⟩⟩
    case round =>
      obtain ⟨i, rfl, HJ, HR, HB⟩ := hrel
      obtain ⟨Ao, co, rfl, hco, _⟩ := Kd.R_reads HR.out
      have hil := idsOf_len K key i
      by_cases hi : i < K.length
      · have hiI : (i : Int) < (K.length : Int) := by omega
        obtain ⟨ad, A1, c1, rfl, hx, hC⟩ := (RK.out wr (HB5.out.trans (HB.out.mono HB5.out.size))).at_ i hi
        have EQ := Aside0.mk (equal49 (c := c1) (d := ct) hC (Kd.C_below HT5.out HB.out))
        clear hC
        by_cases hk : K[i] = key
        · rw [decide_eq_true hk] at EQ
          have HS := Aside0.mk (show idsOf K key (i + 1) = idsOf K key i ++ [(i : Int)] from by rw [idsOf_succ K key i hi, if_pos hk])
          clear hk
          go_wp2_with (first | (go_at_call 49; refine Calls.mono EQ.out ?_; rintro e w9 ⟨rfl, rfl⟩) | ((with_reducible refine gate_builtin (b := .append) (xs := #[.tmp 40, .tmp 43]) rfl ?_); at_builtin; refine Kd.R_append (Kd.int .u32) (w0 := w) w.heap.size rfl (.tmp 40) (.tmp 43) 80 71 (.int .u32 0) 4 rfl Tryd.underlying80 info71 rfl (by decide) (by omega) (.slice Ao (idsOf K key i).length co) (idsOf K key i) (i : Int) [.int .u32 (i : Int)] (fun k => w5.heap.size ≤ k) (fun _ => False) rfl rfl ?aP (fun _ hk => hk.elim) ?aF ?aO ?aB ?aS ?aL ?_; (case aP => exact rfl); (case aB => exact (HB5.out.trans (HB.out.mono HB5.out.size))); (case aF => exact (fun k hk => Nat.le_trans HB.out.size hk)); (case aO => exact HR.out); (case aS => exact Below.size (HB5.out.trans (HB.out.mono HB5.out.size))); (case aL => omega); intro v1 w7 ho hb hg hat; have HR7 := Aside0.mk ho; have HB7 := Aside0.mk hb; have HG7 := Aside0.mk (pw_below_grown HB.out (Value.slice Ao (idsOf K key i).length co).ownBlock HB.out.size hg (fun k hk => HR.out.1 k hk)); clear ho hb hg hat))
          go_roundg (gk - 1)
          case measure => have := HJ.out; omega
          case rel => exact ⟨i + 1, by go_num, ⟨by have := HJ.out; omega⟩, ⟨by rw [HS.out]; exact HR7.out⟩, HG7⟩
        · rw [decide_eq_false hk] at EQ
          have HS := Aside0.mk (show idsOf K key (i + 1) = idsOf K key i from by rw [idsOf_succ K key i hi, if_neg hk])
          clear hk
          go_wp2_with (go_at_call 49; refine Calls.mono EQ.out ?_; rintro e w9 ⟨rfl, rfl⟩)
          go_roundg (gk - 1)
          case measure => have := HJ.out; omega
          case rel => exact ⟨i + 1, by go_num, ⟨by have := HJ.out; omega⟩, ⟨by rw [HS.out]; exact HR.out⟩, HB⟩
      · have hiI : ¬ (i : Int) < (K.length : Int) := by omega
        have hiK : i = K.length := by have := HJ.out; omega
        have HRK := Aside0.mk (show Kd.R (Kd.int .u32) 71 wr w.heap.size (fun _ => True) (.slice Ao (idsOf K key K.length).length co) (idsOf K key K.length) from by have h := HR.out; rw [hiK] at h; exact Kd.R_mono h (fun _ _ => trivial))
        go_wp2
        go_ret
        exact ⟨_, rfl, HRK.out, HB5.out.trans (HB.out.mono HB5.out.size)⟩
/-! ## impl.VariantIds -/
theorem idsOf_mem {K : List ByteArray} {key : ByteArray} {i : Nat} {x : Int} (h : x ∈ idsOf K key i) : 0 ≤ x ∧ x < (i : Int) := by
  unfold idsOf at h
  obtain ⟨j, hj, rfl⟩ := List.mem_map.1 h
  have := List.mem_range.1 (List.mem_filter.1 hj).1
  omega
theorem info3 : (Tryd.prog.info? 3).map (fun i => (i.zero, i.size, i.bytes)) = some (some (.int .i64 0), 1, 8) := by kernel_rfl
theorem no_idle36 (a b : Value) (w : World) :
    CallsD Tryd.prog 36 #[a, b] .returning w fun e u' w' => e = .returned (.tuple #[]) ∧ u' = .returning ∧ w' = w := by
  refine callsD_of_wpS Tryd.func36 rfl fun c₀ cs hu => ?_
  apply wpS_seq
  apply wpS_region
  simp [wpOpsS, go_sem, recoverD, hu, Tryd.ntmps36, Exit.thenS]
  refine wpS_cond (t := false) (by simp [Act.eval, Array.replicate]) ?_
  simp only [Bool.false_eq_true, if_false]
  refine wpS_of_wp (wp_skip ?_)
  cases c₀
  simp_all [bodyPostS, results, Tryd.results36]
structure Vars2 (N : Nat) (u : Value) (w : World) : Prop where
  a4 : w.heap[N]? = some (.cells #[u] 41 (0, 0))
  a5 : w.heap[N + 1]? = some (.cells #[.bool false] 4 (0, 0))
theorem Vars2.below {N : Nat} {u : Value} {w W : World} (h : Vars2 N u w) (hb : Below w.heap.size w W) : Vars2 N u W := ⟨blk_below h.a4 hb, blk_below h.a5 hb⟩
theorem Vars2.grown {N : Nat} {u : Value} {w W : World} {row : Option Nat} (h : Vars2 N u w) (hg : w.grownBy W row) (hne : ∀ k, k < N + 1 + 1 → some k ≠ row) : Vars2 N u W :=
  ⟨blk_grown h.a4 hg (hne _ (by omega)), blk_grown h.a5 hg (hne _ (by omega))⟩
theorem Vars2.put {N : Nat} {u : Value} {w : World} (h : Vars2 N u w) (v : Value) : Vars2 N v (w.setCell ⟨N, 0, none⟩ v) :=
  ⟨blk_put h.a4 0 v rfl, blk_far h.a5 (show N + 1 ≠ N by omega) v⟩
def start2 (w : World) : World := (w.alloc (Obj.cells #[Value.slice none 0 0] 41 (0, 0))).alloc (Obj.cells #[Value.bool false] 4 (0, 0))
theorem start2_vars (w : World) : Vars2 w.heap.size (.slice none 0 0) (start2 w) := by
  unfold start2
  exact ⟨blk_alloc (blk_new w _) _, blk_end (by simp)⟩
theorem start2_below (w : World) : Below w.heap.size w (start2 w) := by
  unfold start2
  exact below_alloc (below_alloc (Below.refl _ _) _) _
theorem start2_size (w : World) : (start2 w).heap.size = w.heap.size + 1 + 1 := by
  unfold start2
  simp
set_option maxHeartbeats 16000000 in
set_option maxRecDepth 100000 in
theorem ids12 (A : Option Addr) (n c : Nat) (D : List Int) (s5 : Bool) (size : Nat) (K : List ByteArray) (hM : MD D s5 size K) (key : ByteArray) (hkey : key.size ≤ 2147483647) (hs : s5 = true → K.Nodup ∧ K.Pairwise fun x y => bl x ≤ bl y) (w : World) (hC : (Kd.int .u8).C w A n D) (hc : n ≤ c) :
    Calls Tryd.prog 12 #[.slice A n c, .string key] w fun e w' => ∃ v, e = .returned (.tuple #[v, .bool true]) ∧ Kd.R (Kd.int .i64) 3 w' w.heap.size (fun _ => True) v (idsOf K key K.length) ∧ Below w.heap.size w w' := by
  have hn9 : n ≤ 20000 := by have := hM.big; rw [hC.1] at this; exact this
  have R29 := Aside0.mk (fun W (hW : Below w.heap.size w W) => copied29 A n c D W (Kd.C_below hC hW) hc hn9)
  have HM := Aside0.mk hM
  have HKEY := Aside0.mk hkey
  have HS := Aside0.mk (show Aside0 (s5 = true → K.Nodup ∧ K.Pairwise fun x y => bl x ≤ bl y) from ⟨hs⟩)
  clear hM hC hkey hs
  go_enter_defers Tryd.func12, Tryd.ntmps12
  go_upto_region 2 with fail
  obtain ⟨N, hN⟩ : ∃ N, N = w.heap.size := ⟨_, rfl⟩
  obtain ⟨W1, hW1⟩ : ∃ W1, W1 = start2 w := ⟨_, rfl⟩
  have V1 := Aside0.mk (show Vars2 N (.slice none 0 0) W1 from by rw [hW1, hN]; exact start2_vars w)
  have B1 := Aside0.mk (show Below w.heap.size w W1 from by rw [hW1]; exact start2_below w)
  have Z1 := Aside0.mk (show W1.heap.size = N + 1 + 1 from by rw [hW1, hN]; exact start2_size w)
  unfold start2 at hW1
  rw [← hW1, ← hN]
  have HN := Aside0.mk hN
  clear hW1 hN
  go_upto_region 3 with (first | (go_at_call 29; refine Calls.mono (R29.out _ B1.out) ?_; rintro e w2 ⟨A1, c1, rfl, q1, q2, q3⟩; have HC2 := Aside0.mk q1; have D2 := Aside0.mk q2; have E2 := Aside0.mk (R_in q2); have B2 := Aside0.mk (B1.out.trans (q3.mono B1.out.size)); have V2 := Aside0.mk (V1.out.below q3); have Z2 := Aside0.mk (show N + 1 + 1 ≤ w2.heap.size from by have := q3.size; have := Z1.out; omega); clear q1 q2 q3) | (go_at_call 28; refine Calls.mono (new28 A1 n c1 D s5 size K HM.out _ E2.out HC2.out) ?_; rintro e w3 ⟨v, rfl, q1, q2⟩; obtain ⟨B0, cB, rfl⟩ := q1.form; have HC3 := Aside0.mk HC2.out; have K3 := Aside0.mk q1; have D3 := Aside0.mk (Kd.R_below D2.out q2); have B3 := Aside0.mk (B2.out.trans (q2.mono B2.out.size)); have V3 := Aside0.mk (V2.out.below q2); have Z3 := Aside0.mk (Nat.le_trans Z2.out q2.size); clear q1 q2))
  obtain ⟨mb, hmb⟩ : ∃ mb, mb = w3.heap.size := ⟨_, rfl⟩
  obtain ⟨W4, hW4⟩ : ∃ W4, W4 = w3.alloc (Obj.cells #[Value.slice A1 n c1, Value.slice B0 K.length cB] 65 (0, 0)) := ⟨_, rfl⟩
  have M4 := Aside0.mk (show W4.heap[mb]? = some (.cells #[.slice A1 n c1, .slice B0 K.length cB] 65 (0, 0)) from by rw [hW4, hmb]; exact blk_new w3 _)
  have hb4 : Below w3.heap.size w3 W4 := by rw [hW4]; exact below_alloc (Below.refl _ _) _
  have K4 := Aside0.mk (K3.out.below hb4)
  have D4 := Aside0.mk (Kd.R_below D3.out hb4)
  have V4 := Aside0.mk (V3.out.below hb4)
  have B4 := Aside0.mk (B3.out.trans (hb4.mono B3.out.size))
  have Z4 := Aside0.mk (show N + 1 + 1 ≤ mb from by rw [hmb]; exact Z3.out)
  have Y4 := Aside0.mk (show mb < W4.heap.size from blk_lt M4.out)
  have ZZ := Aside0.mk (show N + 1 + 1 ≤ W1.heap.size from Nat.le_of_eq Z1.out.symm)
  rw [← hW4, ← hmb]
  have few := HM.out.few
  clear hW4 hmb hb4 V1 B1 HC2 D2 E2 B2 V2 K3 D3 B3 V3 Z3 Z1 R29
  have t0 := (blk_cell M4.out 0).trans (show (#[.slice A1 n c1, .slice B0 K.length cB] : Array Value)[0]? = some (.slice A1 n c1) from rfl)
  have t1 := (blk_cell M4.out 1).trans (show (#[.slice A1 n c1, .slice B0 K.length cB] : Array Value)[1]? = some (.slice B0 K.length cB) from rfl)
  have RK : ∀ W, Kept W4 W (fun k => k = N) → Aside0 (KeysIn W (.slice B0 K.length cB) K) ∧ Aside0 ((Kd.int .u8).C W A1 n D) := fun W hW => by
    have h1 := R_in (Kd.R_kept (Kd.R_bound D4.out) hW (fun k hk he => by have := hk.2.1; have := ZZ.out; omega))
    have h2 := (K4.out.kept hW (fun k hk _ he => by have := Z2.out; omega)).reads h1 few
    exact ⟨⟨h2⟩, ⟨h1⟩⟩
  have RK := Aside0.mk RK
  obtain ⟨L, hL⟩ : ∃ L, L = idsOf K key K.length := ⟨_, rfl⟩
  have R37 := Aside0.mk (idFor37 A1 n c1 D s5 size K HM.out B0 cB key HKEY.out HS.out.out W4 (RK.out W4 (Kept.refl _ _)).2.out (RK.out W4 (Kept.refl _ _)).1.out)
  rw [← hL] at R37
  have hLl : L.length ≤ 49 := by rw [hL]; exact Nat.le_trans (idsOf_len _ _ _) few
  have HLM := Aside0.mk (show ∀ x ∈ L, 0 ≤ x ∧ x < 49 from fun x hx => by rw [hL] at hx; have := idsOf_mem hx; omega)
  have HL0 := Aside0.mk hL
  clear hL
  go_upto_region 6 with (go_at_call 37; refine Calls.mono R37.out ?_; rintro e w5 ⟨u0, rfl, q1, q2⟩; obtain ⟨A0, c0, rfl, hc0, q3⟩ := Kd.R_reads q1; have Q5 := Aside0.mk q1; have V5 := Aside0.mk (V4.out.below q2); have B5 := Aside0.mk (B4.out.trans (q2.mono B4.out.size)); have S5 := Aside0.mk q2.size; clear q1 q2 q3)
  have hZ5 : N + 1 + 1 < w5.heap.size := by have := Z4.out; have := Y4.out; have := S5.out; omega
  have hZ4 : N + 1 + 1 < W4.heap.size := by have := Z4.out; have := Y4.out; omega
  have hlI : (L.length : Int) ≤ 49 := by omega
  clear t0 t1 V4 B4 M4 R37 D4 K4 RK
  have P5 := Aside0.mk (Kept.refl w5 (fun k => k = N))
  go_loopg [22] L.length (fun kq v22 w' => ∃ (i : Nat) (u : Value), v22 = .int .i64 (i : Int) ∧ Aside0 (kq + i = L.length) ∧ Aside0 (Kd.R (Kd.int .i64) 3 w' N (fun k => w5.heap.size ≤ k) u (L.take i)) ∧ Aside0 (Vars2 N u w') ∧ Aside0 (Kept w5 w' (fun k => k = N)) ∧ Aside0 (Below w.heap.size w w'))
  case atStart => exact ⟨0, .slice none 0 0, rfl, ⟨by omega⟩, ⟨Kd.R_nil _ _ _ _ _⟩, V5, P5, B5⟩
  case round =>
    clear V5 P5 B5
    obtain ⟨i, u, rfl, HJ, HR, HV, HP, HL⟩ := hrel
    by_cases hi : i < L.length
    · have hiI : (i : Int) < (L.length : Int) := by omega
      have HQ := Aside0.mk (Kd.R_kept (Kd.R_bound Q5.out) HP.out (fun k hk he => by have := hk.2.1; omega))
      obtain ⟨A0', c0', e0, _, hC0⟩ := Kd.R_reads HQ.out
      injection e0 with e1 e2 e3
      subst e1 e3
      obtain ⟨ad, rfl, hx⟩ := Kd.at_int hC0 (i : Int) (by omega) hiI
      rw [Int.toNat_natCast, show rd L (i : Int) = L[i] by unfold rd; rw [Int.toNat_natCast, List.getD_eq_getElem?_getD, List.getElem?_eq_getElem hi]; rfl] at hx
      obtain ⟨x, hxe⟩ : ∃ x, x = L[i] := ⟨_, rfl⟩
      have hx49 : 0 ≤ x ∧ x < 49 := by rw [hxe]; exact HLM.out _ (List.getElem_mem hi)
      rw [← hxe] at hx
      have HS2 := Aside0.mk (show L.take (i + 1) = L.take i ++ [x] from by rw [take_snoc _ _ hi, hxe])
      clear hxe hC0 HQ
      obtain ⟨Au, cu, rfl, hcu, _⟩ := Kd.R_reads HR.out
      have htl : (L.take i).length = i := by rw [List.length_take]; omega
      rw [htl] at HR HV
      have HNR := Aside0.mk (show ∀ k, k < w5.heap.size → some k ≠ (Value.slice Au i cu).ownBlock from fun k hk he => by have := HR.out.1 k he.symm; omega)
      have t5 := (blk_cell HV.out.a4 0).trans (show (#[.slice Au i cu] : Array Value)[0]? = some (.slice Au i cu) from rfl)
      have hW5 : w5.heap.size ≤ wr.heap.size := HP.out.1
      go_wp2_with ((with_reducible refine gate_builtin (b := .append) (xs := #[.tmp 26, .tmp 29]) rfl ?_); at_builtin; refine Kd.R_append (Kd.int .i64) (w0 := w) N rfl (.tmp 26) (.tmp 29) 41 3 (.int .i64 0) 8 rfl Tryd.underlying41 info3 rfl (by decide) (by omega) (.slice Au i cu) (L.take i) x [.int .i64 x] (fun k => w5.heap.size ≤ k) (fun _ => False) rfl rfl ?aP (fun _ hk => hk.elim) ?aF ?aO ?aB ?aS ?aL ?_; (case aP => exact rfl); (case aB => exact (by have h := HL.out; rw [← HN.out] at h; exact h)); (case aF => exact (fun k hk => by omega)); (case aO => exact HR.out); (case aS => omega); (case aL => omega); intro v1 w7 ho hb hg hat; obtain ⟨Av, cv, rfl, _, _⟩ := Kd.R_reads ho; rw [show (L.take i ++ [x]).length = i + 1 by rw [List.length_append, htl]; rfl] at ho; have HR7 := Aside0.mk ho; have HV7 := Aside0.mk (HV.out.grown hg (fun k hk => HNR.out k (by omega))); have HP7 := Aside0.mk (Kept.of_grown hg HP.out (fun k hk => .inr (by have := HNR.out k; by_cases h : k < w5.heap.size; (exact absurd hk.symm (this h)); omega))); have HL7 := Aside0.mk hb; have t7 := (blk_cell HV7.out.a4 0).trans (show (#[.slice Au i cu] : Array Value)[0]? = some (.slice Au i cu) from rfl); have f7 := blk_frozen HV7.out.a4 0; clear ho hb hg hat)
      go_roundg (gk - 1)
      case measure => have := HJ.out; omega
      case rel => exact ⟨i + 1, _, by go_num, ⟨by have := HJ.out; omega⟩, ⟨by rw [HS2.out]; exact Kd.R_set HR7.out HV7.out.a4 (by intro q hq; simp [Kd.int, Kd.scalar] at hq; subst hq; decide) 0 _⟩, ⟨HV7.out.put _⟩, ⟨HP7.out.setCell (.inl rfl) _⟩, ⟨by have h := HL7.out; rw [HN.out] at h; exact h.setCell (p := ⟨N, 0, none⟩) (show w.heap.size ≤ N by have := HN.out; omega) _⟩⟩
    · have hiI : ¬ (i : Int) < (L.length : Int) := by omega
      have hiK : i = L.length := by have := HJ.out; omega
      have HRK := Aside0.mk (show Kd.R (Kd.int .i64) 3 wr N (fun k => w5.heap.size ≤ k) u L from by have h := HR.out; rw [hiK, List.take_length] at h; exact h)
      obtain ⟨Au, cu, rfl, _, _⟩ := Kd.R_reads HRK.out
      have t5 := (blk_cell HV.out.a4 0).trans (show (#[.slice Au L.length cu] : Array Value)[0]? = some (.slice Au L.length cu) from rfl)
      have t6 := (blk_cell HV.out.a5 0).trans (show (#[.bool false] : Array Value)[0]? = some (.bool false) from rfl)
      have f5 := blk_frozen HV.out.a4 0
      have f6 := blk_frozen HV.out.a5 0
      have X5 := Aside0.mk (Kd.R_far (p := ⟨N + 1, 0, none⟩) (Kd.R_far (p := ⟨N, 0, none⟩) HRK.out (fun k hk => by show k ≠ N; omega) (.slice Au L.length cu)) (fun k hk => by show k ≠ N + 1; omega) (.bool true))
      have q4 := blk_far (p := ⟨N + 1, 0, none⟩) (blk_put HV.out.a4 0 (.slice Au L.length cu) rfl) (show N ≠ N + 1 by omega) (.bool true)
      have q5 := blk_put (blk_far (p := ⟨N, 0, none⟩) HV.out.a5 (show N + 1 ≠ N by omega) (.slice Au L.length cu)) 0 (.bool true) rfl
      have q6 := Aside0.mk (Below.setCell (p := ⟨N + 1, 0, none⟩) (Below.setCell (p := ⟨N, 0, none⟩) HL.out (show w.heap.size ≤ N by have := HN.out; omega) (.slice Au L.length cu)) (show w.heap.size ≤ N + 1 by have := HN.out; omega) (.bool true))
      have FV := Aside0.mk (And.intro ((blk_cell q4 0).trans (show _ = some (.slice Au L.length cu) from rfl)) ((blk_cell q5 0).trans (show _ = some (.bool true) from rfl)))
      clear q4 q5
      go_wp2
      generalize (wr.setCell ⟨N, 0, none⟩ (.slice Au L.length cu)).setCell ⟨N + 1, 0, none⟩ (.bool true) = WF at X5 q6 FV ⊢
      refine leaves_cons (f := 36) (args := #[.pointer (some ⟨N, 0, none⟩), .pointer (some ⟨N + 1, 0, none⟩)]) (by simp) (by simp [go_sem]) ?_
      refine (no_idle36 _ _ _).mono ?_
      rintro e u' w'' ⟨rfl, rfl, rfl⟩
      obtain ⟨e4, e5⟩ := FV.out
      simp [Leaves, settle, results, Tryd.results12, go_sem, e4, e5]
      rw [← HL0.out]
      exact ⟨Kd.R_mono (by have h := X5.out; rw [HN.out] at h; exact h) (fun _ _ => trivial), q6.out⟩

end Go.Proofs.YtobhegbhljbjhaaDoor.Vk
