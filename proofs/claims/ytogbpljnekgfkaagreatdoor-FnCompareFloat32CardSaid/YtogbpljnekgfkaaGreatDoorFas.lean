/- float32: a row and a number are compared. -/
import Derived.Test.YtogbpljnekgfkaaGreatDoorCw
import Derived.Test.YtogbpljnekgfkaaGreatDoorFq
namespace Go.Proofs.YtogbpljnekgfkaaGreatDoor.Cm
open Go.RowKit Go.IntWalk Go.Proofs.YtogbpljnekgfkaaGreatDoorW.PrintWords Go.Proofs.YtogbpljnekgfkaaGreatDoorW.PrintLast Go.Proofs.YtogbpljnekgfkaaGreatDoorW.PrintMore
attribute [local go_sem] max2_int min2_int max_two min_two max_three min_three max_four min_four
set_option linter.unusedVariables false
set_option linter.unusedSimpArgs false
set_option maxHeartbeats 64000000 in
set_option maxRecDepth 100000 in
theorem kASF (fo : Nat) (cf : Int → Int → Bool) (hE : Ent fo) (HO0 : OpAS encF fo cf) (gl gr ob cb ml mr cl cr m c fr n : Nat) (X : Array Value) (DL DR D : List Int) (w : World)
    (hl : w.heap[gl]? = some (.cells (rowB DL) 5 (0, 0))) (hr : w.heap[gr]? = some (.cells (rowB DR) 5 (0, 0))) (hd : w.heap[ob]? = some (.cells (rowX X D) 5 (0, 0))) (hcb : w.heap[cb]? = some (.cells #[.func (.func fo) #[] #[]] 147 (0, 0)))
    (hll : ml = DL.length) (hrl : mr = DR.length) (hn : ml = 4 * n) (hz0 : 4 ≤ mr) (hmr : mr ≤ 100000) (hcl : ml ≤ cl) (hcr : mr ≤ cr) (hb : Bytes D) (hm : m = D.length) (hmc : m ≤ c) (hcc : c ≤ 9223372036854775807) (T0 : Tabs w) (hf : fr ≤ 7) (hfn : fr + n ≤ 8 * m) (hn300 : n ≤ 300) (h3 : 3 < ob) (hco : cb ≠ ob) (hBL : Bytes DL) (hBR : Bytes DR) :
    Calls Tryz.prog 92 #[.slice (some ⟨gl, 0, none⟩) ml cl, .slice (some ⟨gr, 0, none⟩) mr cr, .slice (some ⟨ob, 0, none⟩) m c, .int .i64 fr, .pointer (some ⟨cb, 0, none⟩)] w fun e w' => e = .returned (.tuple #[]) ∧ w'.heap[ob]? = some (.cells (rowX X (S D fr (fun i => cf (oneF DL i) (oneF DR 0)) n)) 5 (0, 0)) ∧ Kept w w' (fun k => k = ob) ∧ Below ob w w' := by
  obtain ⟨g, hg⟩ : ∃ g : Nat → Bool, g = fun i => cf (oneF DL i) (oneF DR 0) := ⟨_, rfl⟩
  rw [← hg]
  have HGG := Aside0.mk hg
  clear hg
  have HG1 := Aside0.mk (getDataF gl n cl ml DL w hl hll hn (by omega) hcl hBL)
  have HG2 := Aside0.mk (fun W (h : Below w.heap.size w W) => getAtEF gr mr cr 0 DR W (blk_below hr h) hrl (by omega) hmr hcr hBR)
  obtain ⟨y, hy⟩ : ∃ y, y = oneF DR 0 := ⟨_, rfl⟩
  rw [← hy] at HG2 HGG
  clear hy
  have hE' : ∀ (args : Array Value) (w : World), Sem.run Tryz.prog (callFunc fo args) w = .ok (.enter fo args) w := hE
  clear hE
  have HO := Aside0.mk HO0
  have HD := Aside0.mk hd
  have HC := Aside0.mk hcb
  have HT0 := Aside0.mk T0
  have HB := Aside0.mk hb
  have HM := Aside0.mk hm
  have hos := blk_lt hd
  have hcs := blk_lt hcb
  have h3s := T0.lt.2
  have hnl : ml ≤ 1200 := by omega
  have HN := Aside0.mk hn
  clear hl hr hd hcb hll hrl HO0 T0 hb hm hn hBL hBR
  go_enter Tryz.func92, Tryz.ntmps92
  go_upto_region 5 with (first | (go_at_call_of 89 gl; refine Calls.mono HG1.out ?_; rintro e w1 ⟨bl, rfl, g1, L1, b1⟩; have B1 := Aside0.mk b1; have LL1 := Aside0.mk L1; clear b1 L1) | (go_at_call_of 93 gr; refine Calls.mono (HG2.out _ B1.out) ?_; rintro e w2 ⟨rfl, b2⟩; have B2 := Aside0.mk b2; clear b2))
  obtain ⟨t, ht⟩ : ∃ t, t = w2.heap.size := ⟨_, rfl⟩
  obtain ⟨W3, hW3⟩ : ∃ W3, W3 = w2.alloc (.cells (rowU (List.replicate 32 false)) 181 (0, 0)) := ⟨_, rfl⟩
  have hz : (#[Value.int IntKind.u32 0, Value.int IntKind.u32 0, Value.int IntKind.u32 0, Value.int IntKind.u32 0, Value.int IntKind.u32 0, Value.int IntKind.u32 0, Value.int IntKind.u32 0, Value.int IntKind.u32 0, Value.int IntKind.u32 0, Value.int IntKind.u32 0, Value.int IntKind.u32 0, Value.int IntKind.u32 0, Value.int IntKind.u32 0, Value.int IntKind.u32 0, Value.int IntKind.u32 0, Value.int IntKind.u32 0, Value.int IntKind.u32 0, Value.int IntKind.u32 0, Value.int IntKind.u32 0, Value.int IntKind.u32 0, Value.int IntKind.u32 0, Value.int IntKind.u32 0, Value.int IntKind.u32 0, Value.int IntKind.u32 0, Value.int IntKind.u32 0, Value.int IntKind.u32 0, Value.int IntKind.u32 0, Value.int IntKind.u32 0, Value.int IntKind.u32 0, Value.int IntKind.u32 0, Value.int IntKind.u32 0, Value.int IntKind.u32 0] : Array Value) = rowU (List.replicate 32 false) := rfl
  rw [← ht, hz, ← hW3]
  have hb12 : Below w.heap.size w w2 := B1.out.trans (B2.out.mono B1.out.size)
  have hb2 := blk_below LL1.out B2.out
  have lt1 := blk_lt hb2
  have C := Aside0.mk (show Kn w bl bl ob cb t from ⟨by omega, by omega, by have := hb12.size; omega, by have := hb12.size; omega, by omega, by omega, hco, h3, by have := hb12.size; omega, hos, by have := hb12.size; omega⟩)
  obtain ⟨L, hL⟩ : ∃ L, L = rowF ((List.range n).map (oneF DL)) := ⟨_, rfl⟩
  have K3 := Aside0.mk (show Ki w bl bl ob cb t L L 29 fo 147 X (S D fr g 0) W3 by
    rw [hW3, hL]
    have hB : Below w.heap.size w (w2.alloc (.cells (rowU (List.replicate 32 false)) 181 (0, 0))) := hb12.alloc hb12.size _
    exact ⟨blk_alloc hb2 _, blk_alloc hb2 _, blk_below HD.out hB, blk_below HC.out hB, ⟨_, by simp, blk_at ht⟩, HT0.out.below hB (by omega), ⟨hB.size, fun i hi _ => hB.block i hi⟩, hB.mono (by omega)⟩)
  have HL := Aside0.mk hL
  have hrem : Int.tmod (fr : Int) 8 = (fr : Int) := by rw [Int.tmod_eq_emod_of_nonneg (by omega)]; omega
  have hrw : IntKind.i64.wrap (fr : Int) = fr := by rw [IntKind.wrap_i64]; omega
  clear hz ht hW3 hb12 hb2 lt1 B1 B2 LL1 HG1 HG2 HD HC HT0 hL g1 hos hcs h3s
  go_upto_if 33 with fail
  go_cut [2, 9, 11] from 15 to 73 (fun v2 v9 v11 wx => ∃ q ol NL o M C : Nat, v2 = .slice (some ⟨ob, o, none⟩) M C ∧ v9 = .slice (some ⟨bl, ol, none⟩) NL NL ∧ v11 = .int .i64 NL ∧ Aside0 (q + NL = n ∧ 8 * o = fr + q ∧ o + M = m ∧ M ≤ C ∧ C ≤ 9223372036854775807 ∧ (0 < NL → ol = q)) ∧ Aside0 (Ki w bl bl ob cb t L L 29 fo 147 X (S D fr g q) wx))
  case first =>
    by_cases h0 : fr = 0
    · have h0I : (fr : Int) = 0 := by omega
      go_wp2
      go_meet
      exact ⟨0, 0, n, 0, m, c, rfl, rfl, rfl, ⟨by omega, by omega, by omega, hmc, hcc, fun _ => rfl⟩, K3⟩
    · have h0I : ¬ (fr : Int) = 0 := by omega
      obtain ⟨e, he⟩ : ∃ e : Nat, e = 8 - fr := ⟨_, rfl⟩
      have he8 : IntKind.i64.wrap (8 - (fr : Int)) = e := by rw [IntKind.wrap_i64]; omega
      have HEE := Aside0.mk he
      have he8' : e ≤ 8 := by omega
      clear he
      by_cases hen : e < n
      · have hvn : (e : Int) ≤ (n : Int) := by omega
        have hv32 : (e : Int) ≤ 32 := by omega
        have hvw : IntKind.i64.wrap ((n : Int) - e) = ((n - e : Nat) : Int) := by rw [IntKind.wrap_i64]; omega
        have hvm : e ≤ 8 := by have := HEE.out; omega
        have hve : fr + e ≤ 8 := by have := HEE.out; omega
        have H8 := Aside0.mk (fun cu => Ki.callAS (Y := y) HO.out C.out (show L = (((List.range n).map (oneF DL)).map encF).toArray from HL.out) (K3.out.drewN 1) 0 e 0 e n cu (by omega) (by omega) (fun _ => rfl) (Nat.le_refl _))
        have cc0 : W3.cell? ⟨cb, 0, none⟩ = some (.func (.func fo) #[] #[]) := (cell_of_row' K3.out.c 0).trans rfl
        go_upto_region 8 with fail
        go_still_tail 8, (by kernel_rfl)
        change wpList _ _ _ _ _ W3.drew
        go_upto_region 9 with (refine Calls.mono (H8.out _) ?_; rintro e w4 ⟨rfl, K4', T, hT, ht, hbits, -⟩; have K4 := Aside0.mk K4'; have HT1 := Aside0.mk hT; have HT2 := Aside0.mk ht; have HBT := Aside0.mk hbits; clear K4' hT ht hbits)
        have hVn : ¬ n = e := Nat.ne_of_gt hen
        have K5 := K4
        have HT3 := HT2
        clear K4 HT2
        go_wp2
        go_loopg [57] e (fun kq v57 w' => ∃ i : Nat, v57 = .int .i64 i ∧ Aside0 (kq + i = e) ∧ Aside0 (Ki w bl bl ob cb t L L 29 fo 147 X (S D fr g i) w') ∧ Aside0 (w'.heap[t]? = some (.cells (rowU T) 181 (0, 0))))
        case atStart => exact ⟨0, rfl, ⟨by omega⟩, K5, HT3⟩
        case round =>
          obtain ⟨i, rfl, HJ, K6, HT4⟩ := hrel
          have hi0 : i ≤ e := by have := HJ.out; omega
          by_cases hi : i < e
          · have hiI : (i : Int) < (e : Int) := by omega
            have hi32 : i < 32 := by omega
            have d0 := cell_of_row' HT4.out i
            rw [rowU_get (by rw [HT1.out]; exact hi32)] at d0
            have hsum : IntKind.i64.wrap ((fr : Int) + (i : Int)) = ((fr + i : Nat) : Int) := by rw [IntKind.wrap_i64]; omega
            have HS := Aside0.mk (Ki.set C.out K6.out 0 m c (fr + i) (T.getD i false) (by rw [HBT.out i hi, HGG.out, Nat.zero_add]) (by omega) (by omega) (by rw [Nat.zero_add, HM.out]; exact Nat.le_refl _) (by omega))
            cases hbv : T.getD i false with
            | true =>
              rw [hbv] at d0 HS
              have d1 : wr.cell? ⟨t, i, none⟩ = some (.int .u32 1) := d0
              clear d0 hbv
              go_wp2_with (go_at_call 90; refine Calls.mono HS.out ?_; rintro e w7 ⟨rfl, K7', e7⟩; have K7 := Aside0.mk K7'; have E7 := Aside0.mk e7; clear K7' e7)
              go_roundg (gk - 1)
              case measure => have := HJ.out; omega
              case rel => exact ⟨i + 1, by go_num, ⟨by have := HJ.out; omega⟩, K7, ⟨E7.out.trans HT4.out⟩⟩
            | false =>
              rw [hbv] at d0 HS
              have d1 : wr.cell? ⟨t, i, none⟩ = some (.int .u32 0) := d0
              clear d0 hbv
              go_wp2_with (go_at_call 90; refine Calls.mono HS.out ?_; rintro e w7 ⟨rfl, K7', e7⟩; have K7 := Aside0.mk K7'; have E7 := Aside0.mk e7; clear K7' e7)
              go_roundg (gk - 1)
              case measure => have := HJ.out; omega
              case rel => exact ⟨i + 1, by go_num, ⟨by have := HJ.out; omega⟩, K7, ⟨E7.out.trans HT4.out⟩⟩
          · have hiI : ¬ (i : Int) < (e : Int) := by omega
            have hie : i = e := by omega
            subst hie
            have hnz : ¬ ((n - i : Nat) : Int) = 0 := by omega
            have hc1 : ¬ c = 1 := by have := HEE.out; omega
            have hm1 : (1 : Int) ≤ (m : Int) := by omega
            have hmcI : (m : Int) ≤ (c : Int) := by omega
            go_wp2
            go_meet
            exact ⟨i, i, n - i, 1, m - 1, c - 1, rfl, rfl, rfl, ⟨by omega, by have := HEE.out; omega, by omega, by omega, by omega, fun _ => rfl⟩, K6⟩
      · have hvn : (n : Int) ≤ (n : Int) := by omega
        have hv32 : (n : Int) ≤ 32 := by omega
        have hvw : IntKind.i64.wrap ((n : Int) - n) = ((n - n : Nat) : Int) := by rw [IntKind.wrap_i64]; omega
        have hvm : n ≤ 8 := by have := HEE.out; omega
        have hve : fr + n ≤ 8 := by have := HEE.out; omega
        have H8 := Aside0.mk (fun cu => Ki.callAS (Y := y) HO.out C.out (show L = (((List.range n).map (oneF DL)).map encF).toArray from HL.out) (K3.out.drewN 1) 0 n 0 n n cu (by omega) (by omega) (fun _ => rfl) (Nat.le_refl _))
        have cc0 : W3.cell? ⟨cb, 0, none⟩ = some (.func (.func fo) #[] #[]) := (cell_of_row' K3.out.c 0).trans rfl
        go_upto_region 8 with fail
        go_still_tail 8, (by kernel_rfl)
        change wpList _ _ _ _ _ W3.drew
        go_upto_region 9 with (refine Calls.mono (H8.out _) ?_; rintro e w4 ⟨rfl, K4', T, hT, ht, hbits, -⟩; have K4 := Aside0.mk K4'; have HT1 := Aside0.mk hT; have HT2 := Aside0.mk ht; have HBT := Aside0.mk hbits; clear K4' hT ht hbits)
        have hVn : n = n := rfl
        have K5 := K4
        have HT3 := HT2
        clear K4 HT2
        go_wp2
        go_loopg [57] n (fun kq v57 w' => ∃ i : Nat, v57 = .int .i64 i ∧ Aside0 (kq + i = n) ∧ Aside0 (Ki w bl bl ob cb t L L 29 fo 147 X (S D fr g i) w') ∧ Aside0 (w'.heap[t]? = some (.cells (rowU T) 181 (0, 0))))
        case atStart => exact ⟨0, rfl, ⟨by omega⟩, K5, HT3⟩
        case round =>
          obtain ⟨i, rfl, HJ, K6, HT4⟩ := hrel
          have hi0 : i ≤ n := by have := HJ.out; omega
          by_cases hi : i < n
          · have hiI : (i : Int) < (n : Int) := by omega
            have hi32 : i < 32 := by omega
            have d0 := cell_of_row' HT4.out i
            rw [rowU_get (by rw [HT1.out]; exact hi32)] at d0
            have hsum : IntKind.i64.wrap ((fr : Int) + (i : Int)) = ((fr + i : Nat) : Int) := by rw [IntKind.wrap_i64]; omega
            have HS := Aside0.mk (Ki.set C.out K6.out 0 m c (fr + i) (T.getD i false) (by rw [HBT.out i hi, HGG.out, Nat.zero_add]) (by omega) (by omega) (by rw [Nat.zero_add, HM.out]; exact Nat.le_refl _) (by omega))
            cases hbv : T.getD i false with
            | true =>
              rw [hbv] at d0 HS
              have d1 : wr.cell? ⟨t, i, none⟩ = some (.int .u32 1) := d0
              clear d0 hbv
              go_wp2_with (go_at_call 90; refine Calls.mono HS.out ?_; rintro e w7 ⟨rfl, K7', e7⟩; have K7 := Aside0.mk K7'; have E7 := Aside0.mk e7; clear K7' e7)
              go_roundg (gk - 1)
              case measure => have := HJ.out; omega
              case rel => exact ⟨i + 1, by go_num, ⟨by have := HJ.out; omega⟩, K7, ⟨E7.out.trans HT4.out⟩⟩
            | false =>
              rw [hbv] at d0 HS
              have d1 : wr.cell? ⟨t, i, none⟩ = some (.int .u32 0) := d0
              clear d0 hbv
              go_wp2_with (go_at_call 90; refine Calls.mono HS.out ?_; rintro e w7 ⟨rfl, K7', e7⟩; have K7 := Aside0.mk K7'; have E7 := Aside0.mk e7; clear K7' e7)
              go_roundg (gk - 1)
              case measure => have := HJ.out; omega
              case rel => exact ⟨i + 1, by go_num, ⟨by have := HJ.out; omega⟩, K7, ⟨E7.out.trans HT4.out⟩⟩
          · have hiI : ¬ (i : Int) < (n : Int) := by omega
            have hie : i = n := by omega
            subst hie
            go_wp2
            exact ⟨rfl, .tuple #[], by simp [results, Tryz.results92, go_sem], rfl, K6.out.o, K6.out.k, K6.out.b⟩
  case rest =>
    obtain ⟨q, ol0, NL, o0, M0, C0, rfl, rfl, rfl, HA, K4⟩ := hcut
    obtain ⟨nb, hnb⟩ : ∃ nb : Nat, nb = NL / 32 := ⟨_, rfl⟩
    have hNL : NL ≤ 300 := by have := HA.out.1; omega
    have hnb1 : (NL : Int) / 32 = nb := by omega
    have hnb2 : IntKind.i64.wrap (nb : Int) = nb := by rw [IntKind.wrap_i64]; omega
    have HNB := Aside0.mk hnb
    clear hnb K3
    go_wp2
    go_loopg [2, 9, 19] nb (fun kq v2 v9 v19 w' => ∃ j ol N o M C : Nat, v19 = .int .i64 j ∧ v2 = .slice (some ⟨ob, o, none⟩) M C ∧ v9 = .slice (some ⟨bl, ol, none⟩) N N ∧ Aside0 (kq + j = nb ∧ N + 32 * j = NL ∧ M + o0 + 4 * j = m ∧ M ≤ C ∧ C ≤ 9223372036854775807 ∧ (0 < M → o = o0 + 4 * j) ∧ (0 < N → ol = q + 32 * j)) ∧ Aside0 (Ki w bl bl ob cb t L L 29 fo 147 X (S D fr g (q + 32 * j)) w'))
    case atStart => exact ⟨0, ol0, NL, o0, M0, C0, rfl, rfl, rfl, ⟨by have := HA.out; omega⟩, K4⟩
    case round =>
      clear K4
      obtain ⟨j, ol, N, o, M, C1, rfl, rfl, rfl, HJ, K5⟩ := hrel
      have hj0 : j ≤ nb := by have := HJ.out; omega
      by_cases hj : j < nb
      · have hjI : (j : Int) < (nb : Int) := by omega
        have hN : 32 ≤ N := by have := HJ.out; have := HNB.out; omega
        have hNI : (32 : Int) ≤ (N : Int) := by omega
        have hM4 : 4 ≤ M := by have := HJ.out; have := HNB.out; have := HA.out; omega
        have hM4I : (4 : Int) ≤ (M : Int) := by omega
        have hMC : (M : Int) ≤ (C1 : Int) := by have := HJ.out; omega
        have cc0 : wr.cell? ⟨cb, 0, none⟩ = some (.func (.func fo) #[] #[]) := (cell_of_row' K5.out.c 0).trans rfl
        have H22 := Aside0.mk (fun cu => Ki.callAS (Y := y) HO.out C.out (show L = (((List.range n).map (oneF DL)).map encF).toArray from HL.out) (K5.out.drewN 1) (q + 32 * j) 32 ol 32 N cu (Nat.le_refl _) (by have := HJ.out; have := HA.out; omega) (fun _ => HJ.out.2.2.2.2.2.2 (by omega)) (Nat.le_refl _))
        go_upto_region 22 with fail
        go_still_tail 5, (by kernel_rfl)
        change wpList _ _ _ _ _ wr.drew
        go_upto_region 23 with (refine Calls.mono (H22.out _) ?_; rintro e w4 ⟨rfl, K6', T, hT, ht, -, hbits⟩; have K6 := Aside0.mk K6'; have HT2 := Aside0.mk ht; have HBT := Aside0.mk (hbits rfl); clear K6' hT ht hbits)
        have K7 := K6
        have HT3 := HT2
        clear K6 HT2
        have HTL := Aside0.mk (show T.length = 32 by rw [HBT.out]; simp)
        have H91 := Aside0.mk (fun (ho : 0 < M → o = o0 + 4 * j) => Ki.pack C.out HB.out K7.out o M C1 T (by rw [HBT.out, HGG.out]) (by have := HJ.out; have := HA.out; omega) hM4 (by have := HJ.out; omega) (by have := HJ.out; omega) (by have := HJ.out; have := HA.out; have := HM.out; omega))
        go_upto_region 25 with (first | ((with_reducible refine gate_dst (N := 89) rfl ?_); refine load181 rfl (.tmp 12) rfl t rfl T HTL.out HT3.out ?_) | go_at_call 91; refine Calls.mono (H91.out HJ.out.2.2.2.2.2.1) ?_; rintro e w6 ⟨rfl, K8'⟩; have K8 := Aside0.mk K8'; clear K8')
        have K9 := Aside0.mk (show Ki w bl bl ob cb t L L 29 fo 147 X (S D fr g (q + 32 * (j + 1))) w6 by rw [show q + 32 * (j + 1) = q + 32 * j + 32 by omega]; exact K8.out)
        clear K8
        go_wp2
        all_goals (
          go_roundg (gk - 1)
          case measure => have := HJ.out; omega
          case rel => exact ⟨j + 1, _, _, _, _, _, by go_num, rfl, rfl, ⟨by have := HJ.out; omega⟩, K9⟩)
      · have hjI : ¬ (j : Int) < (nb : Int) := by omega
        have hje : j = nb := by omega
        subst hje
        have hN32 : N < 32 := by have := HJ.out; have := HNB.out; omega
        have hr1 : IntKind.i64.wrap (32 * (j : Int)) = ((32 * j : Nat) : Int) := by rw [IntKind.wrap_i64]; omega
        have hr2 : IntKind.i64.wrap ((NL : Int) - ((32 * j : Nat) : Int)) = (N : Int) := by rw [IntKind.wrap_i64]; have := HJ.out; omega
        have hr3 : IntKind.i64.wrap ((NL : Int) - 32 * (j : Int)) = (N : Int) := by rw [IntKind.wrap_i64]; have := HJ.out; omega
        have hNI : (N : Int) ≤ 32 := by omega
        have cc0 : wr.cell? ⟨cb, 0, none⟩ = some (.func (.func fo) #[] #[]) := (cell_of_row' K5.out.c 0).trans rfl
        have H27 := Aside0.mk (fun cu => Ki.callAS (Y := y) HO.out C.out (show L = (((List.range n).map (oneF DL)).map encF).toArray from HL.out) (K5.out.drewN 1) (q + 32 * j) N ol N N cu (by omega) (by have := HJ.out; have := HA.out; omega) (fun h => HJ.out.2.2.2.2.2.2 h) (Nat.le_refl _))
        go_upto_region 27 with fail
        go_still_tail 5, (by kernel_rfl)
        change wpList _ _ _ _ _ wr.drew
        go_upto_region 28 with (refine Calls.mono (H27.out _) ?_; rintro e w4 ⟨rfl, K6', T, hT, ht, hbits, -⟩; have K6 := Aside0.mk K6'; have HT1 := Aside0.mk hT; have HT2 := Aside0.mk ht; have HBT := Aside0.mk hbits; clear K6' hT ht hbits)
        clear K5 cc0
        go_wp2
        go_loopg [107] N (fun kq v107 w' => ∃ i : Nat, v107 = .int .i64 i ∧ Aside0 (kq + i = N) ∧ Aside0 (Ki w bl bl ob cb t L L 29 fo 147 X (S D fr g (q + 32 * j + i)) w') ∧ Aside0 (w'.heap[t]? = some (.cells (rowU T) 181 (0, 0))))
        case atStart => exact ⟨0, rfl, ⟨by omega⟩, K6, HT2⟩
        case round =>
          clear K6
          obtain ⟨i, rfl, HI, K7a, HT4⟩ := hrel
          have hi0 : i ≤ N := by have := HI.out; omega
          by_cases hi : i < N
          · have hiI : (i : Int) < (N : Int) := by omega
            have hi32 : i < 32 := by omega
            have d0 := cell_of_row' HT4.out i
            rw [rowU_get (by rw [HT1.out]; exact hi32)] at d0
            have hM0 : 0 < M := by have := HJ.out; have := HA.out; omega
            have HS := Aside0.mk (Ki.set C.out K7a.out o M C1 i (T.getD i false) (by rw [HBT.out i hi, HGG.out]) (by have := HJ.out.2.2.2.2.2.1 hM0; have := HA.out; omega) (by have := HJ.out; have := HA.out; omega) (by have := HJ.out; have := HJ.out.2.2.2.2.2.1 hM0; have := HM.out; omega) (by omega))
            clear hM0
            cases hbv : T.getD i false with
            | true =>
              rw [hbv] at d0 HS
              have d1 : wr.cell? ⟨t, i, none⟩ = some (.int .u32 1) := d0
              clear d0 hbv
              go_wp2_with (go_at_call 90; refine Calls.mono HS.out ?_; rintro e w7 ⟨rfl, K7', e7⟩; have K7 := Aside0.mk K7'; have E7 := Aside0.mk e7; clear K7' e7)
              go_roundg (gk - 1)
              case measure => have := HI.out; omega
              case rel => exact ⟨i + 1, by go_num, ⟨by have := HI.out; omega⟩, K7, ⟨E7.out.trans HT4.out⟩⟩
            | false =>
              rw [hbv] at d0 HS
              have d1 : wr.cell? ⟨t, i, none⟩ = some (.int .u32 0) := d0
              clear d0 hbv
              go_wp2_with (go_at_call 90; refine Calls.mono HS.out ?_; rintro e w7 ⟨rfl, K7', e7⟩; have K7 := Aside0.mk K7'; have E7 := Aside0.mk e7; clear K7' e7)
              go_roundg (gk - 1)
              case measure => have := HI.out; omega
              case rel => exact ⟨i + 1, by go_num, ⟨by have := HI.out; omega⟩, K7, ⟨E7.out.trans HT4.out⟩⟩
          · have hiI : ¬ (i : Int) < (N : Int) := by omega
            have hie : i = N := by omega
            subst hie
            have K8 := Aside0.mk (show Ki w bl bl ob cb t L L 29 fo 147 X (S D fr g n) wr by
              rw [show n = q + 32 * j + i by have := HJ.out; have := HA.out; omega]
              exact K7a.out)
            clear K7a
            go_wp2
            go_end0
            exact ⟨rfl, K8.out.o, K8.out.k, K8.out.b⟩

end Go.Proofs.YtogbpljnekgfkaaGreatDoor.Cm
