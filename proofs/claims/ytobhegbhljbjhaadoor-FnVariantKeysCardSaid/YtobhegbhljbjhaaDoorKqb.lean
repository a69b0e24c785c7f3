/- The bytes of a dictionary are known. spec.VariantKeys. -/
import Derived.Test.YtobhegbhljbjhaaDoorKp
import Derived.Test.YtobhegbhljbjhaaDoorKv
namespace Go.Proofs.YtobhegbhljbjhaaDoor.Vk
set_option linter.unusedVariables false
set_option linter.unusedSimpArgs false
open Go.RowKit Go.IntWalk Go.Proofs.YtobhegbhljbjhaaDoorW.PrintWords Go.Proofs.YtobhegbhljbjhaaDoorW.PrintLast Go.Proofs.YtobhegbhljbjhaaDoorW.PrintMore Go.Proofs.YtobhegbhljbjhaaDoor.MVkS
attribute [local go_sem] max2_int min2_int max_two min_two max_three min_three max_four min_four
/-! ## spec.VariantKeys -/
theorem offK_all (K : List ByteArray) : offK K K.length = total K := by unfold offK total; rw [List.take_length]
theorem meta_len (s5 : Bool) (size : Nat) (K : List ByteArray) : (metaB s5 size K).length = 1 + size * (K.length + 2) + total K := by
  unfold metaB
  rw [List.length_cons, List.length_append, List.length_append, low_len, blocks_len (low size) size (low_len size), List.length_cons, offs_len, total_flat, Nat.mul_add, Nat.mul_add]
  omega
theorem meta_head (s5 : Bool) (size : Nat) (K : List ByteArray) (h1 : 1 ≤ size) (h4 : size ≤ 4) : ((metaB s5 size K).drop 0).take 1 = low 1 (hdN s5 size) := by
  have h : hdN s5 size % 256 = hdN s5 size := Nat.mod_eq_of_lt (by unfold hdN; split <;> omega)
  rw [List.drop_zero, metaB, List.take_succ_cons, List.take_zero]
  unfold low
  rw [show List.range 1 = [0] from rfl, List.map_cons, List.map_nil, Nat.pow_zero, Nat.div_one, h]
  rfl
theorem meta_cnt (s5 : Bool) (size : Nat) (K : List ByteArray) : ((metaB s5 size K).drop 1).take size = low size K.length := by
  rw [metaB, List.drop_succ_cons, List.drop_zero, List.take_left' (low_len _ _)]
theorem meta_off (s5 : Bool) (size : Nat) (K : List ByteArray) (j : Nat) (h : j ≤ K.length) : ((metaB s5 size K).drop (1 + size * (1 + j))).take size = low size (offK K j) := by
  have e : metaB s5 size K = head0 s5 size :: ((K.length :: 0 :: offs bytesOf K 0).flatMap (low size) ++ K.flatMap bytesOf) := by
    simp only [metaB, List.flatMap_cons, List.append_assoc, List.cons_append]
  rw [e, Nat.add_comm 1, List.drop_succ_cons, Nat.add_comm 1 j, block_at (low size) size (low_len size) _ _ (j + 1) (by rw [List.length_cons, List.length_cons, offs_len]; omega), List.getElem_cons_succ]
  have h2 := offs_at bytesOf K 0 j h
  rw [total_flat, Nat.zero_add, List.getD_eq_getElem?_getD, List.getElem?_eq_getElem (by rw [List.length_cons, offs_len]; omega)] at h2
  show low size _ = low size (total (K.take j))
  rw [← h2]
  rfl
theorem meta_text (s5 : Bool) (size : Nat) (K : List ByteArray) (i : Nat) (h : i < K.length) : ((metaB s5 size K).drop (1 + size * (K.length + 2) + offK K i)).take K[i].size = bytesOf K[i] := by
  have e : metaB s5 size K = (head0 s5 size :: (low size K.length ++ (0 :: offs bytesOf K 0).flatMap (low size))) ++ K.flatMap bytesOf := by
    unfold metaB
    rw [List.cons_append, List.append_assoc]
  have hl : (head0 s5 size :: (low size K.length ++ (0 :: offs bytesOf K 0).flatMap (low size))).length = 1 + size * (K.length + 2) := by
    rw [List.length_cons, List.length_append, low_len, blocks_len (low size) size (low_len size), List.length_cons, offs_len, Nat.mul_add, Nat.mul_add]
    omega
  rw [e, ← hl, ← List.drop_drop, List.drop_left]
  have ht := text_at bytesOf K i h
  rw [total_flat, bytesOf_length] at ht
  exact ht
theorem MD.of_dict {s5 : Bool} {size : Nat} {K : List ByteArray} (hd : Dict s5 K size) : MD (metaB s5 size K) s5 size K where
  s1 := hd.s1
  s4 := hd.s4
  few := hd.few
  len := by rw [meta_len, offK_all]
  big := by
    have h1 := total_le 200 K hd.short
    have h2 : size * (K.length + 2) ≤ 4 * 51 := Nat.mul_le_mul hd.s4 (by have := hd.few; omega)
    have h3 := hd.few
    rw [meta_len]
    omega
  hd := by
    unfold metaB
    rfl
  cnt := meta_cnt s5 size K
  off := fun j hj => meta_off s5 size K j hj
  text := fun i hi => meta_text s5 size K i hi
  cntB := hd.cnt
  totB := by rw [offK_all]; exact hd.tot
/-! ## spec.VariantKeys -/
theorem MD.head1 {D : List Int} {s5 : Bool} {size : Nat} {K : List ByteArray} (h : MD D s5 size K) : (D.drop 0).take 1 = low 1 (hdN s5 size) := by
  have h1 := h.hd
  have h2 : hdN s5 size % 256 = hdN s5 size := Nat.mod_eq_of_lt (by unfold hdN; have := h.s4; split <;> omega)
  cases D with
  | nil => simp at h1
  | cons x l =>
    simp at h1
    rw [List.drop_zero, List.take_succ_cons, List.take_zero, h1]
    unfold low
    rw [show List.range 1 = [0] from rfl, List.map_cons, List.map_nil, Nat.pow_zero, Nat.div_one, h2]
theorem h10_size {s5 : Bool} {size : Nat} (h1 : 1 ≤ size) (h4 : size ≤ 4) : ((hdN s5 size : Nat) : Int) / 64 + 1 = ((size : Nat) : Int) := by
  unfold hdN
  split <;> omega
theorem h10_and {s5 : Bool} {size : Nat} (h1 : 1 ≤ size) (h4 : size ≤ 4) : Go.bits .and .i64 ((hdN s5 size : Nat) : Int) 15 = 1 :=
  hd_cases h1 h4 (fun x => Go.bits .and .i64 x 15 = 1) (by decide +kernel)
theorem h10_sorted {s5 : Bool} {size : Nat} (h1 : 1 ≤ size) (h4 : size ≤ 4) : (Go.bits .and .i64 (((hdN s5 size : Nat) : Int) / 16) 1 == 1) = s5 := by
  have h : ∀ (a : Bool) (k : Fin 4), (Go.bits .and .i64 (((hdN a (k.val + 1) : Nat) : Int) / 16) 1 == 1) = a := by decide +kernel
  have := h s5 ⟨size - 1, by omega⟩
  rw [show size - 1 + 1 = size by omega] at this
  exact this
set_option maxHeartbeats 8000000 in
set_option maxRecDepth 100000 in
theorem keys10 (A : Option Addr) (n c : Nat) (D : List Int) (s5 : Bool) (size : Nat) (K : List ByteArray) (hM : MD D s5 size K) (w : World) (hC : (Kd.int .u8).C w A n D) (hc : n ≤ c) :
    Calls Tryd.prog 10 #[.slice A n c] w fun e w' => ∃ v, e = .returned (.tuple #[.int .i64 (size : Int), .bool s5, v, .int .i64 (n : Int), .bool true]) ∧ Kd.R Kd.string 9 w' w.heap.size (fun _ => True) v K ∧ Below w.heap.size w w' := by
  have hnl : n = 1 + size * (K.length + 2) + offK K K.length := by rw [← hM.len]; exact hC.1.symm
  have hn9 : n ≤ 20000 := by have := hM.big; rw [hC.1] at this; exact this
  have s1 := hM.s1
  have s4 := hM.s4
  have few := hM.few
  have hmul : size * (K.length + 2) = size * (1 + K.length) + size := by rw [← Nat.mul_succ]; congr 1; omega
  have hm5 : size * (1 + K.length) ≤ 4 * 50 := Nat.mul_le_mul s4 (by omega)
  have NUM := Aside0.mk (fun (g p wd v : Nat) (hl : p + wd ≤ n) (hw : wd ≤ 4) (hD : (D.drop p).take wd = low wd v) (hv : v < 256 ^ wd) (W : World) (hV : Vs g A n c W) (hW : Below w.heap.size w W) => number24 g A n c _ p wd v W hV (Kd.C_below hC hW) hc (by omega) hl hw hD hv)
  have TXT := Aside0.mk (fun (g p m : Nat) (s : ByteArray) (hl : p + m ≤ n) (hD : (D.drop p).take m = bytesOf s) (W : World) (hV : Vs g A n c W) (hW : Below w.heap.size w W) => text26 g A n c _ p m s W hV (Kd.C_below hC hW) hc (by omega) hl hD)
  have HH := Aside0.mk (fun (g : Nat) => NUM.out g 0 1 (hdN s5 size) (by omega) (by omega) hM.head1 (by unfold hdN; split <;> omega))
  have HN := Aside0.mk (fun (g : Nat) => NUM.out g 1 size K.length (by omega) s4 hM.cnt hM.cntB)
  obtain ⟨H, hH⟩ : ∃ H : Int, H = ((hdN s5 size : Nat) : Int) := ⟨_, rfl⟩
  obtain ⟨S, hS⟩ : ∃ S : Int, S = ((size : Nat) : Int) := ⟨_, rfl⟩
  obtain ⟨N, hN⟩ : ∃ N : Int, N = ((K.length : Nat) : Int) := ⟨_, rfl⟩
  rw [← hH] at HH
  have hH0 : 0 ≤ H ∧ H ≤ 255 := by rw [hH]; unfold hdN; split <;> omega
  have hb1 := h10_size (s5 := s5) s1 s4
  have hb2 := h10_and (s5 := s5) s1 s4
  have hb3 := h10_sorted (s5 := s5) s1 s4
  rw [← hH] at hb1 hb2 hb3
  rw [← hS] at hb1
  rw [← hN, ← hS] at HN
  have b1 : 1 ≤ S ∧ S ≤ 4 := by omega
  have b2 : 0 ≤ N ∧ N ≤ 49 := by omega
  obtain ⟨Q, hQ⟩ : ∃ Q : Int, S * (N + 2) = Q := ⟨_, rfl⟩
  have hQn : Q = ((size * (K.length + 2) : Nat) : Int) := by rw [← hQ, hN, hS]; push_cast; rfl
  have b3 : 0 ≤ Q ∧ Q ≤ 204 ∧ 1 + Q ≤ (n : Int) := by omega
  have HM := Aside0.mk hM
  have HNL := Aside0.mk hnl
  have HMU := Aside0.mk hmul
  have HS := Aside0.mk hS
  have HNN := Aside0.mk hN
  have HQN := Aside0.mk hQn
  rw [← hS]
  clear hM hC hnl hmul hm5 hS hN hQn hH
  go_enter Tryd.func10, Tryd.ntmps10
  go_upto_region 2 with ((with_reducible refine gate_dst (N := 17) rfl ?_); refine box_event ?hg (N := 17) ?hd (cs := #[.slice none 0 0, .slice A n c, .bool false]) (t := 59) ?hr ?_; (case hd => rfl); (case hg => rfl); (case hr => first | (go_simp; done) | (go_simp; rfl)); intro gb hg w3 hbox hb; have BK := Aside0.mk (show Vs gb A n c w3 from hbox); have HB := Aside0.mk hb; clear hb hbox hg)
  go_upto_region 3 with (go_at_call 24; refine Calls.mono (HH.out _ _ BK.out HB.out) ?_; rintro r w9 ⟨rfl, ⟨q, rfl⟩⟩)
  have BK4 := Aside0.mk (BK.out.drewN q)
  have HB4 := Aside0.mk (pw_below_drewN HB.out q)
  generalize w3.drewN q = w4 at BK4 HB4 ⊢
  go_upto_region 5 with (go_at_call 24; refine Calls.mono (HN.out _ _ BK4.out HB4.out) ?_; rintro r w9 ⟨rfl, ⟨q2, rfl⟩⟩)
  have BK5 := Aside0.mk (BK4.out.drewN q2)
  have HB5 := Aside0.mk (pw_below_drewN HB4.out q2)
  generalize w4.drewN q2 = w5 at BK5 HB5 ⊢
  have ND := Aside0.mk (need25 gb A n c w5 BK5.out)
  go_upto_region 7 with (go_at_call 25; refine Calls.mono ND.out ?_; rintro r w9 ⟨rfl, ⟨q3, rfl⟩⟩)
  have BK6 := Aside0.mk (BK5.out.drewN q3)
  have HB6 := Aside0.mk (pw_below_drewN HB5.out q3)
  generalize w5.drewN q3 = w6 at BK6 HB6 ⊢
  clear BK HB BK4 HB4 BK5 HB5 ND HH
  have hPSS : S * (1 + 1) = S + S := by omega
  go_wp2
  go_loopg [4, 11, 54] K.length (fun kq v4 v11 v54 w' => ∃ (i : Nat) (O : Int), v11 = .int .i64 O ∧ v54 = .int .i64 (i : Int) ∧ Aside0 (O = ((offK K i : Nat) : Int)) ∧ Aside0 (kq + i = K.length) ∧ Aside0 (Kd.R Kd.string 9 w' w.heap.size (fun _ => True) v4 (K.take i)) ∧ Aside0 (Vs gb A n c w') ∧ Aside0 (Below w.heap.size w w'))
  case atStart => exact ⟨0, 0, rfl, rfl, ⟨rfl⟩, ⟨by omega⟩, ⟨Kd.R_nil _ _ _ _ _⟩, BK6, HB6⟩
  case round =>
    clear BK6 HB6
    obtain ⟨i, O, rfl, rfl, HO, HJ, HR, BK, HB⟩ := hrel
    by_cases hi : i < K.length
    · have hiN : (i : Int) < N := by rw [HNN.out]; omega
      have hls := offK_succ K i hi
      have hll := offK_last K (i + 1)
      have hmi : size * (1 + i) + size = size * (1 + (i + 1)) := by rw [← Nat.mul_succ]; rfl
      have hml : size * (1 + (i + 1)) ≤ size * (1 + K.length) := Nat.mul_le_mul_left _ (by omega)
      have hm6 : size * (1 + K.length) + size = size * (K.length + 2) := HMU.out.symm
      have hm5 : size * (1 + K.length) ≤ 4 * 50 := Nat.mul_le_mul s4 (by omega)
      have hnl := HNL.out
      have NA := Aside0.mk (NUM.out gb (1 + size * (1 + i)) size (offK K i) (by omega) s4 (HM.out.off i (by omega)) (Nat.lt_of_le_of_lt (offK_last K i) HM.out.totB))
      have NB := Aside0.mk (NUM.out gb (1 + size * (1 + (i + 1))) size (offK K (i + 1)) (by omega) s4 (HM.out.off (i + 1) (by omega)) (Nat.lt_of_le_of_lt (offK_last K (i + 1)) HM.out.totB))
      have TX := Aside0.mk (TXT.out gb (1 + size * (K.length + 2) + offK K i) K[i].size K[i] (by omega) (HM.out.text i hi))
      obtain ⟨X1, hX1⟩ : ∃ X : Int, S * (1 + (i : Int)) = X := ⟨_, rfl⟩
      obtain ⟨X2, hX2⟩ : ∃ X : Int, S * (2 + (i : Int)) = X := ⟨_, rfl⟩
      obtain ⟨O2, hO2⟩ : ∃ X : Int, X = ((offK K (i + 1) : Nat) : Int) := ⟨_, rfl⟩
      have hx1 : ((1 + size * (1 + i) : Nat) : Int) = 1 + X1 := by rw [← hX1, HS.out]; push_cast; rfl
      have hx2 : ((1 + size * (1 + (i + 1)) : Nat) : Int) = 1 + X2 := by rw [← hX2, HS.out, show (2 : Int) + (i : Int) = 1 + ((i : Int) + 1) by omega]; push_cast; rfl
      have hpt : ((1 + size * (K.length + 2) + offK K i : Nat) : Int) = 1 + Q + O := by have := HQN.out; have := HO.out; omega
      have hmt : ((K[i].size : Nat) : Int) = O2 - O := by have := HO.out; omega
      rw [hx1, ← HO.out, ← HS.out] at NA
      rw [hx2, ← hO2, ← HS.out] at NB
      rw [hpt, hmt] at TX
      have bx1 : 0 ≤ X1 ∧ X1 ≤ 200 ∧ 0 ≤ X2 ∧ X2 ≤ 204 := by omega
      have bo : 0 ≤ O ∧ O ≤ O2 ∧ O2 ≤ 20000 := by have := HO.out; omega
      obtain ⟨s, hs⟩ : ∃ s, s = K[i] := ⟨_, rfl⟩
      rw [← hs] at TX
      have HSS := Aside0.mk (show K.take (i + 1) = K.take i ++ [s] from by rw [take_snoc _ _ hi, hs])
      have HO2 := Aside0.mk hO2
      obtain ⟨Au, cu, rfl, hcu, _⟩ := Kd.R_reads HR.out
      have htl : (K.take i).length = i := by rw [List.length_take]; omega
      rw [htl] at HR
      clear hls hll hmi hml hm5 hm6 hnl hx1 hx2 hpt hmt hO2 hs
      go_upto_region 13 with (first | (go_at_call 24; with_reducible (refine Calls.mono (NA.out _ BK.out HB.out) ?_); rintro r w9 ⟨rfl, ⟨q4, rfl⟩⟩) | (go_at_call 24; with_reducible (refine Calls.mono (NB.out _ (BK.out.drewN _) (pw_below_drewN HB.out _)) ?_); rintro r w9 ⟨rfl, ⟨q5, rfl⟩⟩))
      have BK7 := Aside0.mk (BK.out.drewN (q4 + q5))
      have HB7 := Aside0.mk (pw_below_drewN HB.out (q4 + q5))
      have HR7 := Aside0.mk (Kd.R_drewN HR.out (q4 + q5))
      generalize wr.drewN (q4 + q5) = w7 at BK7 HB7 HR7 ⊢
      have ND := Aside0.mk (need25 gb A n c w7 BK7.out)
      go_upto_region 14 with (go_at_call 25; refine Calls.mono ND.out ?_; rintro r w9 ⟨rfl, ⟨q6, rfl⟩⟩)
      have BK8 := Aside0.mk (BK7.out.drewN q6)
      have HB8 := Aside0.mk (pw_below_drewN HB7.out q6)
      have HR8 := Aside0.mk (Kd.R_drewN HR7.out q6)
      generalize w7.drewN q6 = w8 at BK8 HB8 HR8 ⊢
      clear BK7 HB7 HR7 ND
      go_wp2_with (first | (go_at_call 26; refine Calls.mono (TX.out _ BK8.out HB8.out) ?_; rintro r w9 ⟨rfl, ⟨q7, rfl⟩⟩) | ((with_reducible refine gate_builtin (b := .append) (xs := #[.tmp 85, .tmp 94]) rfl ?_); at_builtin; refine Kd.R_append Kd.string (w0 := w) w.heap.size rfl (.tmp 85) (.tmp 94) 23 9 (.string ⟨#[]⟩) 16 rfl Tryd.underlying23 info9 rfl (by decide) (by omega) (.slice Au i cu) (K.take i) s [.string s] (fun _ => True) (fun _ => False) rfl rfl ?aP (fun _ hk => hk.elim) ?aF ?aO ?aB ?aS ?aL ?_; (case aP => exact rfl); (case aB => exact pw_below_drewN HB8.out _); (case aF => exact (fun _ _ => trivial)); (case aO => exact Kd.R_drewN HR8.out _); (case aS => exact HB8.out.size); (case aL => omega); intro v1 w15 ho hb hg hat; have HR9 := Aside0.mk ho; have HB9 := Aside0.mk hb; have BK9 := Aside0.mk (blk_grown (blk_drewN BK8.out q7) hg (Kd.R_ne HR8.out BK8.out (by decide))); clear ho hb hg hat))
      go_roundg (gk - 1)
      case measure => have := HJ.out; omega
      case rel => exact ⟨i + 1, O2, rfl, by go_num, HO2, ⟨by have := HJ.out; omega⟩, ⟨by rw [HSS.out]; exact HR9.out⟩, BK9, HB9⟩
    · have hiN : ¬ (i : Int) < N := by rw [HNN.out]; omega
      have hiK : i = K.length := by have := HJ.out; omega
      have hOn : 1 + Q + O = (n : Int) := by have h1 := HO.out; have h2 := HQN.out; have h3 := HNL.out; rw [hiK] at h1; omega
      have HEW := Aside0.mk (show IntKind.i64.wrap (1 + Q + O) = (n : Int) from by rw [hOn]; simp only [IntKind.wrap, IntKind.bits, IntKind.signed]; simp; omega)
      have HRK := Aside0.mk (show Kd.R Kd.string 9 wr w.heap.size (fun _ => True) u4 K from by have h := HR.out; rw [hiK, List.take_length] at h; exact h)
      have ND := Aside0.mk (fun q => need25 gb A n c (wr.drewN q) (BK.out.drewN q))
      by_cases hK0 : 0 < N
      · have hK0' : N > 0 := hK0
        go_upto_region 18 with (go_at_call 25; refine Calls.mono (ND.out 0) ?_; rintro r w9 ⟨rfl, ⟨q6, rfl⟩⟩)
        have BKx := Aside0.mk (BK.out.drewN q6)
        have HBx := Aside0.mk (pw_below_drewN HB.out (q6))
        have HRx := Aside0.mk (Kd.R_drewN HRK.out (q6))
        generalize wr.drewN (q6) = wx at BKx HBx HRx ⊢
        obtain ⟨Au, cu, rfl, _, _⟩ := Kd.R_reads HRx.out
        have cb := (blk_cell BKx.out 2).trans (show (#[.slice none 0 0, .slice A n c, .bool false] : Array Value)[2]? = some (.bool false) from rfl)
        have ew := HEW.out
        go_quiet (fail)
        clear ew
        go_wp2
        simp [bodyPost, results, Tryd.results10, go_sem]
        exact ⟨Kd.R_drewN HRx.out _, pw_below_drewN HBx.out _⟩
      · have hN0 : N = 0 := by omega
        subst hN0
        have hK00 : K.length = 0 := by have := HNN.out; omega
        have NA := Aside0.mk (NUM.out gb (1 + size * (1 + 0)) size (offK K 0) (by have h := HNL.out; rw [hK00] at h; omega) s4 (HM.out.off 0 (by omega)) (Nat.lt_of_le_of_lt (offK_last K 0) HM.out.totB))
        rw [offK_zero, show ((1 + size * (1 + 0) : Nat) : Int) = 1 + S by have := HS.out; omega, ← HS.out] at NA
        go_upto_region 18 with (first | (go_at_call 24; refine Calls.mono (NA.out _ BK.out HB.out) ?_; rintro r w9 ⟨rfl, ⟨q5, rfl⟩⟩) | (go_at_call 25; refine Calls.mono (ND.out _) ?_; rintro r w9 ⟨rfl, ⟨q6, rfl⟩⟩))
        have BKx := Aside0.mk (BK.out.drewN (q5 + q6))
        have HBx := Aside0.mk (pw_below_drewN HB.out (q5 + q6))
        have HRx := Aside0.mk (Kd.R_drewN HRK.out (q5 + q6))
        generalize wr.drewN (q5 + q6) = wx at BKx HBx HRx ⊢
        obtain ⟨Au, cu, rfl, _, _⟩ := Kd.R_reads HRx.out
        have cb := (blk_cell BKx.out 2).trans (show (#[.slice none 0 0, .slice A n c, .bool false] : Array Value)[2]? = some (.bool false) from rfl)
        have ew := HEW.out
        go_quiet (fail)
        clear ew
        go_wp2
        simp [bodyPost, results, Tryd.results10, go_sem]
        exact ⟨Kd.R_drewN HRx.out _, pw_below_drewN HBx.out _⟩

end Go.Proofs.YtobhegbhljbjhaaDoor.Vk
