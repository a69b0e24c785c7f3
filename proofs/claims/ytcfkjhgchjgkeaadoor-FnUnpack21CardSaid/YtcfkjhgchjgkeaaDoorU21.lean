/- What impl.Unpack21 answers for 84 bytes: the 32 numbers that its code shifts out of the words. -/
import Derived.Test.YtcfkjhgchjgkeaaDoorUa
namespace Go.Proofs.YtcfkjhgchjgkeaaDoor.U
open Go.RowKit Go.IntWalk Go.Proofs.YtcfkjhgchjgkeaaDoorW.PrintWords Go.Proofs.YtcfkjhgchjgkeaaDoorW.PrintLast Go.Proofs.YtcfkjhgchjgkeaaDoorW.PrintMore
attribute [local go_sem] max2_int min2_int max_two min_two max_three min_three max_four min_four
set_option linter.unusedVariables false
set_option linter.unusedSimpArgs false
def u21s1 (V : Int) (L : List Int) : List Int := ((L.set 0 (V.tmod 2097152)).set 1 (V / 2097152))
def u21s2 (V : Int) (L : List Int) : List Int := (((L.set 1 (bits .or .u32 (rd L 1) (V.tmod 1024 * 2048 % 4294967296))).set 2 ((V / 1024).tmod 2097152)).set 3 (V / 2147483648))
def u21s3 (V : Int) (L : List Int) : List Int := ((L.set 3 (bits .or .u32 (rd L 3) (V.tmod 1048576 * 2 % 4294967296))).set 4 (V / 1048576))
def u21s4 (V : Int) (L : List Int) : List Int := (((L.set 4 (bits .or .u32 (rd L 4) (V.tmod 512 * 4096 % 4294967296))).set 5 ((V / 512).tmod 2097152)).set 6 (V / 1073741824))
def u21s5 (V : Int) (L : List Int) : List Int := ((L.set 6 (bits .or .u32 (rd L 6) (V.tmod 524288 * 4 % 4294967296))).set 7 (V / 524288))
def u21s6 (V : Int) (L : List Int) : List Int := (((L.set 7 (bits .or .u32 (rd L 7) (V.tmod 256 * 8192 % 4294967296))).set 8 ((V / 256).tmod 2097152)).set 9 (V / 536870912))
def u21s7 (V : Int) (L : List Int) : List Int := ((L.set 9 (bits .or .u32 (rd L 9) (V.tmod 262144 * 8 % 4294967296))).set 10 (V / 262144))
def u21s8 (V : Int) (L : List Int) : List Int := (((L.set 10 (bits .or .u32 (rd L 10) (V.tmod 128 * 16384 % 4294967296))).set 11 ((V / 128).tmod 2097152)).set 12 (V / 268435456))
def u21s9 (V : Int) (L : List Int) : List Int := ((L.set 12 (bits .or .u32 (rd L 12) (V.tmod 131072 * 16 % 4294967296))).set 13 (V / 131072))
def u21s10 (V : Int) (L : List Int) : List Int := (((L.set 13 (bits .or .u32 (rd L 13) (V.tmod 64 * 32768 % 4294967296))).set 14 ((V / 64).tmod 2097152)).set 15 (V / 134217728))
def u21s11 (V : Int) (L : List Int) : List Int := ((L.set 15 (bits .or .u32 (rd L 15) (V.tmod 65536 * 32 % 4294967296))).set 16 (V / 65536))
def u21s12 (V : Int) (L : List Int) : List Int := (((L.set 16 (bits .or .u32 (rd L 16) (V.tmod 32 * 65536 % 4294967296))).set 17 ((V / 32).tmod 2097152)).set 18 (V / 67108864))
def u21s13 (V : Int) (L : List Int) : List Int := ((L.set 18 (bits .or .u32 (rd L 18) (V.tmod 32768 * 64 % 4294967296))).set 19 (V / 32768))
def u21s14 (V : Int) (L : List Int) : List Int := (((L.set 19 (bits .or .u32 (rd L 19) (V.tmod 16 * 131072 % 4294967296))).set 20 ((V / 16).tmod 2097152)).set 21 (V / 33554432))
def u21s15 (V : Int) (L : List Int) : List Int := ((L.set 21 (bits .or .u32 (rd L 21) (V.tmod 16384 * 128 % 4294967296))).set 22 (V / 16384))
def u21s16 (V : Int) (L : List Int) : List Int := (((L.set 22 (bits .or .u32 (rd L 22) (V.tmod 8 * 262144 % 4294967296))).set 23 ((V / 8).tmod 2097152)).set 24 (V / 16777216))
def u21s17 (V : Int) (L : List Int) : List Int := ((L.set 24 (bits .or .u32 (rd L 24) (V.tmod 8192 * 256 % 4294967296))).set 25 (V / 8192))
def u21s18 (V : Int) (L : List Int) : List Int := (((L.set 25 (bits .or .u32 (rd L 25) (V.tmod 4 * 524288 % 4294967296))).set 26 ((V / 4).tmod 2097152)).set 27 (V / 8388608))
def u21s19 (V : Int) (L : List Int) : List Int := ((L.set 27 (bits .or .u32 (rd L 27) (V.tmod 4096 * 512 % 4294967296))).set 28 (V / 4096))
def u21s20 (V : Int) (L : List Int) : List Int := (((L.set 28 (bits .or .u32 (rd L 28) (V.tmod 2 * 1048576 % 4294967296))).set 29 ((V / 2).tmod 2097152)).set 30 (V / 4194304))
def u21s21 (V : Int) (L : List Int) : List Int := ((L.set 30 (bits .or .u32 (rd L 30) (V.tmod 2048 * 1024 % 4294967296))).set 31 (V / 2048))
def un21f (V : Nat → Int) (L : List Int) : List Int := (u21s21 (V 20) (u21s20 (V 19) (u21s19 (V 18) (u21s18 (V 17) (u21s17 (V 16) (u21s16 (V 15) (u21s15 (V 14) (u21s14 (V 13) (u21s13 (V 12) (u21s12 (V 11) (u21s11 (V 10) (u21s10 (V 9) (u21s9 (V 8) (u21s8 (V 7) (u21s7 (V 6) (u21s6 (V 5) (u21s5 (V 4) (u21s4 (V 3) (u21s3 (V 2) (u21s2 (V 1) (u21s1 (V 0) L)))))))))))))))))))))
theorem u21s1_len (V : Int) (L : List Int) : (u21s1 V L).length = L.length := by
  unfold u21s1
  simp only [List.length_set]
theorem u21s2_len (V : Int) (L : List Int) : (u21s2 V L).length = L.length := by
  unfold u21s2
  simp only [List.length_set]
theorem u21s3_len (V : Int) (L : List Int) : (u21s3 V L).length = L.length := by
  unfold u21s3
  simp only [List.length_set]
theorem u21s4_len (V : Int) (L : List Int) : (u21s4 V L).length = L.length := by
  unfold u21s4
  simp only [List.length_set]
theorem u21s5_len (V : Int) (L : List Int) : (u21s5 V L).length = L.length := by
  unfold u21s5
  simp only [List.length_set]
theorem u21s6_len (V : Int) (L : List Int) : (u21s6 V L).length = L.length := by
  unfold u21s6
  simp only [List.length_set]
theorem u21s7_len (V : Int) (L : List Int) : (u21s7 V L).length = L.length := by
  unfold u21s7
  simp only [List.length_set]
theorem u21s8_len (V : Int) (L : List Int) : (u21s8 V L).length = L.length := by
  unfold u21s8
  simp only [List.length_set]
theorem u21s9_len (V : Int) (L : List Int) : (u21s9 V L).length = L.length := by
  unfold u21s9
  simp only [List.length_set]
theorem u21s10_len (V : Int) (L : List Int) : (u21s10 V L).length = L.length := by
  unfold u21s10
  simp only [List.length_set]
theorem u21s11_len (V : Int) (L : List Int) : (u21s11 V L).length = L.length := by
  unfold u21s11
  simp only [List.length_set]
theorem u21s12_len (V : Int) (L : List Int) : (u21s12 V L).length = L.length := by
  unfold u21s12
  simp only [List.length_set]
theorem u21s13_len (V : Int) (L : List Int) : (u21s13 V L).length = L.length := by
  unfold u21s13
  simp only [List.length_set]
theorem u21s14_len (V : Int) (L : List Int) : (u21s14 V L).length = L.length := by
  unfold u21s14
  simp only [List.length_set]
theorem u21s15_len (V : Int) (L : List Int) : (u21s15 V L).length = L.length := by
  unfold u21s15
  simp only [List.length_set]
theorem u21s16_len (V : Int) (L : List Int) : (u21s16 V L).length = L.length := by
  unfold u21s16
  simp only [List.length_set]
theorem u21s17_len (V : Int) (L : List Int) : (u21s17 V L).length = L.length := by
  unfold u21s17
  simp only [List.length_set]
theorem u21s18_len (V : Int) (L : List Int) : (u21s18 V L).length = L.length := by
  unfold u21s18
  simp only [List.length_set]
theorem u21s19_len (V : Int) (L : List Int) : (u21s19 V L).length = L.length := by
  unfold u21s19
  simp only [List.length_set]
theorem u21s20_len (V : Int) (L : List Int) : (u21s20 V L).length = L.length := by
  unfold u21s20
  simp only [List.length_set]
theorem u21s21_len (V : Int) (L : List Int) : (u21s21 V L).length = L.length := by
  unfold u21s21
  simp only [List.length_set]
theorem un21_len (V : Nat → Int) (L : List Int) (h : L.length = 32) : (un21f V L).length = 32 := by
  unfold un21f
  rw [u21s21_len, u21s20_len, u21s19_len, u21s18_len, u21s17_len, u21s16_len, u21s15_len, u21s14_len, u21s13_len, u21s12_len, u21s11_len, u21s10_len, u21s9_len, u21s8_len, u21s7_len, u21s6_len, u21s5_len, u21s4_len, u21s3_len, u21s2_len, u21s1_len, h]

set_option maxHeartbeats 64000000 in
set_option maxRecDepth 100000 in
theorem un21 {g o c0 : Nat} {A0 : Addr} {l : List Int} {B : Nat} (w : World) (L : List Int) (pr : Int) (hc : Cx g o w.heap.size c0 A0 l w B) (hL : L.length = 32) (hl : l.length = 84)
    (hg : w.heap[g]? = some (.cells #[.slice (some A0) l.length c0, .int .i64 0, .int .i64 pr] 43 (0, 0))) (ho : w.heap[o]? = some (.cells (rowU L) 30 (0, 0))) :
    Calls Tryd.prog 37 #[.iface 34 (.pointer (some ⟨g, 0, none⟩)), .slice (some ⟨o, 0, none⟩) 32 32] w fun e w' => e = .returned (.tuple #[]) ∧ ∃ j V L', St g o w.heap.size c0 A0 l w B j V L' w' ∧ L' = un21f (wordOf l) L := by
  have C := Aside0.mk hc
  have hqo : ∀ (W : World) (k : Nat) (v : Value), (W.setCell ⟨o, k, none⟩ v).cell? ⟨w.heap.size, 0, none⟩ = W.cell? ⟨w.heap.size, 0, none⟩ := fun W k v => World.cell?_setCell_other (h := fun h => hc.qo (congrArg Addr.block h).symm) ..
  have S0 := Aside0.mk (show ∀ o', o' = Obj.cells #[.int .u32 0] 30 (0, 0) → St g o w.heap.size c0 A0 l w B 0 0 L (w.alloc o') from fun o' h => by
    subst h
    exact ⟨⟨pr, blk_alloc hg _⟩, blk_new w _, blk_alloc ho _, (Below.refl B w).alloc hc.bw _, Kept.alloc (Kept.refl w _) _⟩)
  replace S0 := Aside0.mk (S0.out _ rfl)
  have N0 := Aside0.mk hL
  have HLEN := Aside0.mk hl
  clear hc hL hl hg ho
  go_enter Tryd.func37, Tryd.ntmps37
  go_wp2_with (first | (go_at_call 40; refine Calls.mono (St.read C.out (St.store C.out (St.store C.out (S1.out))) (by rw [HLEN.out]; decide)) ?_; rintro e w2 ⟨rfl, hs⟩; obtain ⟨L2, V2, hs2, he⟩ := St.name hs; have S2 := Aside0.mk hs2; have E2 := he; clear hs hs2 he; have N2 := Aside0.mk (show L2.length = 32 by rw [E2.out.1]; (try simp only [List.length_set]); exact N1.out); clear qc oc0 of0 oc1 of1; have qc := S2.out.qc; have oc1 := S2.out.oc N2.out 1 (by decide); have of1 := S2.out.of 1; have oc2 := S2.out.oc N2.out 2 (by decide); have of2 := S2.out.of 2; have oc3 := S2.out.oc N2.out 3 (by decide); have of3 := S2.out.of 3; skip) | (go_at_call 40; refine Calls.mono (St.read C.out (S0.out) (by rw [HLEN.out]; decide)) ?_; rintro e w1 ⟨rfl, hs⟩; obtain ⟨L1, V1, hs2, he⟩ := St.name hs; have S1 := Aside0.mk hs2; have E1 := he; clear hs hs2 he; have N1 := Aside0.mk (show L1.length = 32 by rw [E1.out.1]; (try simp only [List.length_set]); exact N0.out); have qc := S1.out.qc; have oc0 := S1.out.oc N1.out 0 (by decide); have of0 := S1.out.of 0; have oc1 := S1.out.oc N1.out 1 (by decide); have of1 := S1.out.of 1; skip))
  go_still_tail 8, (by kernel_rfl)
  change wpList _ _ _ _ _ w2.drew
  have D2 := Aside0.mk (St.drew S2.out)
  clear S2 qc oc1 of1 oc2 of2 oc3 of3
  generalize w2.drew = x2 at D2 ⊢
  have qc := D2.out.qc
  have oc1 := D2.out.oc N2.out 1 (by decide)
  have of1 := D2.out.of 1
  have oc2 := D2.out.oc N2.out 2 (by decide)
  have of2 := D2.out.of 2
  have oc3 := D2.out.oc N2.out 3 (by decide)
  have of3 := D2.out.of 3
  go_wp2_with (first | (go_at_call 40; refine Calls.mono (St.read C.out (St.store C.out (St.store C.out (St.store C.out (D2.out)))) (by rw [HLEN.out]; decide)) ?_; rintro e w3 ⟨rfl, hs⟩; obtain ⟨L3, V3, hs2, he⟩ := St.name hs; have S3 := Aside0.mk hs2; have E3 := he; clear hs hs2 he; have N3 := Aside0.mk (show L3.length = 32 by rw [E3.out.1]; (try simp only [List.length_set]); exact N2.out); clear qc oc1 of1 oc2 of2 oc3 of3; have qc := S3.out.qc; have oc3 := S3.out.oc N3.out 3 (by decide); have of3 := S3.out.of 3; have oc4 := S3.out.oc N3.out 4 (by decide); have of4 := S3.out.of 4; skip))
  go_still_tail 8, (by kernel_rfl)
  change wpList _ _ _ _ _ w3.drew
  have D3 := Aside0.mk (St.drew S3.out)
  clear S3 qc oc3 of3 oc4 of4
  generalize w3.drew = x3 at D3 ⊢
  have qc := D3.out.qc
  have oc3 := D3.out.oc N3.out 3 (by decide)
  have of3 := D3.out.of 3
  have oc4 := D3.out.oc N3.out 4 (by decide)
  have of4 := D3.out.of 4
  go_wp2_with (first | (go_at_call 40; refine Calls.mono (St.read C.out (St.store C.out (St.store C.out (D3.out))) (by rw [HLEN.out]; decide)) ?_; rintro e w4 ⟨rfl, hs⟩; obtain ⟨L4, V4, hs2, he⟩ := St.name hs; have S4 := Aside0.mk hs2; have E4 := he; clear hs hs2 he; have N4 := Aside0.mk (show L4.length = 32 by rw [E4.out.1]; (try simp only [List.length_set]); exact N3.out); clear qc oc3 of3 oc4 of4; have qc := S4.out.qc; have oc4 := S4.out.oc N4.out 4 (by decide); have of4 := S4.out.of 4; have oc5 := S4.out.oc N4.out 5 (by decide); have of5 := S4.out.of 5; have oc6 := S4.out.oc N4.out 6 (by decide); have of6 := S4.out.of 6; skip))
  go_still_tail 8, (by kernel_rfl)
  change wpList _ _ _ _ _ w4.drew
  have D4 := Aside0.mk (St.drew S4.out)
  clear S4 qc oc4 of4 oc5 of5 oc6 of6
  generalize w4.drew = x4 at D4 ⊢
  have qc := D4.out.qc
  have oc4 := D4.out.oc N4.out 4 (by decide)
  have of4 := D4.out.of 4
  have oc5 := D4.out.oc N4.out 5 (by decide)
  have of5 := D4.out.of 5
  have oc6 := D4.out.oc N4.out 6 (by decide)
  have of6 := D4.out.of 6
  go_wp2_with (first | (go_at_call 40; refine Calls.mono (St.read C.out (St.store C.out (St.store C.out (St.store C.out (D4.out)))) (by rw [HLEN.out]; decide)) ?_; rintro e w5 ⟨rfl, hs⟩; obtain ⟨L5, V5, hs2, he⟩ := St.name hs; have S5 := Aside0.mk hs2; have E5 := he; clear hs hs2 he; have N5 := Aside0.mk (show L5.length = 32 by rw [E5.out.1]; (try simp only [List.length_set]); exact N4.out); clear qc oc4 of4 oc5 of5 oc6 of6; have qc := S5.out.qc; have oc6 := S5.out.oc N5.out 6 (by decide); have of6 := S5.out.of 6; have oc7 := S5.out.oc N5.out 7 (by decide); have of7 := S5.out.of 7; skip))
  go_still_tail 8, (by kernel_rfl)
  change wpList _ _ _ _ _ w5.drew
  have D5 := Aside0.mk (St.drew S5.out)
  clear S5 qc oc6 of6 oc7 of7
  generalize w5.drew = x5 at D5 ⊢
  have qc := D5.out.qc
  have oc6 := D5.out.oc N5.out 6 (by decide)
  have of6 := D5.out.of 6
  have oc7 := D5.out.oc N5.out 7 (by decide)
  have of7 := D5.out.of 7
  go_wp2_with (first | (go_at_call 40; refine Calls.mono (St.read C.out (St.store C.out (St.store C.out (D5.out))) (by rw [HLEN.out]; decide)) ?_; rintro e w6 ⟨rfl, hs⟩; obtain ⟨L6, V6, hs2, he⟩ := St.name hs; have S6 := Aside0.mk hs2; have E6 := he; clear hs hs2 he; have N6 := Aside0.mk (show L6.length = 32 by rw [E6.out.1]; (try simp only [List.length_set]); exact N5.out); clear qc oc6 of6 oc7 of7; have qc := S6.out.qc; have oc7 := S6.out.oc N6.out 7 (by decide); have of7 := S6.out.of 7; have oc8 := S6.out.oc N6.out 8 (by decide); have of8 := S6.out.of 8; have oc9 := S6.out.oc N6.out 9 (by decide); have of9 := S6.out.of 9; skip))
  go_still_tail 8, (by kernel_rfl)
  change wpList _ _ _ _ _ w6.drew
  have D6 := Aside0.mk (St.drew S6.out)
  clear S6 qc oc7 of7 oc8 of8 oc9 of9
  generalize w6.drew = x6 at D6 ⊢
  have qc := D6.out.qc
  have oc7 := D6.out.oc N6.out 7 (by decide)
  have of7 := D6.out.of 7
  have oc8 := D6.out.oc N6.out 8 (by decide)
  have of8 := D6.out.of 8
  have oc9 := D6.out.oc N6.out 9 (by decide)
  have of9 := D6.out.of 9
  go_wp2_with (first | (go_at_call 40; refine Calls.mono (St.read C.out (St.store C.out (St.store C.out (St.store C.out (D6.out)))) (by rw [HLEN.out]; decide)) ?_; rintro e w7 ⟨rfl, hs⟩; obtain ⟨L7, V7, hs2, he⟩ := St.name hs; have S7 := Aside0.mk hs2; have E7 := he; clear hs hs2 he; have N7 := Aside0.mk (show L7.length = 32 by rw [E7.out.1]; (try simp only [List.length_set]); exact N6.out); clear qc oc7 of7 oc8 of8 oc9 of9; have qc := S7.out.qc; have oc9 := S7.out.oc N7.out 9 (by decide); have of9 := S7.out.of 9; have oc10 := S7.out.oc N7.out 10 (by decide); have of10 := S7.out.of 10; skip))
  go_still_tail 8, (by kernel_rfl)
  change wpList _ _ _ _ _ w7.drew
  have D7 := Aside0.mk (St.drew S7.out)
  clear S7 qc oc9 of9 oc10 of10
  generalize w7.drew = x7 at D7 ⊢
  have qc := D7.out.qc
  have oc9 := D7.out.oc N7.out 9 (by decide)
  have of9 := D7.out.of 9
  have oc10 := D7.out.oc N7.out 10 (by decide)
  have of10 := D7.out.of 10
  go_wp2_with (first | (go_at_call 40; refine Calls.mono (St.read C.out (St.store C.out (St.store C.out (D7.out))) (by rw [HLEN.out]; decide)) ?_; rintro e w8 ⟨rfl, hs⟩; obtain ⟨L8, V8, hs2, he⟩ := St.name hs; have S8 := Aside0.mk hs2; have E8 := he; clear hs hs2 he; have N8 := Aside0.mk (show L8.length = 32 by rw [E8.out.1]; (try simp only [List.length_set]); exact N7.out); clear qc oc9 of9 oc10 of10; have qc := S8.out.qc; have oc10 := S8.out.oc N8.out 10 (by decide); have of10 := S8.out.of 10; have oc11 := S8.out.oc N8.out 11 (by decide); have of11 := S8.out.of 11; have oc12 := S8.out.oc N8.out 12 (by decide); have of12 := S8.out.of 12; skip))
  go_still_tail 8, (by kernel_rfl)
  change wpList _ _ _ _ _ w8.drew
  have D8 := Aside0.mk (St.drew S8.out)
  clear S8 qc oc10 of10 oc11 of11 oc12 of12
  generalize w8.drew = x8 at D8 ⊢
  have qc := D8.out.qc
  have oc10 := D8.out.oc N8.out 10 (by decide)
  have of10 := D8.out.of 10
  have oc11 := D8.out.oc N8.out 11 (by decide)
  have of11 := D8.out.of 11
  have oc12 := D8.out.oc N8.out 12 (by decide)
  have of12 := D8.out.of 12
  go_wp2_with (first | (go_at_call 40; refine Calls.mono (St.read C.out (St.store C.out (St.store C.out (St.store C.out (D8.out)))) (by rw [HLEN.out]; decide)) ?_; rintro e w9 ⟨rfl, hs⟩; obtain ⟨L9, V9, hs2, he⟩ := St.name hs; have S9 := Aside0.mk hs2; have E9 := he; clear hs hs2 he; have N9 := Aside0.mk (show L9.length = 32 by rw [E9.out.1]; (try simp only [List.length_set]); exact N8.out); clear qc oc10 of10 oc11 of11 oc12 of12; have qc := S9.out.qc; have oc12 := S9.out.oc N9.out 12 (by decide); have of12 := S9.out.of 12; have oc13 := S9.out.oc N9.out 13 (by decide); have of13 := S9.out.of 13; skip))
  go_still_tail 8, (by kernel_rfl)
  change wpList _ _ _ _ _ w9.drew
  have D9 := Aside0.mk (St.drew S9.out)
  clear S9 qc oc12 of12 oc13 of13
  generalize w9.drew = x9 at D9 ⊢
  have qc := D9.out.qc
  have oc12 := D9.out.oc N9.out 12 (by decide)
  have of12 := D9.out.of 12
  have oc13 := D9.out.oc N9.out 13 (by decide)
  have of13 := D9.out.of 13
  go_wp2_with (first | (go_at_call 40; refine Calls.mono (St.read C.out (St.store C.out (St.store C.out (D9.out))) (by rw [HLEN.out]; decide)) ?_; rintro e w10 ⟨rfl, hs⟩; obtain ⟨L10, V10, hs2, he⟩ := St.name hs; have S10 := Aside0.mk hs2; have E10 := he; clear hs hs2 he; have N10 := Aside0.mk (show L10.length = 32 by rw [E10.out.1]; (try simp only [List.length_set]); exact N9.out); clear qc oc12 of12 oc13 of13; have qc := S10.out.qc; have oc13 := S10.out.oc N10.out 13 (by decide); have of13 := S10.out.of 13; have oc14 := S10.out.oc N10.out 14 (by decide); have of14 := S10.out.of 14; have oc15 := S10.out.oc N10.out 15 (by decide); have of15 := S10.out.of 15; skip))
  go_still_tail 8, (by kernel_rfl)
  change wpList _ _ _ _ _ w10.drew
  have D10 := Aside0.mk (St.drew S10.out)
  clear S10 qc oc13 of13 oc14 of14 oc15 of15
  generalize w10.drew = x10 at D10 ⊢
  have qc := D10.out.qc
  have oc13 := D10.out.oc N10.out 13 (by decide)
  have of13 := D10.out.of 13
  have oc14 := D10.out.oc N10.out 14 (by decide)
  have of14 := D10.out.of 14
  have oc15 := D10.out.oc N10.out 15 (by decide)
  have of15 := D10.out.of 15
  go_wp2_with (first | (go_at_call 40; refine Calls.mono (St.read C.out (St.store C.out (St.store C.out (St.store C.out (D10.out)))) (by rw [HLEN.out]; decide)) ?_; rintro e w11 ⟨rfl, hs⟩; obtain ⟨L11, V11, hs2, he⟩ := St.name hs; have S11 := Aside0.mk hs2; have E11 := he; clear hs hs2 he; have N11 := Aside0.mk (show L11.length = 32 by rw [E11.out.1]; (try simp only [List.length_set]); exact N10.out); clear qc oc13 of13 oc14 of14 oc15 of15; have qc := S11.out.qc; have oc15 := S11.out.oc N11.out 15 (by decide); have of15 := S11.out.of 15; have oc16 := S11.out.oc N11.out 16 (by decide); have of16 := S11.out.of 16; skip))
  go_still_tail 8, (by kernel_rfl)
  change wpList _ _ _ _ _ w11.drew
  have D11 := Aside0.mk (St.drew S11.out)
  clear S11 qc oc15 of15 oc16 of16
  generalize w11.drew = x11 at D11 ⊢
  have qc := D11.out.qc
  have oc15 := D11.out.oc N11.out 15 (by decide)
  have of15 := D11.out.of 15
  have oc16 := D11.out.oc N11.out 16 (by decide)
  have of16 := D11.out.of 16
  go_wp2_with (first | (go_at_call 40; refine Calls.mono (St.read C.out (St.store C.out (St.store C.out (D11.out))) (by rw [HLEN.out]; decide)) ?_; rintro e w12 ⟨rfl, hs⟩; obtain ⟨L12, V12, hs2, he⟩ := St.name hs; have S12 := Aside0.mk hs2; have E12 := he; clear hs hs2 he; have N12 := Aside0.mk (show L12.length = 32 by rw [E12.out.1]; (try simp only [List.length_set]); exact N11.out); clear qc oc15 of15 oc16 of16; have qc := S12.out.qc; have oc16 := S12.out.oc N12.out 16 (by decide); have of16 := S12.out.of 16; have oc17 := S12.out.oc N12.out 17 (by decide); have of17 := S12.out.of 17; have oc18 := S12.out.oc N12.out 18 (by decide); have of18 := S12.out.of 18; skip))
  go_still_tail 8, (by kernel_rfl)
  change wpList _ _ _ _ _ w12.drew
  have D12 := Aside0.mk (St.drew S12.out)
  clear S12 qc oc16 of16 oc17 of17 oc18 of18
  generalize w12.drew = x12 at D12 ⊢
  have qc := D12.out.qc
  have oc16 := D12.out.oc N12.out 16 (by decide)
  have of16 := D12.out.of 16
  have oc17 := D12.out.oc N12.out 17 (by decide)
  have of17 := D12.out.of 17
  have oc18 := D12.out.oc N12.out 18 (by decide)
  have of18 := D12.out.of 18
  go_wp2_with (first | (go_at_call 40; refine Calls.mono (St.read C.out (St.store C.out (St.store C.out (St.store C.out (D12.out)))) (by rw [HLEN.out]; decide)) ?_; rintro e w13 ⟨rfl, hs⟩; obtain ⟨L13, V13, hs2, he⟩ := St.name hs; have S13 := Aside0.mk hs2; have E13 := he; clear hs hs2 he; have N13 := Aside0.mk (show L13.length = 32 by rw [E13.out.1]; (try simp only [List.length_set]); exact N12.out); clear qc oc16 of16 oc17 of17 oc18 of18; have qc := S13.out.qc; have oc18 := S13.out.oc N13.out 18 (by decide); have of18 := S13.out.of 18; have oc19 := S13.out.oc N13.out 19 (by decide); have of19 := S13.out.of 19; skip))
  go_still_tail 8, (by kernel_rfl)
  change wpList _ _ _ _ _ w13.drew
  have D13 := Aside0.mk (St.drew S13.out)
  clear S13 qc oc18 of18 oc19 of19
  generalize w13.drew = x13 at D13 ⊢
  have qc := D13.out.qc
  have oc18 := D13.out.oc N13.out 18 (by decide)
  have of18 := D13.out.of 18
  have oc19 := D13.out.oc N13.out 19 (by decide)
  have of19 := D13.out.of 19
  go_wp2_with (first | (go_at_call 40; refine Calls.mono (St.read C.out (St.store C.out (St.store C.out (D13.out))) (by rw [HLEN.out]; decide)) ?_; rintro e w14 ⟨rfl, hs⟩; obtain ⟨L14, V14, hs2, he⟩ := St.name hs; have S14 := Aside0.mk hs2; have E14 := he; clear hs hs2 he; have N14 := Aside0.mk (show L14.length = 32 by rw [E14.out.1]; (try simp only [List.length_set]); exact N13.out); clear qc oc18 of18 oc19 of19; have qc := S14.out.qc; have oc19 := S14.out.oc N14.out 19 (by decide); have of19 := S14.out.of 19; have oc20 := S14.out.oc N14.out 20 (by decide); have of20 := S14.out.of 20; have oc21 := S14.out.oc N14.out 21 (by decide); have of21 := S14.out.of 21; skip))
  go_still_tail 8, (by kernel_rfl)
  change wpList _ _ _ _ _ w14.drew
  have D14 := Aside0.mk (St.drew S14.out)
  clear S14 qc oc19 of19 oc20 of20 oc21 of21
  generalize w14.drew = x14 at D14 ⊢
  have qc := D14.out.qc
  have oc19 := D14.out.oc N14.out 19 (by decide)
  have of19 := D14.out.of 19
  have oc20 := D14.out.oc N14.out 20 (by decide)
  have of20 := D14.out.of 20
  have oc21 := D14.out.oc N14.out 21 (by decide)
  have of21 := D14.out.of 21
  go_wp2_with (first | (go_at_call 40; refine Calls.mono (St.read C.out (St.store C.out (St.store C.out (St.store C.out (D14.out)))) (by rw [HLEN.out]; decide)) ?_; rintro e w15 ⟨rfl, hs⟩; obtain ⟨L15, V15, hs2, he⟩ := St.name hs; have S15 := Aside0.mk hs2; have E15 := he; clear hs hs2 he; have N15 := Aside0.mk (show L15.length = 32 by rw [E15.out.1]; (try simp only [List.length_set]); exact N14.out); clear qc oc19 of19 oc20 of20 oc21 of21; have qc := S15.out.qc; have oc21 := S15.out.oc N15.out 21 (by decide); have of21 := S15.out.of 21; have oc22 := S15.out.oc N15.out 22 (by decide); have of22 := S15.out.of 22; skip))
  go_still_tail 8, (by kernel_rfl)
  change wpList _ _ _ _ _ w15.drew
  have D15 := Aside0.mk (St.drew S15.out)
  clear S15 qc oc21 of21 oc22 of22
  generalize w15.drew = x15 at D15 ⊢
  have qc := D15.out.qc
  have oc21 := D15.out.oc N15.out 21 (by decide)
  have of21 := D15.out.of 21
  have oc22 := D15.out.oc N15.out 22 (by decide)
  have of22 := D15.out.of 22
  go_wp2_with (first | (go_at_call 40; refine Calls.mono (St.read C.out (St.store C.out (St.store C.out (D15.out))) (by rw [HLEN.out]; decide)) ?_; rintro e w16 ⟨rfl, hs⟩; obtain ⟨L16, V16, hs2, he⟩ := St.name hs; have S16 := Aside0.mk hs2; have E16 := he; clear hs hs2 he; have N16 := Aside0.mk (show L16.length = 32 by rw [E16.out.1]; (try simp only [List.length_set]); exact N15.out); clear qc oc21 of21 oc22 of22; have qc := S16.out.qc; have oc22 := S16.out.oc N16.out 22 (by decide); have of22 := S16.out.of 22; have oc23 := S16.out.oc N16.out 23 (by decide); have of23 := S16.out.of 23; have oc24 := S16.out.oc N16.out 24 (by decide); have of24 := S16.out.of 24; skip))
  go_still_tail 8, (by kernel_rfl)
  change wpList _ _ _ _ _ w16.drew
  have D16 := Aside0.mk (St.drew S16.out)
  clear S16 qc oc22 of22 oc23 of23 oc24 of24
  generalize w16.drew = x16 at D16 ⊢
  have qc := D16.out.qc
  have oc22 := D16.out.oc N16.out 22 (by decide)
  have of22 := D16.out.of 22
  have oc23 := D16.out.oc N16.out 23 (by decide)
  have of23 := D16.out.of 23
  have oc24 := D16.out.oc N16.out 24 (by decide)
  have of24 := D16.out.of 24
  go_wp2_with (first | (go_at_call 40; refine Calls.mono (St.read C.out (St.store C.out (St.store C.out (St.store C.out (D16.out)))) (by rw [HLEN.out]; decide)) ?_; rintro e w17 ⟨rfl, hs⟩; obtain ⟨L17, V17, hs2, he⟩ := St.name hs; have S17 := Aside0.mk hs2; have E17 := he; clear hs hs2 he; have N17 := Aside0.mk (show L17.length = 32 by rw [E17.out.1]; (try simp only [List.length_set]); exact N16.out); clear qc oc22 of22 oc23 of23 oc24 of24; have qc := S17.out.qc; have oc24 := S17.out.oc N17.out 24 (by decide); have of24 := S17.out.of 24; have oc25 := S17.out.oc N17.out 25 (by decide); have of25 := S17.out.of 25; skip))
  go_still_tail 8, (by kernel_rfl)
  change wpList _ _ _ _ _ w17.drew
  have D17 := Aside0.mk (St.drew S17.out)
  clear S17 qc oc24 of24 oc25 of25
  generalize w17.drew = x17 at D17 ⊢
  have qc := D17.out.qc
  have oc24 := D17.out.oc N17.out 24 (by decide)
  have of24 := D17.out.of 24
  have oc25 := D17.out.oc N17.out 25 (by decide)
  have of25 := D17.out.of 25
  go_wp2_with (first | (go_at_call 40; refine Calls.mono (St.read C.out (St.store C.out (St.store C.out (D17.out))) (by rw [HLEN.out]; decide)) ?_; rintro e w18 ⟨rfl, hs⟩; obtain ⟨L18, V18, hs2, he⟩ := St.name hs; have S18 := Aside0.mk hs2; have E18 := he; clear hs hs2 he; have N18 := Aside0.mk (show L18.length = 32 by rw [E18.out.1]; (try simp only [List.length_set]); exact N17.out); clear qc oc24 of24 oc25 of25; have qc := S18.out.qc; have oc25 := S18.out.oc N18.out 25 (by decide); have of25 := S18.out.of 25; have oc26 := S18.out.oc N18.out 26 (by decide); have of26 := S18.out.of 26; have oc27 := S18.out.oc N18.out 27 (by decide); have of27 := S18.out.of 27; skip))
  go_still_tail 8, (by kernel_rfl)
  change wpList _ _ _ _ _ w18.drew
  have D18 := Aside0.mk (St.drew S18.out)
  clear S18 qc oc25 of25 oc26 of26 oc27 of27
  generalize w18.drew = x18 at D18 ⊢
  have qc := D18.out.qc
  have oc25 := D18.out.oc N18.out 25 (by decide)
  have of25 := D18.out.of 25
  have oc26 := D18.out.oc N18.out 26 (by decide)
  have of26 := D18.out.of 26
  have oc27 := D18.out.oc N18.out 27 (by decide)
  have of27 := D18.out.of 27
  go_wp2_with (first | (go_at_call 40; refine Calls.mono (St.read C.out (St.store C.out (St.store C.out (St.store C.out (D18.out)))) (by rw [HLEN.out]; decide)) ?_; rintro e w19 ⟨rfl, hs⟩; obtain ⟨L19, V19, hs2, he⟩ := St.name hs; have S19 := Aside0.mk hs2; have E19 := he; clear hs hs2 he; have N19 := Aside0.mk (show L19.length = 32 by rw [E19.out.1]; (try simp only [List.length_set]); exact N18.out); clear qc oc25 of25 oc26 of26 oc27 of27; have qc := S19.out.qc; have oc27 := S19.out.oc N19.out 27 (by decide); have of27 := S19.out.of 27; have oc28 := S19.out.oc N19.out 28 (by decide); have of28 := S19.out.of 28; skip))
  go_still_tail 8, (by kernel_rfl)
  change wpList _ _ _ _ _ w19.drew
  have D19 := Aside0.mk (St.drew S19.out)
  clear S19 qc oc27 of27 oc28 of28
  generalize w19.drew = x19 at D19 ⊢
  have qc := D19.out.qc
  have oc27 := D19.out.oc N19.out 27 (by decide)
  have of27 := D19.out.of 27
  have oc28 := D19.out.oc N19.out 28 (by decide)
  have of28 := D19.out.of 28
  go_wp2_with (first | (go_at_call 40; refine Calls.mono (St.read C.out (St.store C.out (St.store C.out (D19.out))) (by rw [HLEN.out]; decide)) ?_; rintro e w20 ⟨rfl, hs⟩; obtain ⟨L20, V20, hs2, he⟩ := St.name hs; have S20 := Aside0.mk hs2; have E20 := he; clear hs hs2 he; have N20 := Aside0.mk (show L20.length = 32 by rw [E20.out.1]; (try simp only [List.length_set]); exact N19.out); clear qc oc27 of27 oc28 of28; have qc := S20.out.qc; have oc28 := S20.out.oc N20.out 28 (by decide); have of28 := S20.out.of 28; have oc29 := S20.out.oc N20.out 29 (by decide); have of29 := S20.out.of 29; have oc30 := S20.out.oc N20.out 30 (by decide); have of30 := S20.out.of 30; skip))
  go_still_tail 8, (by kernel_rfl)
  change wpList _ _ _ _ _ w20.drew
  have D20 := Aside0.mk (St.drew S20.out)
  clear S20 qc oc28 of28 oc29 of29 oc30 of30
  generalize w20.drew = x20 at D20 ⊢
  have qc := D20.out.qc
  have oc28 := D20.out.oc N20.out 28 (by decide)
  have of28 := D20.out.of 28
  have oc29 := D20.out.oc N20.out 29 (by decide)
  have of29 := D20.out.of 29
  have oc30 := D20.out.oc N20.out 30 (by decide)
  have of30 := D20.out.of 30
  go_wp2_with (first | (go_at_call 40; refine Calls.mono (St.read C.out (St.store C.out (St.store C.out (St.store C.out (D20.out)))) (by rw [HLEN.out]; decide)) ?_; rintro e w21 ⟨rfl, hs⟩; obtain ⟨L21, V21, hs2, he⟩ := St.name hs; have S21 := Aside0.mk hs2; have E21 := he; clear hs hs2 he; have N21 := Aside0.mk (show L21.length = 32 by rw [E21.out.1]; (try simp only [List.length_set]); exact N20.out); clear qc oc28 of28 oc29 of29 oc30 of30; have qc := S21.out.qc; have oc30 := S21.out.oc N21.out 30 (by decide); have of30 := S21.out.of 30; have oc31 := S21.out.oc N21.out 31 (by decide); have of31 := S21.out.of 31; skip))
  go_still_tail 8, (by kernel_rfl)
  change wpList _ _ _ _ _ w21.drew
  have D21 := Aside0.mk (St.drew S21.out)
  clear S21 qc oc30 of30 oc31 of31
  generalize w21.drew = x21 at D21 ⊢
  have qc := D21.out.qc
  have oc30 := D21.out.oc N21.out 30 (by decide)
  have of30 := D21.out.of 30
  have oc31 := D21.out.oc N21.out 31 (by decide)
  have of31 := D21.out.of 31
  go_wp2
  refine ⟨rfl, .tuple #[], by simp [results, Tryd.results37, go_sem], rfl, 21, V21, _, (St.store C.out (St.store C.out (D21.out))), ?_⟩
  rw [E21.out.1, E21.out.2, E20.out.1, E20.out.2, E19.out.1, E19.out.2, E18.out.1, E18.out.2, E17.out.1, E17.out.2, E16.out.1, E16.out.2, E15.out.1, E15.out.2, E14.out.1, E14.out.2, E13.out.1, E13.out.2, E12.out.1, E12.out.2, E11.out.1, E11.out.2, E10.out.1, E10.out.2, E9.out.1, E9.out.2, E8.out.1, E8.out.2, E7.out.1, E7.out.2, E6.out.1, E6.out.2, E5.out.1, E5.out.2, E4.out.1, E4.out.2, E3.out.1, E3.out.2, E2.out.1, E2.out.2, E1.out.1, E1.out.2]
  rfl

theorem up21 {g o c0 : Nat} {A0 : Addr} {l : List Int} {B : Nat} (w : World) (L : List Int) (pr : Int) (hc : Cx g o w.heap.size c0 A0 l w B) (hL : L.length = 32) (hl : l.length = 84)
    (hg : w.heap[g]? = some (.cells #[.slice (some A0) l.length c0, .int .i64 0, .int .i64 pr] 43 (0, 0))) (ho : w.heap[o]? = some (.cells (rowU L) 30 (0, 0))) :
    Calls Tryd.prog 29 #[.iface 34 (.pointer (some ⟨g, 0, none⟩)), .slice (some ⟨o, 0, none⟩) 32 32] w fun e w' => e = .returned (.tuple #[]) ∧ ∃ j V L', St g o w.heap.size c0 A0 l w B j V L' w' ∧ L' = un21f (wordOf l) L := by
  have U := Aside0.mk (un21 w L pr hc hL hl hg ho)
  clear hc hL hl hg ho
  go_enter Tryd.func29, Tryd.ntmps29
  go_wp2_with (go_at_call 37; refine Calls.mono (U.out) ?_; rintro e w1 ⟨rfl, hs⟩; have HS := Aside0.mk hs; clear hs)
  exact ⟨rfl, .tuple #[], by simp [results, Tryd.results29, go_sem], rfl, HS.out⟩

set_option maxHeartbeats 8000000 in
set_option maxRecDepth 100000 in
theorem impl21 (A0' : Option Addr) (c0 : Nat) (l0 : List Int) (w : World) (hr0 : Kd.C (Kd.int .u8) w A0' l0.length l0) (hc0 : l0.length ≤ c0) (hl : l0.length = 84) (hb : ∀ j : Nat, j < l0.length → 0 ≤ rd l0 (j : Int) ∧ rd l0 (j : Int) < 256) :
    Calls Tryd.prog 18 #[.slice A0' l0.length c0] w fun e w' => ∃ v : Value, e = .returned (.tuple #[v, .bool true]) ∧ Kd.R (Kd.int .u32) 30 w' w.heap.size (fun _ => True) v (un21f (wordOf l0) (List.replicate 32 0)) ∧ Below w.heap.size w w' := by
  obtain ⟨ad, e0, _⟩ := Kd.at_int hr0 0 (by omega) (by rw [hl]; decide)
  subst e0
  have hsrc : ∀ j : Nat, j < l0.length → w.cell? (ad.add j) = some (.int .u8 (rd l0 (j : Int))) := by
    intro j hj
    obtain ⟨ad', e1, h1⟩ := Kd.at_int hr0 (j : Int) (by omega) (by omega)
    injection e1 with e1
    subst e1
    rw [Int.toNat_natCast] at h1
    exact h1
  have hadw : ad.block < w.heap.size := by
    have := World.block_lt_of_cell? w _ (hsrc 0 (by omega))
    rw [add_block] at this
    exact this
  have HSRC := Aside0.mk hsrc
  have HADW := Aside0.mk hadw
  have HR0 := Aside0.mk hr0
  have HC0 := Aside0.mk hc0
  have HN := Aside0.mk hl
  have HBY := Aside0.mk hb
  clear hr0 hc0 hl hb hsrc hadw
  have hmk := mk32
  go_enter_defers Tryd.func18, Tryd.ntmps18
  go_wp2_with (go_at_call 23; skip)
  obtain ⟨W3, hW3⟩ : ∃ W3, W3 = (((w.alloc (Obj.cells #[Value.slice (some ⟨w.heap.size + 1 + 1, 0, none⟩) 32 32] 23 (0, 0))).alloc (Obj.cells #[Value.bool false] 4 (0, 0))).alloc (Obj.cells (rowU [0, 0, 0, 0, 0, 0, 0, 0, 0, 0, 0, 0, 0, 0, 0, 0, 0, 0, 0, 0, 0, 0, 0, 0, 0, 0, 0, 0, 0, 0, 0, 0]) 30 (0, 0))) := ⟨_, rfl⟩
  have A3 : W3.heap[w.heap.size]? = some (.cells #[Value.slice (some ⟨w.heap.size + 1 + 1, 0, none⟩) 32 32] 23 (0, 0)) := by rw [hW3]; exact blk_alloc (blk_alloc (blk_new w _) _) _
  have B3 : W3.heap[w.heap.size + 1]? = some (.cells #[Value.bool false] 4 (0, 0)) := by
    rw [hW3]
    have h := blk_new (w.alloc (Obj.cells #[Value.slice (some ⟨w.heap.size + 1 + 1, 0, none⟩) 32 32] 23 (0, 0))) (Obj.cells #[Value.bool false] 4 (0, 0))
    rw [World.size_alloc] at h
    exact blk_alloc h _
  have O3 : W3.heap[w.heap.size + 1 + 1]? = some (.cells (rowU (List.replicate 32 0)) 30 (0, 0)) := by
    rw [show List.replicate 32 (0 : Int) = [0, 0, 0, 0, 0, 0, 0, 0, 0, 0, 0, 0, 0, 0, 0, 0, 0, 0, 0, 0, 0, 0, 0, 0, 0, 0, 0, 0, 0, 0, 0, 0] from rfl]
    rw [hW3]
    have h := blk_new ((w.alloc (Obj.cells #[Value.slice (some ⟨w.heap.size + 1 + 1, 0, none⟩) 32 32] 23 (0, 0))).alloc (Obj.cells #[Value.bool false] 4 (0, 0))) (Obj.cells (rowU [0, 0, 0, 0, 0, 0, 0, 0, 0, 0, 0, 0, 0, 0, 0, 0, 0, 0, 0, 0, 0, 0, 0, 0, 0, 0, 0, 0, 0, 0, 0, 0]) 30 (0, 0))
    rw [World.size_alloc, World.size_alloc] at h
    exact h
  have L3 : Below w.heap.size w W3 := by rw [hW3]; exact below_alloc (below_alloc (below_alloc (Below.refl _ _) _) _) _
  have Z3 : W3.heap.size = w.heap.size + 3 := by rw [hW3, World.size_alloc, World.size_alloc, World.size_alloc]
  rw [← hW3]
  clear hW3
  have a0 : W3.cell? ⟨w.heap.size, 0, none⟩ = some (Value.slice (some ⟨w.heap.size + 1 + 1, 0, none⟩) 32 32) := (cell_of_row' A3 0).trans rfl
  have A3' := Aside0.mk A3
  have B3' := Aside0.mk B3
  have O3' := Aside0.mk O3
  have L3' := Aside0.mk L3
  have Z3' := Aside0.mk Z3
  clear A3 B3 O3 L3 Z3
  have R23 := Aside0.mk (show ∀ q, Calls Tryd.prog 23 #[.slice (some ad) l0.length c0] (W3.drewN q) fun e w' => e = .returned (.pointer (some ⟨W3.heap.size, 0, none⟩)) ∧ w'.heap[W3.heap.size]? = some (.cells #[.slice (some ad) l0.length c0, .int .i64 0, .int .i64 (-1)] 43 (0, 0)) ∧ Below W3.heap.size W3 w' from fun q => by
    refine (newReader (some ad) l0.length c0 (W3.drewN q)).mono ?_
    rintro e w' ⟨m, h1, h2⟩
    subst h2
    exact ⟨h1, blk_drewN (blk_new (W3.drewN q) _) m, pw_below_drewN (below_alloc (show Below W3.heap.size W3 (W3.drewN q) from pw_below_drewN (Below.refl _ _) q) _) m⟩)
  have R25 := Aside0.mk (show ∀ w4, w4.heap[W3.heap.size]? = some (.cells #[.slice (some ad) l0.length c0, .int .i64 0, .int .i64 (-1)] 43 (0, 0)) → Below W3.heap.size W3 w4 → ∀ q, Calls Tryd.prog 29 #[.iface 34 (.pointer (some ⟨W3.heap.size, 0, none⟩)), .slice (some ⟨w.heap.size + 1 + 1, 0, none⟩) 32 32] (w4.drewN q) fun e w' => e = .returned (.tuple #[]) ∧ Below w.heap.size w w' ∧ Kept W3 w' (fun k => k = w.heap.size + 1 + 1) ∧ w'.heap[w.heap.size + 1 + 1]? = some (.cells (rowU (un21f (wordOf l0) (List.replicate 32 0))) 30 (0, 0)) from fun w4 hG hB q => by
    have hz := Z3'.out
    have hs4 := blk_lt hG
    have hb4 : Below w.heap.size w w4 := below_then L3'.out (by omega) hB
    have C : Cx W3.heap.size (w.heap.size + 1 + 1) (w4.drewN q).heap.size c0 ad l0 (w4.drewN q) w.heap.size :=
      { go := by omega, qg := by have : (w4.drewN q).heap.size = w4.heap.size := rfl
                                 omega
        qo := by have : (w4.drewN q).heap.size = w4.heap.size := rfl
                 omega
        ag := by have := HADW.out; omega
        ao := by have := HADW.out; omega
        qw := Nat.le_refl _
        bg := by omega
        bo := by omega
        bw := hb4.size
        cap := HC0.out
        len := by rw [HN.out]; decide
        src := fun j hj => pw_cell_below hb4 (HSRC.out j hj)
        byte := HBY.out }
    refine (up21 (w4.drewN q) (List.replicate 32 0) (-1) C (by simp) HN.out (blk_drewN hG q) (blk_drewN (blk_below O3'.out hB) q)).mono ?_
    rintro e w' ⟨rfl, j, V, L', S, hL'⟩
    refine ⟨rfl, hb4.trans (show Below w.heap.size w4 w' from (show Below w.heap.size w4 (w4.drewN q) from pw_below_drewN (Below.refl _ _) q).trans S.below), ?_, by rw [← hL']; exact S.O⟩
    exact (Kept.of_below hB (fun k => k = w.heap.size + 1 + 1)).then_ (show Kept w4 w' _ from S.kept) (fun k hk => hk.elim (fun h => .inr (by omega)) (fun h => .inl h)))
  clear hmk
  refine wp_region_noPanic ?_
  go_region_with (first | (go_at_call 23; refine Calls.mono (R23.out _) ?_; rintro e w4 ⟨rfl, hg, hb⟩; have a4 : w4.cell? ⟨w.heap.size, 0, none⟩ = some (Value.slice (some ⟨w.heap.size + 1 + 1, 0, none⟩) 32 32) := (cell_of_row' (blk_below A3'.out hb) 0).trans rfl; have HG4 := Aside0.mk hg; have HC4 := Aside0.mk hb; clear hb hg) | (go_at_call 29; (first | refine Calls.mono (R25.out _ HG4.out HC4.out 0) ?_ | refine Calls.mono (R25.out _ HG4.out HC4.out _) ?_); rintro e w5 ⟨rfl, h5⟩; have H5 := Aside0.mk h5; clear h5))
  all_goals
    refine NoPanic.normal ?_
    have hz := Z3'.out
    have bA := blk_kept A3'.out H5.out.2.1 (by omega)
    have bB := blk_kept B3'.out H5.out.2.1 (by omega)
    have cA : w5.cell? ⟨w.heap.size, 0, none⟩ = some (Value.slice (some ⟨w.heap.size + 1 + 1, 0, none⟩) 32 32) := (cell_of_row' bA 0).trans rfl
    have cB : w5.cell? ⟨w.heap.size + 1, 0, none⟩ = some (Value.bool false) := (cell_of_row' bB 0).trans rfl
    have fA := blk_frozen' bA 0
    have fB := blk_frozen' bB 0
    have BA := Aside0.mk bA
    have BB := Aside0.mk bB
    clear bA bB
    go_wp2
    have hR3 := Z3'.out
    have bL := H5.out.2.2
    have hlen : (un21f (wordOf l0) (List.replicate 32 0)).length = 32 := un21_len _ _ (by simp)
    refine leaves_cons (f := 21) (args := #[.pointer (some ⟨w.heap.size, 0, none⟩), .pointer (some ⟨w.heap.size + 1, 0, none⟩)]) (by simp) (by simp [go_sem]) ?_
    refine (no_idle ⟨w.heap.size, 0, none⟩ ⟨w.heap.size + 1, 0, none⟩ _).mono ?_
    rintro e u' w'' ⟨rfl, rfl, rfl⟩
    have b1 := blk_put (cs := #[Value.slice (some ⟨w.heap.size + 1 + 1, 0, none⟩) 32 32]) BA.out 0 (Value.slice (some ⟨w.heap.size + 1 + 1, 0, none⟩) 32 32) rfl
    have b2 := blk_far (p := ⟨w.heap.size + 1, 0, none⟩) b1 (by simp only; omega) (.bool true)
    have d1 := blk_far (p := ⟨w.heap.size, 0, none⟩) BB.out (by simp only; omega) (Value.slice (some ⟨w.heap.size + 1 + 1, 0, none⟩) 32 32)
    have d2 := blk_put (cs := #[Value.bool false]) d1 0 (.bool true) rfl
    have o1 := blk_far (p := ⟨w.heap.size, 0, none⟩) bL (by simp only; omega) (Value.slice (some ⟨w.heap.size + 1 + 1, 0, none⟩) 32 32)
    have o2 := blk_far (p := ⟨w.heap.size + 1, 0, none⟩) o1 (by simp only; omega) (.bool true)
    have c3 := (cell_of_row' b2 0).trans rfl
    have d3 := (cell_of_row' d2 0).trans rfl
    have HFIN := Aside0.mk (rowR (base := w.heap.size) o2 (by omega) hlen)
    have HBEL := Aside0.mk (below_set (j := 0) (v := .bool true) (below_set (j := 0) (v := (Value.slice (some ⟨w.heap.size + 1 + 1, 0, none⟩) 32 32)) H5.out.1 (Nat.le_refl _)) (show w.heap.size ≤ w.heap.size + 1 by omega))
    clear b1 b2 d1 d2 o1 o2 hlen bL
    simp [Leaves, settle, results, Tryd.results18, go_sem, c3, d3]
    exact ⟨HFIN.out, HBEL.out⟩

end Go.Proofs.YtcfkjhgchjgkeaaDoor.U
