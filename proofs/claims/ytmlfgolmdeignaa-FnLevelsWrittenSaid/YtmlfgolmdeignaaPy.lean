/- The writer of bits: zigzag, bytes left out, the length. -/
import Derived.Test.YtmlfgolmdeignaaPx
namespace Go.Proofs.Ytmlfgolmdeignaa.Pk
open Go.RowKit Go.IntWalk Go.Proofs.YtmlfgolmdeignaaW.PrintWords Go.Proofs.YtmlfgolmdeignaaW.PrintLast Go.Proofs.YtmlfgolmdeignaaW.PrintMore
attribute [local go_sem] max2_int min2_int max_two min_two max_three min_three max_four min_four
set_option linter.unusedVariables false
set_option linter.unusedSimpArgs false
/-- A number with a sign, as the writer turns it. -/
def zz (i : Int) : Int := IntKind.u64.wrap (bits BinOp.xor IntKind.i64 (wrap64 (i * 2)) (i / 9223372036854775808))
set_option maxHeartbeats 8000000 in
set_option maxRecDepth 100000 in
theorem zigzag {bw wb d n Bs : Nat} (C : Pl bw wb d n Bs) {D : List Int} {o t B : Nat} {w : World} (S : Wr bw wb d n D o t B w) (i : Int) (x : Nat) (hz : zz i = x) (ht : t < 64) (hB : B < 18446744073709551616) (hx : x < 18446744073709551616) (D1 : List Int) (o1 : Nat) (hD1 : D1 = over D o (low ((t + 7) / 8) B)) (ho1 : o1 = o + (t + 7) / 8) (hfit : o1 + (uv x).length ≤ n) :
    Calls Try.prog 25 #[.pointer (some ⟨bw, 0, none⟩), .int .i64 i] w fun e w' => e = .returned (.bool true) ∧ Wr bw wb d n (over D1 o1 (uv x)) (o1 + (uv x).length) 0 0 w' ∧ Below Bs w w' ∧ Kept w w' (fun k => k = bw ∨ k = d) := by
  have HV := Aside0.mk (vlq C S x ht hB hx D1 o1 hD1 ho1 hfit)
  have HZ := Aside0.mk (show IntKind.u64.wrap (bits BinOp.xor IntKind.i64 (wrap64 (i * 2)) (i / 9223372036854775808)) = (x : Int) from hz)
  clear S hz hD1 ho1
  go_enter Try.func25, Try.ntmps25
  go_wp2_with (go_at_call 24; rw [HZ.out]; refine Calls.mono HV.out ?_; rintro e w1 ⟨rfl, S1, b1, k1⟩; have S1 := Aside0.mk S1; have b1 := Aside0.mk b1; have k1 := Aside0.mk k1)
  go_ret
  exact ⟨rfl, S1.out, b1.out, k1.out⟩
set_option maxHeartbeats 8000000 in
set_option maxRecDepth 100000 in
theorem written {bw wb d n Bs : Nat} (C : Pl bw wb d n Bs) {D : List Int} {o t B : Nat} {w : World} (S : Wr bw wb d n D o t B w) (ht : t < 64) (ho : o + 8 ≤ 1000000) :
    Calls Try.prog 28 #[.pointer (some ⟨bw, 0, none⟩)] w fun e w' => e = .returned (.int .i64 ((o + (t + 7) / 8 : Nat) : Int)) ∧ ∃ m, w' = w.drewN m := by
  obtain ⟨⟨R, U, hR, hU, hW⟩, hV, hRow, hlen⟩ := S
  have c2 : w.cell? ⟨bw, 2, none⟩ = some (.int .i64 o) := (cell_of_row' hW 2).trans rfl
  have c3 : w.cell? ⟨bw, 3, none⟩ = some (.int .u64 t) := (cell_of_row' hW 3).trans rfl
  obtain ⟨k, hk⟩ : ∃ k, k = (t + 7) / 8 := ⟨_, rfl⟩
  have HK := Aside0.mk hk
  have hk2 : (o : Int) + (k : Int) < 2000000 := by omega
  have hwt : IntKind.i64.wrap (t : Int) = (t : Int) := by rw [IntKind.wrap_i64]; omega
  have hwk : IntKind.i64.wrap ((o : Int) + (k : Int)) = (o : Int) + (k : Int) := by rw [IntKind.wrap_i64]; omega
  have HB := Aside0.mk (fun q => bytesFor t k (by omega) HK.out (w.drewN q))
  rw [← hk]
  clear hk
  go_enter Try.func28, Try.ntmps28
  go_wp2
  go_region_with (go_at_call 51; (first | refine Calls.mono (HB.out 0) ?_ | refine Calls.mono (HB.out _) ?_); rintro e w1 ⟨rfl, rfl⟩)
  all_goals
    go_wp2
    go_ret
    exact ⟨by rw [show ((o + k : Nat) : Int) = (o : Int) + (k : Int) by omega]; first | rfl | (rw [hwk]; rfl), by first | exact ⟨0, rfl⟩ | exact ⟨1, rfl⟩ | exact ⟨2, rfl⟩ | exact ⟨_, rfl⟩⟩
set_option maxRecDepth 100000 in
theorem reserve (a : Addr) (i : Int) (w : World) : Calls Try.prog 76 #[.pointer (some a), .int .i64 i] w fun e w' => e = .returned (.tuple #[]) ∧ w = w' := by
  go_enter Try.func76, Try.ntmps76
  go_wp2
  exact ⟨rfl, .tuple #[], by simp [results, Try.results76, go_sem], rfl, rfl⟩
/-- Bytes are left out. -/
theorem skip {bw wb d n Bs : Nat} (C : Pl bw wb d n Bs) {D : List Int} {o t B : Nat} {w : World} (S : Wr bw wb d n D o t B w) (k : Nat) (ht : t < 64) (hB : B < 18446744073709551616) (D1 : List Int) (o1 : Nat) (hD1 : D1 = over D o (low ((t + 7) / 8) B)) (ho1 : o1 = o + (t + 7) / 8) (hfit : o1 + k ≤ n) :
    Calls Try.prog 27 #[.pointer (some ⟨bw, 0, none⟩), .int .i64 k] w fun e w' => e = .returned (.tuple #[.int .i64 o1, .nilIface]) ∧ Wr bw wb d n D1 (o1 + k) 0 0 w' ∧ Below Bs w w' ∧ Kept w w' (fun k => k = bw ∨ k = d) := by
  have HF := Aside0.mk (flush C S ht hB (by omega))
  rw [← hD1, ← ho1] at HF
  have hn4 := C.n4
  have ho : (o1 : Int) + (k : Int) ≤ 100000 := by omega
  clear hD1 ho1 S hB
  have na := nil_reserve
  have ma := method_reserve
  go_enter Try.func27, Try.ntmps27
  go_wp2_with (go_at_call 26; refine Calls.mono HF.out ?_; rintro e w1 ⟨rfl, S1, b1, k1⟩; obtain ⟨⟨R, U, hR, hU, hW⟩, hV, hRow, hlen⟩ := S1; have HW1 := Aside0.mk hW; have HV1 := Aside0.mk hV; have HR1 := Aside0.mk hRow; have HB1 := Aside0.mk b1; have HK1 := Aside0.mk k1; have d2 : w1.cell? ⟨bw, 2, none⟩ = some (.int .i64 o1) := (cell_of_row' hW 2).trans rfl; have g2 := blk_frozen' hW 2; clear hW hV hRow b1 k1)
  obtain ⟨hS2, hB2, hK2⟩ := bw_set2k C hR hU HW1.out HV1.out HR1.out hlen HB1.out HK1.out (o1 + k)
  rw [show (o1 : Int) + (k : Int) = ((o1 + k : Nat) : Int) by omega]
  obtain ⟨W2, hW2⟩ : ∃ W2, W2 = w1.setCell ⟨bw, 2, none⟩ (.int .i64 ((o1 + k : Nat) : Int)) := ⟨_, rfl⟩
  rw [← hW2] at hS2 hB2 hK2 ⊢
  clear hW2 d2 g2
  obtain ⟨⟨R2, U2, hR2, hU2, hWW⟩, hVV, hRR, hlen2⟩ := hS2
  have c0 : W2.cell? ⟨bw, 0, none⟩ = some (.iface 92 (.pointer (some ⟨wb, 0, none⟩))) := (cell_of_row' hWW 0).trans rfl
  have c2 : W2.cell? ⟨bw, 2, none⟩ = some (.int .i64 ((o1 + k : Nat) : Int)) := (cell_of_row' hWW 2).trans rfl
  have HWW := Aside0.mk hWW
  have HVV := Aside0.mk hVV
  have HRR := Aside0.mk hRR
  have HB2 := Aside0.mk hB2
  have HK2 := Aside0.mk hK2
  clear hWW hVV hRR hB2 hK2
  go_region_with (go_at_call 76; refine Calls.mono (reserve _ _ _) ?_; rintro e w3 ⟨rfl, rfl⟩)
  all_goals
    go_wp2
    go_ret2
    exact ⟨rfl, ⟨⟨R2, U2, hR2, hU2, HWW.out⟩, HVV.out, HRR.out, hlen2⟩, by first | exact HB2.out | exact HB2.out.drew | exact HB2.out.drew.drew, by first | exact HK2.out | exact Kept.drew HK2.out | exact Kept.drew (Kept.drew HK2.out)⟩

end Go.Proofs.Ytmlfgolmdeignaa.Pk
