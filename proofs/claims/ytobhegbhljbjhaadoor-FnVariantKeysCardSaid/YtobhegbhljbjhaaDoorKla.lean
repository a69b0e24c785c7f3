/- The law. -/
import Derived.Test.YtobhegbhljbjhaaDoorKqb
import Derived.Test.YtobhegbhljbjhaaDoorKz
import Derived.Deep.RegionHeld
namespace Go.Proofs.YtobhegbhljbjhaaDoor.Vk
set_option linter.unusedVariables false
set_option linter.unusedSimpArgs false
open Go.RowKit Go.IntWalk Go.Proofs.YtobhegbhljbjhaaDoorW.PrintWords Go.Proofs.YtobhegbhljbjhaaDoorW.PrintLast Go.Proofs.YtobhegbhljbjhaaDoorW.PrintMore Go.Proofs.YtobhegbhljbjhaaDoor.MVkS
attribute [local go_sem] max2_int min2_int max_two min_two max_three min_three max_four min_four
/-! ## The law -/
theorem wi64b (x : Int) (h0 : 0 ≤ x) (h : x ≤ 100000000) : IntKind.i64.wrap x = x := by
  simp only [IntKind.wrap, IntKind.bits, IntKind.signed]
  simp
  omega
theorem all_fine {a b p : Bool} (h : false = (!a || !b || p)) : a = true ∧ b = true ∧ p = false := by
  cases a <;> cases b <;> cases p <;> simp at h ⊢
theorem flat_le : ∀ (n : Nat) (x : S26), fine n x → (flat n x).length ≤ 500 * nodes n x
  | 0, _, _ => by simp [flat]
  | n + 1, x, h => by
    have hs : ∀ l : List S26, (∀ u ∈ l, fine n u) → (l.flatMap (flat n)).length ≤ 500 * (l.map (nodes n)).sum := by
      intro l
      induction l with
      | nil => intro _; simp
      | cons u l ih =>
        intro hl
        have h1 := flat_le n u (hl u List.mem_cons_self)
        have h2 := ih fun v hv => hl v (List.mem_cons_of_mem _ hv)
        rw [List.flatMap_cons, List.length_append, List.map_cons, List.sum_cons, Nat.mul_add]
        omega
    have h1 := hs x.f5 h.2.2.2.2
    have h2 := h.2.1
    unfold flat nodes
    rw [List.length_append, Nat.mul_add]
    omega
set_option maxHeartbeats 16000000 in
set_option maxRecDepth 100000 in
theorem law3 (n : Nat) (x : S26) (hx : dep n x) (hs : small n x) (A4 : Option Addr) (c4 : Nat) (A5 : Option Addr) (c5 : Nat) (a b : Int) (s2 s3 s4 s5 : Bool) (A6 : Option Addr) (c6 : Nat) (more : List ByteArray) (key : ByteArray) (w : World) (hT : Utf8T w)
    (h4 : Kd.string.C w A4 x.f4.length x.f4) (l4 : x.f4.length ≤ c4) (h5 : k26.C w A5 x.f5.length x.f5) (l5 : x.f5.length ≤ c5) (h6 : Kd.string.C w A6 more.length more) (l6 : more.length ≤ c6) (hms : ∀ k ∈ more, k.size ≤ 9223372036854775807) (hks : key.size ≤ 9223372036854775807) :
    Calls Tryd.prog 3 #[.agg #[.int .i64 x.f0, .int .u64 x.f1, .int .i64 x.f2, .string x.f3, .slice A4 x.f4.length c4, .slice A5 x.f5.length c5], .agg #[.int .i64 a, .int .i64 b, .bool s2, .bool s3, .bool s4, .bool s5, .slice A6 more.length c6], .string key] w fun e w' => e = .returned (.bool true) ∧ Below w.heap.size w w' := by
  obtain ⟨t4, ht4⟩ := zz9 x.f0 x.f1 x.f2 x.f3 x.f4 x.f5 h4.2.1
  obtain ⟨t5, ht5⟩ := zz10 a b s2 s3 s4 s5 more h6.2.1
  obtain ⟨t7, ht7, hw7⟩ := ways_some a b s2 s3 s4 s5 more h6.2.1 hms
  have R4 := Aside0.mk (fun W (hW : Below w.heap.size w W) => laws_zzFits9.calls _ x.f0 x.f1 x.f2 x.f3 A4 c4 x.f4 A5 c5 x.f5 t4 W (Kd.C_below h4 hW) l4 (Kd.C_below h5 hW) l5 ht4)
  have R5 := Aside0.mk (fun W (hW : Below w.heap.size w W) => laws_zzFits10.calls _ a b s2 s3 s4 s5 A6 c6 more t5 W (Kd.C_below h6 hW) l6 ht5)
  obtain ⟨t6, ht6, hr6⟩ := fits6d n x hx hs
  have R6 := Aside0.mk (fun W (hW : Below w.heap.size w W) => hr6 A4 c4 A5 c5 W (hT.below hW) (Kd.C_below h4 hW) l4 (Kd.C_below h5 hW) l5)
  have F6 := Aside0.mk (show Aside0 (t6 = true → fine n x ∧ nodes n x ≤ 20000) from ⟨ht6⟩)
  have R7 := Aside0.mk (fun W (hW : Below w.heap.size w W) => spec_Ways_Fits.calls _ a b s2 s3 s4 s5 A6 c6 more t7 W (hT.below hW) (Kd.C_below h6 hW) l6 ht7)
  have R8 := Aside0.mk (fun (hf : fine n x ∧ nodes n x ≤ 20000) W (hW : Below w.heap.size w W) => count8 n x hx A4 c4 A5 c5 W W (Kd.C_below h4 hW) (Kd.C_below h5 hW) (Below.refl _ _) (by
    have h1 := flat_le n x hf.1
    have h2 := addAll_le (flat n x) ([] : List ByteArray)
    have h3 : 500 * nodes n x ≤ 500 * 20000 := Nat.mul_le_mul_left _ hf.2
    rw [List.length_nil] at h2
    omega))
  have R9 := Aside0.mk (fun r1 r2 W (hW : Below w.heap.size w W) hf => spec_PutVariant.calls 1000 x.f0 x.f1 x.f2 x.f3 A4 c4 x.f4 A5 c5 x.f5 a b s2 s3 s4 s5 A6 c6 more r1 r2 W (Kd.C_below h4 hW) l4 (Kd.C_below h5 hW) l5 (Kd.C_below h6 hW) l6 hf)
  have HX := Aside0.mk hx
  have HW7 := Aside0.mk (show Aside0 (t7 = true → WaysOk a b more) from ⟨hw7⟩)
  have hml : more.length ≤ 9223372036854775807 := h6.2.1
  have hmI : 0 ≤ (more.length : Int) := by omega
  have hkI : 0 ≤ (key.size : Int) := by omega
  clear hx hs hT h4 h5 h6 l4 l5 l6 hms ht4 ht5 ht6 ht7 hw7 hr6
  go_enter Tryd.func3, Tryd.ntmps3
  go_upto_region 1 with (first | ((with_reducible refine gate_dst (N := 3) rfl ?_); refine box_event ?hg (N := 3) ?hd (cs := #[.int .i64 x.f0, .int .u64 x.f1, .int .i64 x.f2, .string x.f3, .slice A4 x.f4.length c4, .slice A5 x.f5.length c5]) (t := 26) ?hr ?_; (case hd => rfl); (case hg => rfl); (case hr => first | (go_simp; done) | (go_simp; rfl)); intro g3 hg w3 hbox hb; have K3 := Aside0.mk hbox; have HB3 := Aside0.mk hb; clear hb hbox hg) | ((with_reducible refine gate_dst (N := 4) rfl ?_); refine box_event ?hg (N := 4) ?hd (cs := #[.int .i64 a, .int .i64 b, .bool s2, .bool s3, .bool s4, .bool s5, .slice A6 more.length c6]) (t := 28) ?hr ?_; (case hd => rfl); (case hg => rfl); (case hr => first | (go_simp; done) | (go_simp; rfl)); intro g4 hg w4 hbox hb; have K4 := Aside0.mk hbox; have J3 := Aside0.mk (blk_below K3.out hb); have HB4 := Aside0.mk (HB3.out.trans (hb.mono HB3.out.size)); clear hb hbox hg))
  have CF := Aside0.mk (show ∀ W, Below w4.heap.size w4 W → (W.cell? ⟨g3, 0, none⟩ = some (.int .i64 x.f0) ∧ W.cell? ⟨g3, 1, none⟩ = some (.int .u64 x.f1) ∧ W.cell? ⟨g3, 2, none⟩ = some (.int .i64 x.f2) ∧ W.cell? ⟨g3, 3, none⟩ = some (.string x.f3) ∧ W.cell? ⟨g3, 4, none⟩ = some (.slice A4 x.f4.length c4) ∧ W.cell? ⟨g3, 5, none⟩ = some (.slice A5 x.f5.length c5) ∧ W.cell? ⟨g4, 0, none⟩ = some (.int .i64 a) ∧ W.cell? ⟨g4, 1, none⟩ = some (.int .i64 b) ∧ W.cell? ⟨g4, 2, none⟩ = some (.bool s2) ∧ W.cell? ⟨g4, 3, none⟩ = some (.bool s3) ∧ W.cell? ⟨g4, 4, none⟩ = some (.bool s4) ∧ W.cell? ⟨g4, 5, none⟩ = some (.bool s5) ∧ W.cell? ⟨g4, 6, none⟩ = some (.slice A6 more.length c6)) from fun W hW => ⟨(blk_cell (blk_below J3.out hW) 0).trans rfl, (blk_cell (blk_below J3.out hW) 1).trans rfl, (blk_cell (blk_below J3.out hW) 2).trans rfl, (blk_cell (blk_below J3.out hW) 3).trans rfl, (blk_cell (blk_below J3.out hW) 4).trans rfl, (blk_cell (blk_below J3.out hW) 5).trans rfl, (blk_cell (blk_below K4.out hW) 0).trans rfl, (blk_cell (blk_below K4.out hW) 1).trans rfl, (blk_cell (blk_below K4.out hW) 2).trans rfl, (blk_cell (blk_below K4.out hW) 3).trans rfl, (blk_cell (blk_below K4.out hW) 4).trans rfl, (blk_cell (blk_below K4.out hW) 5).trans rfl, (blk_cell (blk_below K4.out hW) 6).trans rfl⟩)
  have B4 := Aside0.mk (Below.refl w4.heap.size w4)
  obtain ⟨p0, p1, p2, p3, p4, p5, q0, q1, q2, q3, q4, q5, q6⟩ := CF.out _ B4.out
  cases t4 with
  | false =>
    go_wp2_with (go_at_call 4; refine Calls.mono (R4.out _ (HB4.out.trans (B4.out.mono HB4.out.size))) ?_; rintro e w5 ⟨rfl, b⟩; have B5 := Aside0.mk (B4.out.trans (b.mono B4.out.size)); clear b; obtain ⟨p0, p1, p2, p3, p4, p5, q0, q1, q2, q3, q4, q5, q6⟩ := CF.out _ B5.out)
    go_ret
    exact ⟨rfl, HB4.out.trans (B5.out.mono HB4.out.size)⟩
  | true =>
  cases t5 with
  | false =>
    go_wp2_with (first | (go_at_call 4; refine Calls.mono (R4.out _ (HB4.out.trans (B4.out.mono HB4.out.size))) ?_; rintro e w5 ⟨rfl, b⟩; have B5 := Aside0.mk (B4.out.trans (b.mono B4.out.size)); clear b; obtain ⟨p0, p1, p2, p3, p4, p5, q0, q1, q2, q3, q4, q5, q6⟩ := CF.out _ B5.out) | (go_at_call 5; refine Calls.mono (R5.out _ (HB4.out.trans (B5.out.mono HB4.out.size))) ?_; rintro e w6 ⟨rfl, b⟩; have B6 := Aside0.mk (B5.out.trans (b.mono B5.out.size)); clear b; obtain ⟨p0, p1, p2, p3, p4, p5, q0, q1, q2, q3, q4, q5, q6⟩ := CF.out _ B6.out))
    go_ret
    exact ⟨rfl, HB4.out.trans (B6.out.mono HB4.out.size)⟩
  | true =>
  by_cases hk : 2147483647 < (key.size : Int)
  · go_wp2_with (first | (go_at_call 4; refine Calls.mono (R4.out _ (HB4.out.trans (B4.out.mono HB4.out.size))) ?_; rintro e w5 ⟨rfl, b⟩; have B5 := Aside0.mk (B4.out.trans (b.mono B4.out.size)); clear b; obtain ⟨p0, p1, p2, p3, p4, p5, q0, q1, q2, q3, q4, q5, q6⟩ := CF.out _ B5.out) | (go_at_call 5; refine Calls.mono (R5.out _ (HB4.out.trans (B5.out.mono HB4.out.size))) ?_; rintro e w6 ⟨rfl, b⟩; have B6 := Aside0.mk (B5.out.trans (b.mono B5.out.size)); clear b; obtain ⟨p0, p1, p2, p3, p4, p5, q0, q1, q2, q3, q4, q5, q6⟩ := CF.out _ B6.out))
    go_ret
    exact ⟨rfl, HB4.out.trans (B6.out.mono HB4.out.size)⟩
  go_upto_region 3 with (first | (go_at_call 4; refine Calls.mono (R4.out _ (HB4.out.trans (B4.out.mono HB4.out.size))) ?_; rintro e w5 ⟨rfl, b⟩; have B5 := Aside0.mk (B4.out.trans (b.mono B4.out.size)); clear b; obtain ⟨p0, p1, p2, p3, p4, p5, q0, q1, q2, q3, q4, q5, q6⟩ := CF.out _ B5.out) | (go_at_call 5; refine Calls.mono (R5.out _ (HB4.out.trans (B5.out.mono HB4.out.size))) ?_; rintro e w6 ⟨rfl, b⟩; have B6 := Aside0.mk (B5.out.trans (b.mono B5.out.size)); clear b; obtain ⟨p0, p1, p2, p3, p4, p5, q0, q1, q2, q3, q4, q5, q6⟩ := CF.out _ B6.out))
  have B7 : Below w4.heap.size w4 w6.drew := below_drew B6.out
  clear p0 p1 p2 p3 p4 p5 q0 q1 q2 q3 q4 q5 q6
  obtain ⟨cn, hcn⟩ : ∃ cn : Nat, cn = (addAll (flat n x) []).length := ⟨_, rfl⟩
  rw [← hcn] at R8
  have HCN := Aside0.mk hcn
  clear hcn
  obtain ⟨TB, hTB⟩ : ∃ TB : Bool, TB = (!t6 || !t7 || decide (49 < (cn : Int) + (more.length : Int))) := ⟨_, rfl⟩
  have HTB := Aside0.mk (show Aside0 (TB = (!t6 || !t7 || decide (49 < (cn : Int) + (more.length : Int)))) from ⟨hTB⟩)
  clear hTB
  go_cut [55] from 39 to 55 (fun v55 wc => v55 = .bool TB ∧ Aside0 (Below w4.heap.size w4 wc))
  case first =>
    cases t6 with
    | false =>
      obtain rfl : TB = true := by have h := HTB.out.out; simpa using h
      · have X7 := Aside0.mk B7
        obtain ⟨p0, p1, p2, p3, p4, p5, q0, q1, q2, q3, q4, q5, q6⟩ := CF.out _ B7
        first | go_region_with (go_at_call 6; refine Calls.mono (R6.out _ (HB4.out.trans (X7.out.mono HB4.out.size))) ?_; rintro e w9 ⟨rfl, b⟩; have HB9 := Aside0.mk (X7.out.trans (b.mono X7.out.size)); clear b; obtain ⟨p0, p1, p2, p3, p4, p5, q0, q1, q2, q3, q4, q5, q6⟩ := CF.out _ HB9.out) | fail
        all_goals
          go_wp2
          go_meet
          exact ⟨rfl, HB9⟩
    | true =>
      have hff := F6.out.out rfl
      have hcnb : cn ≤ 10000000 := by
        have h1 := flat_le n x hff.1
        have h2 := addAll_le (flat n x) ([] : List ByteArray)
        have h3 : 500 * nodes n x ≤ 500 * 20000 := Nat.mul_le_mul_left _ hff.2
        have h4 := HCN.out
        rw [List.length_nil] at h2
        omega
      have R8 := Aside0.mk (R8.out hff)
      clear hff F6
      cases t7 with
      | false =>
        obtain rfl : TB = true := by have h := HTB.out.out; simpa using h
        have X7 := Aside0.mk B7
        obtain ⟨p0, p1, p2, p3, p4, p5, q0, q1, q2, q3, q4, q5, q6⟩ := CF.out _ B7
        first | go_region_with (first | (go_at_call 6; refine Calls.mono (R6.out _ (HB4.out.trans (X7.out.mono HB4.out.size))) ?_; rintro e w8 ⟨rfl, b⟩; have X8 := Aside0.mk (X7.out.trans (b.mono X7.out.size)); clear b; obtain ⟨p0, p1, p2, p3, p4, p5, q0, q1, q2, q3, q4, q5, q6⟩ := CF.out _ X8.out) | (go_at_call 7; refine Calls.mono (R7.out _ (HB4.out.trans (X8.out.mono HB4.out.size))) ?_; rintro e w9 ⟨rfl, b⟩; have HB9 := Aside0.mk (X8.out.trans (b.mono X8.out.size)); clear b; obtain ⟨p0, p1, p2, p3, p4, p5, q0, q1, q2, q3, q4, q5, q6⟩ := CF.out _ HB9.out)) | fail
        all_goals
          go_wp2
          go_meet
          exact ⟨rfl, HB9⟩
      | true =>
        have hml2 : (more.length : Int) ≤ 20 := by have := (HW7.out.out rfl).many; omega
        clear HW7
        have ew := wi64b ((cn : Int) + (more.length : Int)) (by omega) (by omega)
        by_cases hcm : 49 < (cn : Int) + (more.length : Int)
        · obtain rfl : TB = true := by have h := HTB.out.out; rw [decide_eq_true hcm] at h; simpa using h
          (first | (go_region_held3 (fun W => W.cell? ⟨g3, 0, none⟩ = some (.int .i64 x.f0) ∧ W.cell? ⟨g3, 1, none⟩ = some (.int .u64 x.f1) ∧ W.cell? ⟨g3, 2, none⟩ = some (.int .i64 x.f2) ∧ W.cell? ⟨g3, 3, none⟩ = some (.string x.f3) ∧ W.cell? ⟨g3, 4, none⟩ = some (.slice A4 x.f4.length c4) ∧ W.cell? ⟨g3, 5, none⟩ = some (.slice A5 x.f5.length c5) ∧ W.cell? ⟨g4, 0, none⟩ = some (.int .i64 a) ∧ W.cell? ⟨g4, 1, none⟩ = some (.int .i64 b) ∧ W.cell? ⟨g4, 2, none⟩ = some (.bool s2) ∧ W.cell? ⟨g4, 3, none⟩ = some (.bool s3) ∧ W.cell? ⟨g4, 4, none⟩ = some (.bool s4) ∧ W.cell? ⟨g4, 5, none⟩ = some (.bool s5) ∧ W.cell? ⟨g4, 6, none⟩ = some (.slice A6 more.length c6)) (with_reducible (apply CF.out; assumption)) (first |(go_at_call 6; refine Calls.mono (R6.out _ (HB4.out.trans (Below.mono ‹Below w4.heap.size w4 _› HB4.out.size))) ?_; rintro e w9 ⟨rfl, b⟩; have b9 : Below w4.heap.size w4 w9 := Below.trans ‹_› (b.mono (Below.size ‹Below w4.heap.size w4 _›)); have HB9 := Aside0.mk b9; clear b) | (go_at_call 7; refine Calls.mono (R7.out _ (HB4.out.trans (Below.mono ‹Below w4.heap.size w4 _› HB4.out.size))) ?_; rintro e w9 ⟨rfl, b⟩; have b9 : Below w4.heap.size w4 w9 := Below.trans ‹_› (b.mono (Below.size ‹Below w4.heap.size w4 _›)); have HB9 := Aside0.mk b9; clear b) | (go_at_call 8; refine Calls.mono (R8.out _ (HB4.out.trans (Below.mono ‹Below w4.heap.size w4 _› HB4.out.size))) ?_; rintro e w9 ⟨rfl, b⟩; have b9 : Below w4.heap.size w4 w9 := Below.trans ‹_› (b.mono (Below.size ‹Below w4.heap.size w4 _›)); have HB9 := Aside0.mk b9; clear b))) | fail)
          all_goals
            go_wp2
            go_meet
            exact ⟨by first | rfl | rw [decide_eq_true hcm], HB9⟩
        · obtain rfl : TB = false := by have h := HTB.out.out; rw [decide_eq_false hcm] at h; simpa using h
          (first | (go_region_held3 (fun W => W.cell? ⟨g3, 0, none⟩ = some (.int .i64 x.f0) ∧ W.cell? ⟨g3, 1, none⟩ = some (.int .u64 x.f1) ∧ W.cell? ⟨g3, 2, none⟩ = some (.int .i64 x.f2) ∧ W.cell? ⟨g3, 3, none⟩ = some (.string x.f3) ∧ W.cell? ⟨g3, 4, none⟩ = some (.slice A4 x.f4.length c4) ∧ W.cell? ⟨g3, 5, none⟩ = some (.slice A5 x.f5.length c5) ∧ W.cell? ⟨g4, 0, none⟩ = some (.int .i64 a) ∧ W.cell? ⟨g4, 1, none⟩ = some (.int .i64 b) ∧ W.cell? ⟨g4, 2, none⟩ = some (.bool s2) ∧ W.cell? ⟨g4, 3, none⟩ = some (.bool s3) ∧ W.cell? ⟨g4, 4, none⟩ = some (.bool s4) ∧ W.cell? ⟨g4, 5, none⟩ = some (.bool s5) ∧ W.cell? ⟨g4, 6, none⟩ = some (.slice A6 more.length c6)) (with_reducible (apply CF.out; assumption)) (first |(go_at_call 6; refine Calls.mono (R6.out _ (HB4.out.trans (Below.mono ‹Below w4.heap.size w4 _› HB4.out.size))) ?_; rintro e w9 ⟨rfl, b⟩; have b9 : Below w4.heap.size w4 w9 := Below.trans ‹_› (b.mono (Below.size ‹Below w4.heap.size w4 _›)); have HB9 := Aside0.mk b9; clear b) | (go_at_call 7; refine Calls.mono (R7.out _ (HB4.out.trans (Below.mono ‹Below w4.heap.size w4 _› HB4.out.size))) ?_; rintro e w9 ⟨rfl, b⟩; have b9 : Below w4.heap.size w4 w9 := Below.trans ‹_› (b.mono (Below.size ‹Below w4.heap.size w4 _›)); have HB9 := Aside0.mk b9; clear b) | (go_at_call 8; refine Calls.mono (R8.out _ (HB4.out.trans (Below.mono ‹Below w4.heap.size w4 _› HB4.out.size))) ?_; rintro e w9 ⟨rfl, b⟩; have b9 : Below w4.heap.size w4 w9 := Below.trans ‹_› (b.mono (Below.size ‹Below w4.heap.size w4 _›)); have HB9 := Aside0.mk b9; clear b))) | fail)
          all_goals
            go_wp2
            go_meet
            exact ⟨by first | rfl | rw [decide_eq_false (show ¬ (49 : Int) < (cn : Int) + (more.length : Int) by omega)], HB9⟩
  case rest =>
    obtain ⟨rfl, HBc⟩ := hcut
    cases TB with
    | true =>
      go_wp2
      go_ret
      exact ⟨rfl, HB4.out.trans (HBc.out.mono HB4.out.size)⟩
    | false =>
    obtain ⟨ht6, ht7, htp⟩ := all_fine HTB.out.out
    have hcnt : ¬ 49 < (cn : Int) + (more.length : Int) := of_decide_eq_false htp
    have hff := F6.out.out ht6
    have hw := HW7.out.out ht7
    obtain ⟨aN, rfl⟩ : ∃ aN : Nat, a = (aN : Int) := ⟨a.toNat, by have := hw.o1; omega⟩
    obtain ⟨bN, rfl⟩ : ∃ bN : Nat, b = (bN : Int) := ⟨b.toNat, by have := hw.i1; omega⟩
    obtain ⟨size, v2, hput, hd⟩ := put_variant n x HX.out hff.1 hff.2 aN bN s2 s3 s4 s5 more hw (by have := HCN.out; omega)
    have HM := Aside0.mk (MD.of_dict hd)
    have HD := Aside0.mk hd
    have HN := Aside0.mk (meta_len s5 size (dict n x s5 more))
    obtain ⟨K, hK⟩ : ∃ K, K = dict n x s5 more := ⟨_, rfl⟩
    rw [← hK] at hput HM HD HN
    obtain ⟨D, hDe⟩ : ∃ D, D = metaB s5 size K := ⟨_, rfl⟩
    rw [← hDe] at hput HM HN
    have R9 := Aside0.mk (R9.out D v2 _ (HB4.out.trans (HBc.out.mono HB4.out.size)) hput)
    clear hK hDe hput hd hw hff ht6 ht7 htp hcnt F6 HW7 HTB R4 R5 R6 R7 R8 HCN HX HN
    obtain ⟨p0, p1, p2, p3, p4, p5, q0, q1, q2, q3, q4, q5, q6⟩ := CF.out _ HBc.out
    go_upto_region 6 with (go_at_call 9; refine Calls.mono R9.out ?_; rintro e w7 ⟨v7, v8, rfl, r1, r2, bb⟩; have R1 := Aside0.mk r1; have B7 := Aside0.mk (HBc.out.trans (bb.mono HBc.out.size)); clear r1 r2 bb)
    obtain ⟨Am, cm, rfl, hcm, _⟩ := Kd.R_reads R1.out
    have C7 := Aside0.mk (R_in R1.out)
    have R10 := Aside0.mk (keys10 Am D.length cm D s5 size K HM.out w7 C7.out hcm)
    have few := HM.out.few
    have fewI : (K.length : Int) ≤ 49 := by omega
    obtain ⟨SI, hSI⟩ : ∃ SI : Int, SI = ((size : Nat) : Int) := ⟨_, rfl⟩
    obtain ⟨NI, hNI⟩ : ∃ NI : Int, NI = ((D.length : Nat) : Int) := ⟨_, rfl⟩
    have R11 := Aside0.mk (fun W hW => keys11 Am D.length cm D s5 size K HM.out W (Kd.C_below C7.out hW) hcm)
    have R12 := Aside0.mk (fun W hW => ids12 Am D.length cm D s5 size K HM.out key (by omega) (fun h => ⟨HD.out.nodup, HD.out.sorted h⟩) W (Kd.C_below C7.out hW) hcm)
    rw [← hSI, ← hNI] at R10 R11
    clear hSI hNI hcm
    clear p0 p1 p2 p3 p4 p5 q0 q1 q2 q3 q4 q5 q6 R9
    go_upto_region 7 with (go_at_call 10; refine Calls.mono R10.out ?_; rintro e w8 ⟨v, rfl, r1, bb⟩; obtain ⟨Ak, ck, rfl, hck, r2⟩ := Kd.R_reads r1; have C8 := Aside0.mk r2; have E8 := Aside0.mk bb; clear r1 r2 bb)
    clear R10
    go_upto_region 8 with (go_at_call 11; refine Calls.mono (R11.out _ E8.out) ?_; rintro e w9 ⟨v, rfl, r1, bb⟩; obtain ⟨Al, cl, rfl, hcl, r2⟩ := Kd.R_reads r1; have C9 := Aside0.mk r2; have D9 := Aside0.mk (Kd.C_below C8.out bb); have E9 := Aside0.mk (E8.out.trans (bb.mono E8.out.size)); clear r1 r2 bb)
    clear C8 E8 R11
    go_upto_region 11 with fail
    go_wp2
    go_loopg [20, 113] K.length (fun kq v20 v113 w' => ∃ (i : Nat), v113 = .int .i64 (i : Int) ∧ Aside0 (kq + i = K.length) ∧ Aside0 (Kd.R (Kd.int .i64) 3 w' w9.heap.size (fun _ => True) v20 (idsOf K key i)) ∧ Aside0 (Below w9.heap.size w9 w'))
    case atStart => exact ⟨0, rfl, ⟨by omega⟩, ⟨Kd.R_nil _ _ _ _ _⟩, ⟨Below.refl _ _⟩⟩
    case round =>
      obtain ⟨i, rfl, HJ, HR, HB⟩ := hrel
      obtain ⟨Aw, cw, rfl, hcw, _⟩ := Kd.R_reads HR.out
      have hil := idsOf_len K key i
      by_cases hi : i < K.length
      · have hiI : (i : Int) < (K.length : Int) := by omega
        obtain ⟨ad, e1, hx⟩ := Kd.at_string D9.out (i : Int) (by omega) hiI
        obtain ⟨ae, e2, hy⟩ := Kd.at_string C9.out (i : Int) (by omega) hiI
        cases e1
        cases e2
        rw [rdOf_at _ _ hi, Int.toNat_natCast] at hx hy
        obtain ⟨s, hs⟩ : ∃ s, s = K[i] := ⟨_, rfl⟩
        have hse : idsOf K key (i + 1) = if s = key then idsOf K key i ++ [(i : Int)] else idsOf K key i := by rw [hs]; exact idsOf_succ K key i hi
        rw [← hs] at hx hy
        have hx := pw_cell_below HB.out hx
        have hy := pw_cell_below HB.out hy
        by_cases hk : s = key
        · have HS := Aside0.mk (show idsOf K key (i + 1) = idsOf K key i ++ [(i : Int)] from by rw [hse, if_pos hk])
          have hke : (s.toList == key.toList) = true := by rw [hk]; exact beq_self_eq_true _
          clear hs hse hk
          go_wp2_with ((with_reducible refine gate_builtin (b := .append) (xs := #[.tmp 127, .tmp 129]) rfl ?_); at_builtin; refine Kd.R_append (Kd.int .i64) (w0 := w9) w9.heap.size rfl (.tmp 127) (.tmp 129) 41 3 (.int .i64 0) 8 rfl Tryd.underlying41 info3 rfl (by decide) (by omega) (.slice Aw (idsOf K key i).length cw) (idsOf K key i) (i : Int) [.int .i64 (i : Int)] (fun _ => True) (fun _ => False) rfl rfl ?aP (fun _ hk => hk.elim) ?aF ?aO ?aB ?aS ?aL ?_; (case aP => exact rfl); (case aB => exact HB.out); (case aF => exact (fun _ _ => trivial)); (case aO => exact HR.out); (case aS => exact HB.out.size); (case aL => omega); intro v1 w15 ho hb hg hat; have HR9 := Aside0.mk ho; have HB9 := Aside0.mk hb; clear ho hb hg hat)
          go_roundg (gk - 1)
          case measure => have := HJ.out; omega
          case rel => exact ⟨i + 1, by go_num, ⟨by have := HJ.out; omega⟩, ⟨by rw [HS.out]; exact HR9.out⟩, HB9⟩
        · have HS := Aside0.mk (show idsOf K key (i + 1) = idsOf K key i from by rw [hse, if_neg hk])
          have hke : (s.toList == key.toList) = false := by
            rw [← Bool.not_eq_true, beq_iff_eq]
            exact fun h => hk (bytes_inj.1 h)
          clear hs hse hk
          go_wp2
          go_roundg (gk - 1)
          case measure => have := HJ.out; omega
          case rel => exact ⟨i + 1, by go_num, ⟨by have := HJ.out; omega⟩, ⟨by rw [HS.out]; exact HR.out⟩, HB⟩
      · have hiI : ¬ (i : Int) < (K.length : Int) := by omega
        have hiK : i = K.length := by have := HJ.out; omega
        subst hiK
        obtain ⟨L, hL⟩ : ∃ L, L = idsOf K key K.length := ⟨_, rfl⟩
        have R13 := Aside0.mk (R12.out wr (E9.out.trans (HB.out.mono E9.out.size)))
        rw [← hL] at HR R13 hil ⊢
        clear hL R12
        go_upto_region 20 with (go_at_call 12; refine Calls.mono R13.out ?_; rintro e w10 ⟨v, rfl, r1, bb⟩; obtain ⟨Ai, ci, rfl, hci, r2⟩ := Kd.R_reads r1; have C10 := Aside0.mk r2; have B10 := Aside0.mk bb; clear r1 r2 bb)
        obtain ⟨Av, cv, e0, _, hv⟩ := Kd.R_reads HR.out
        injection e0 with e1 e2 e3
        subst e1 e3
        have CW := Aside0.mk (Kd.C_below hv B10.out)
        have HF := Aside0.mk (E9.out.trans ((HB.out.trans (B10.out.mono HB.out.size)).mono E9.out.size))
        have hLI : (L.length : Int) ≤ 49 := by omega
        clear hv
        go_wp2
        go_loopg [149] L.length (fun kq v149 w' => ∃ (j : Nat), v149 = .int .i64 (j : Int) ∧ Aside0 (kq + j = L.length) ∧ Aside0 (Below w10.heap.size w10 w'))
        case atStart => exact ⟨0, rfl, ⟨by omega⟩, ⟨Below.refl _ _⟩⟩
        case round =>
          obtain ⟨j, rfl, HJ2, HB2⟩ := hrel
          by_cases hj : j < L.length
          · have hjI : (j : Int) < (L.length : Int) := by omega
            obtain ⟨ad, e1, hx⟩ := Kd.at_int CW.out (j : Int) (by omega) hjI
            obtain ⟨ae, e2, hy⟩ := Kd.at_int C10.out (j : Int) (by omega) hjI
            cases e1
            cases e2
            rw [Int.toNat_natCast] at hx hy
            obtain ⟨z, hz⟩ : ∃ z, z = rd L (j : Int) := ⟨_, rfl⟩
            rw [← hz] at hx hy
            clear hz
            have hx := pw_cell_below HB2.out hx
            have hy := pw_cell_below HB2.out hy
            go_upto_region 25 with fail
            go_quiet (fail)
            go_wp2
            go_roundg (gk - 1)
            case measure => have := HJ2.out; omega
            case rel => exact ⟨j + 1, by go_num, ⟨by have := HJ2.out; omega⟩, ⟨pw_below_drewN HB2.out _⟩⟩
          · have hjI : ¬ (j : Int) < (L.length : Int) := by omega
            go_wp2
            go_ret
            exact ⟨rfl, HB4.out.trans ((B7.out.trans ((HF.out.trans (HB2.out.mono HF.out.size)).mono B7.out.size)).mono HB4.out.size)⟩

end Go.Proofs.YtobhegbhljbjhaaDoor.Vk
