/- What the walks share. spec.collect. spec.fewNodes. spec.VariantFits, in plain terms. spec.VariantFits. What fits; KeyCount. put: its parts. -/
import Derived.Test.YtobhegbhljbjhaaDoorMVkSx
import Derived.Test.YtobhegbhljbjhaaDoorKa
import Derived.Laws.EntriesVeiled
import Derived.StillTailTactics
namespace Go.Proofs.YtobhegbhljbjhaaDoor.Vk
set_option linter.unusedVariables false
set_option linter.unusedSimpArgs false
open Go.RowKit Go.IntWalk Go.Proofs.YtobhegbhljbjhaaDoorW.PrintWords Go.Proofs.YtobhegbhljbjhaaDoorW.PrintLast Go.Proofs.YtobhegbhljbjhaaDoorW.PrintMore Go.Proofs.YtobhegbhljbjhaaDoor.MVkS
attribute [local go_sem] max2_int min2_int max_two min_two max_three min_three max_four min_four
/-! ## Variants -/
/-- A variant has at most so many levels. -/
def dep : Nat → S26 → Prop
  | 0, _ => False
  | n + 1, x => ∀ u ∈ x.f5, dep n u
/-- The keys of a variant in the order in which they are met. -/
def flat : Nat → S26 → List ByteArray
  | 0, _ => []
  | n + 1, x => x.f4 ++ x.f5.flatMap (flat n)
/-- What VariantFits leaves: short texts and keys, few of them. -/
def fine : Nat → S26 → Prop
  | 0, _ => True
  | n + 1, x => x.f3.size ≤ 4096 ∧ x.f4.length ≤ 500 ∧ (∀ k ∈ x.f4, k.size ≤ 200) ∧ x.f5.length ≤ 500 ∧ ∀ u ∈ x.f5, fine n u
theorem fine_flat : ∀ (n : Nat) (v : S26), fine n v → ∀ k ∈ flat n v, k.size ≤ 200
  | 0, _, _, k, hk => by cases hk
  | n + 1, v, h, k, hk => by
    unfold flat at hk
    rcases List.mem_append.1 hk with h1 | h1
    · exact h.2.2.1 k h1
    · obtain ⟨u, hu, h2⟩ := List.mem_flatMap.1 h1
      exact fine_flat n u (h.2.2.2.2 u hu) k h2
theorem keys_flat (n : Nat) (v : S26) : ∀ k ∈ v.f4, k ∈ flat (n + 1) v := fun k hk => List.mem_append_left _ hk
theorem kid_flat {n : Nat} {v u : S26} (h : u ∈ v.f5) : ∀ k ∈ flat n u, k ∈ flat (n + 1) v := fun k hk => List.mem_append_right _ (List.mem_flatMap.2 ⟨u, h, hk⟩)
theorem dep_size : ∀ (n : Nat) (x : S26), SizeOf.sizeOf x ≤ n → dep n x
  | 0, x, h => by cases x; simp at h
  | n + 1, x, h => by
    intro u hu
    refine dep_size n u ?_
    have h1 := List.sizeOf_lt_of_mem hu
    have h2 : SizeOf.sizeOf x.f5 < SizeOf.sizeOf x := by cases x; simp; omega
    omega
theorem bytes_inj {a b : ByteArray} : a.toList = b.toList ↔ a = b := by
  constructor
  · intro h
    have e : ∀ x : ByteArray, x.toList = x.data.toList := fun x => by simp [ByteArray.toList_eq]
    rw [e, e] at h
    cases a; cases b
    simp at h
    rw [h]
  · rintro rfl; rfl
instance : DecidableEq ByteArray := fun a b => decidable_of_iff (a.toList = b.toList) bytes_inj
def memDec {α : Type} [DecidableEq α] (s : α) (l : List α) : Decidable (s ∈ l) := inferInstance
instance (s : ByteArray) (l : List ByteArray) : Decidable (s ∈ l) := memDec s l
/-- hasText, in plain terms. -/
theorem has_text (s : ByteArray) (l : List ByteArray) (hl : l.length ≤ 1000000000000) : ∀ (m i : Nat), i + m = l.length → spec_hasText.l0 (m + 1) s l (l.length : Int) (i : Int) = some (decide (s ∈ l.drop i))
  | 0, i, h => by
    unfold spec_hasText.l0
    rw [if_neg (by omega), List.drop_eq_nil_of_le (by omega)]
    simp
  | m + 1, i, h => by
    unfold spec_hasText.l0
    rw [if_pos (by omega), if_pos (by omega), if_pos (by omega)]
    have hi : i < l.length := by omega
    have e : rdOf ByteArray.empty l (i : Int) = l[i] := by
      unfold rdOf
      rw [Int.toNat_natCast, List.getD_eq_getElem?_getD, List.getElem?_eq_getElem hi]
      rfl
    rw [e, List.drop_eq_getElem_cons hi]
    by_cases hs : l[i].toList = s.toList
    · rw [if_pos hs]
      congr 1
      refine (decide_eq_true ?_).symm
      rw [bytes_inj.1 hs]
      exact List.mem_cons_self
    · rw [if_neg hs, show wrap64 ((i : Int) + 1) = ((i + 1 : Nat) : Int) by unfold wrap64; omega, has_text s l hl m (i + 1) (by omega)]
      congr 1
      apply decide_eq_decide.2
      rw [List.mem_cons]
      constructor
      · exact .inr
      · rintro (h1 | h1)
        · exact absurd (by rw [h1]) hs
        · exact h1
theorem hasText_f (s : ByteArray) (l : List ByteArray) (hl : l.length ≤ 1000000000000) : spec_hasText.f (l.length + 1) l s = some (decide (s ∈ l)) := by
  have h := has_text s l hl l.length 0 (by omega)
  rw [List.drop_zero] at h
  exact h
theorem hasText18 (A : Option Addr) (c : Nat) (l : List ByteArray) (s : ByteArray) (w : World) (h : Kd.C Kd.string w A l.length l) (hc : l.length ≤ c) (hl : l.length ≤ 1000000000000) :
    Calls Tryd.prog 18 #[.slice A l.length c, .string s] w fun e w' => e = .returned (.bool (decide (s ∈ l))) ∧ Drawn0 w w' :=
  spec_hasText.calls _ A c l s _ w h hc (hasText_f s l hl)
/-- A row of the call's own, taken from the caller and handed back. -/
structure Took (w0 w w' : World) (u v : Value) (out : List ByteArray) : Prop where
  row : Kd.R Kd.string 9 w' w0.heap.size (fun _ => True) v out
  below : Below w0.heap.size w0 w'
  kept : Kept w w' (fun k => some k = u.ownBlock)
  own : v.ownBlock = u.ownBlock ∨ ∀ k, v.ownBlock = some k → w.heap.size ≤ k
theorem Took.moved {w0 w W W1 : World} {u v : Value} {L : List ByteArray} (h : Took w0 w W u v L) (hb : Below W.heap.size W W1) : Took w0 w W1 u v L :=
  ⟨Kd.R_below h.row hb, h.below.trans (hb.mono h.below.size), h.kept.below hb, h.own⟩
theorem Took.grow {w0 w W W1 : World} {u v v1 : Value} {L M : List ByteArray} (h : Took w0 w W u v L) (hr : Kd.R Kd.string 9 W1 w0.heap.size (fun _ => True) v1 M) (hb : Below w0.heap.size w0 W1) (hg : W.grownBy W1 v.ownBlock) (hat : v1.ownBlock = v.ownBlock ∨ ∃ b, v1.ownBlock = some b ∧ W.heap.size ≤ b) : Took w0 w W1 u v1 M := by
  refine ⟨hr, hb, h.kept.of_grown hg ?_, ?_⟩
  · intro k hk
    rcases h.own with e | e
    · exact .inl (by rw [← e]; exact hk.symm)
    · exact .inr (e k hk)
  · rcases hat with e | ⟨b, e, hge⟩
    · rw [e]; exact h.own
    · refine .inr fun k hk => ?_
      rw [e] at hk
      cases hk
      exact Nat.le_trans h.kept.1 hge
theorem Took.then_ {w0 w W W2 : World} {u v v2 : Value} {L M : List ByteArray} (h : Took w0 w W u v L) (k : Took w0 W W2 v v2 M) : Took w0 w W2 u v2 M := by
  refine ⟨k.row, k.below, h.kept.then_ k.kept ?_, ?_⟩
  · intro b hb
    rcases h.own with e | e
    · exact .inl (by rw [← e]; exact hb)
    · exact .inr (e b hb.symm)
  · rcases k.own with e | e
    · rw [e]; exact h.own
    · exact .inr fun b hb => Nat.le_trans h.kept.1 (e b hb)
theorem addAll_snoc {α : Type} [DecidableEq α] (l : List α) (k : α) (out : List α) : addAll (l ++ [k]) out = if k ∈ addAll l out then addAll l out else addAll l out ++ [k] := by
  rw [addAll_append, addAll, addAll]
theorem take_snoc {α : Type} (l : List α) (i : Nat) (h : i < l.length) : l.take (i + 1) = l.take i ++ [l[i]] := by
  rw [List.take_add_one, List.getElem?_eq_getElem h]
  rfl
theorem rdOf_at (l : List ByteArray) (i : Nat) (h : i < l.length) : rdOf ByteArray.empty l (i : Int) = l[i] := by
  unfold rdOf
  rw [Int.toNat_natCast, List.getD_eq_getElem?_getD, List.getElem?_eq_getElem h]
  rfl
theorem rdT_at (l : List S26) (i : Nat) (h : i < l.length) : rd_T26 l (i : Int) = l[i] := by
  unfold rd_T26
  rw [Int.toNat_natCast, List.getD_eq_getElem?_getD, List.getElem?_eq_getElem h]
  rfl
theorem info9 : (Tryd.prog.info? 9).map (fun i => (i.zero, i.size, i.bytes)) = some (some (.string ⟨#[]⟩), 1, 16) := by kernel_rfl
set_option maxHeartbeats 8000000 in
set_option maxRecDepth 100000 in
theorem collect17 : ∀ (n : Nat) (x : S26), dep n x → ∀ (A4 : Option Addr) (c4 : Nat) (A5 : Option Addr) (c5 : Nat) (w0 w : World) (h4 : Kd.string.C w0 A4 x.f4.length x.f4) (h5 : k26.C w0 A5 x.f5.length x.f5)
    (hB : Below w0.heap.size w0 w) (u : Value) (out : List ByteArray) (ho : Kd.R Kd.string 9 w w0.heap.size (fun _ => True) u out) (hl : (addAll (flat n x) out).length < 1000000000000),
    Calls Tryd.prog 17 #[.agg #[.int .i64 x.f0, .int .u64 x.f1, .int .i64 x.f2, .string x.f3, .slice A4 x.f4.length c4, .slice A5 x.f5.length c5], u] w fun e w' => ∃ v, e = .returned v ∧ Took w0 w w' u v (addAll (flat n x) out)
  | 0, x, h, _, _, _, _, _, _, _, _, _, _, _, _, _ => h.elim
  | n + 1, x, hx, A4, c4, A5, c5, w0, w, h4, h5, hB, u, out, ho, hl => by
    have IH := Aside0.mk (collect17 n)
    have HX := Aside0.mk hx
    have H4 := Aside0.mk h4
    have H5 := Aside0.mk h5
    have HB := Aside0.mk hB
    have HO := Aside0.mk ho
    have HL := Aside0.mk hl
    have hn4 : x.f4.length ≤ 9223372036854775807 := h4.2.1
    have hn5 : x.f5.length ≤ 9223372036854775807 := h5.2.1
    clear hx h4 h5 hB ho hl
    go_enter Tryd.func17, Tryd.ntmps17
    go_wp2_with (first | ((with_reducible refine gate_dst (N := 2) rfl ?_); refine box_event ?hg (N := 2) ?hd (cs := #[.int .i64 x.f0, .int .u64 x.f1, .int .i64 x.f2, .string x.f3, .slice A4 x.f4.length c4, .slice A5 x.f5.length c5]) (t := 26) ?hr ?_; (case hd => rfl); (case hg => rfl); (case hr => first | (go_simp; done) | (go_simp; rfl)); intro gb hg w3 hbox hb; have BK := Aside0.mk hbox; have HG := Aside0.mk hg; have HB3 := Aside0.mk hb; clear hb hbox hg; have hc4 : w3.cell? ⟨gb, 4, none⟩ = some (.slice A4 x.f4.length c4) := (blk_cell BK.out 4).trans rfl))
    go_loopg [1, 12] x.f4.length (fun kq v1 v12 w' => ∃ (i : Nat) (L : List ByteArray), v12 = .int .i64 (i : Int) ∧ Aside0 (kq + i = x.f4.length) ∧ Aside0 (L = addAll (x.f4.take i) out) ∧ Aside0 (Took w0 w w' u v1 L) ∧ Aside0 (w'.heap[gb]? = some (.cells #[.int .i64 x.f0, .int .u64 x.f1, .int .i64 x.f2, .string x.f3, .slice A4 x.f4.length c4, .slice A5 x.f5.length c5] 26 (0, 0))))
    case atStart => exact ⟨0, out, rfl, ⟨by omega⟩, ⟨rfl⟩, ⟨Took.moved ⟨HO.out, HB.out, Kept.refl _ _, .inl rfl⟩ HB3.out⟩, BK⟩
    case round =>
      clear BK HB3 HG hc4
      obtain ⟨i, L, rfl, HJ, HLL, HT, BK⟩ := hrel
      by_cases hi : i < x.f4.length
      · have hiI : (i : Int) < (x.f4.length : Int) := by omega
        have hlim : L.length < 1000000000000 := by
          have h1 := HL.out
          have h2 := HLL.out
          unfold flat at h1
          rw [addAll_append] at h1
          have h3 := addAll_ge (x.f5.flatMap (flat n)) (addAll x.f4 out)
          have h4 := addAll_ge (x.f4.drop i) (addAll (x.f4.take i) out)
          rw [← addAll_append, List.take_append_drop] at h4
          rw [h2]
          omega
        have HLIM := Aside0.mk hlim
        obtain ⟨ad, e, hx0⟩ := Kd.at_string H4.out (i : Int) (by omega) hiI
        cases e
        rw [rdOf_at _ _ hi] at hx0
        have hxr := (HT.out.below.cell (World.block_lt_of_cell? w0 _ hx0)).trans hx0
        rw [Int.toNat_natCast] at hxr
        clear hx0
        obtain ⟨s, hs⟩ : ∃ s, s = x.f4[i] := ⟨_, rfl⟩
        have HS := Aside0.mk hs
        rw [← hs] at hxr
        clear hs hlim
        obtain ⟨Ao, co, ev, hco, hro⟩ := Kd.R_reads HT.out.row
        subst ev
        have HH := Aside0.mk (hasText18 Ao co L s _ hro hco (by have := HLIM.out; omega))
        clear hro hco
        by_cases hm : s ∈ L
        · have hd : decide (s ∈ L) = true := decide_eq_true hm
          have HM := Aside0.mk hm
          clear hm
          rw [hd] at HH
          clear hd
          go_wp2_with (go_at_call 18; refine Calls.mono HH.out ?_; rintro r w9 ⟨rfl, ⟨q, rfl⟩⟩)
          go_roundg (gk - 1)
          case measure => have := HJ.out; omega
          case rel => exact ⟨i + 1, L, by go_num, ⟨by have := HJ.out; omega⟩, ⟨by rw [take_snoc _ _ hi, addAll_snoc, ← HS.out, ← HLL.out, if_pos HM.out]⟩, ⟨HT.out.moved (pw_below_drewN (Below.refl _ _) _)⟩, ⟨blk_drewN BK.out _⟩⟩
        · have hd : decide (s ∈ L) = false := decide_eq_false hm
          have HM := Aside0.mk hm
          clear hm
          rw [hd] at HH
          clear hd
          go_wp2_with (first | (go_at_call 18; refine Calls.mono HH.out ?_; rintro r w9 ⟨rfl, ⟨q, rfl⟩⟩) | ((with_reducible refine gate_builtin (b := .append) (xs := #[.tmp 20, .tmp 22]) rfl ?_); at_builtin; refine Kd.R_append Kd.string (w0 := w0) w0.heap.size rfl (.tmp 20) (.tmp 22) 23 9 (.string ⟨#[]⟩) 16 rfl Tryd.underlying23 info9 rfl (by decide) (by omega) (.slice Ao L.length co) L s [.string s] (fun _ => True) (fun _ => False) rfl rfl ?aP (fun _ hk => hk.elim) ?aF ?aO ?aB ?aS ?aL ?_; (case aP => exact rfl); (case aB => exact pw_below_drewN HT.out.below _); (case aF => exact (fun _ _ => trivial)); (case aO => exact Kd.R_drewN HT.out.row _); (case aS => exact HT.out.below.size); (case aL => have := HLIM.out; omega); intro v1 w15 ho hb hg hat; have HT2 := Aside0.mk (Took.grow (Took.moved HT.out (pw_below_drewN (Below.refl _ _) q)) ho hb hg hat); have BK2 := Aside0.mk (blk_grown (blk_drewN BK.out q) hg (Kd.R_ne HT.out.row BK.out (by decide))); clear ho hb hg hat))
          go_roundg (gk - 1)
          case measure => have := HJ.out; omega
          case rel => exact ⟨i + 1, L ++ [s], by go_num, ⟨by have := HJ.out; omega⟩, ⟨by rw [take_snoc _ _ hi, addAll_snoc, ← HS.out, ← HLL.out, if_neg HM.out]⟩, HT2, BK2⟩
      · have hiI : ¬ (i : Int) < (x.f4.length : Int) := by omega
        have HLL2 := Aside0.mk (show L = addAll x.f4 out by rw [HLL.out, List.take_of_length_le (by omega)])
        have hc5 := (blk_cell BK.out 5).trans (show (#[.int .i64 x.f0, .int .u64 x.f1, .int .i64 x.f2, .string x.f3, .slice A4 x.f4.length c4, .slice A5 x.f5.length c5] : Array Value)[5]? = some (.slice A5 x.f5.length c5) from rfl)
        clear hi HJ HLL
        go_wp2
        go_loopg [1, 28] x.f5.length (fun kq v1 v28 w' => ∃ (i : Nat) (L : List ByteArray), v28 = .int .i64 (i : Int) ∧ Aside0 (kq + i = x.f5.length) ∧ Aside0 (L = addAll ((x.f5.take i).flatMap (flat n)) (addAll x.f4 out)) ∧ Aside0 (Took w0 w w' u v1 L))
        case atStart => exact ⟨0, L, rfl, ⟨by omega⟩, HLL2, HT⟩
        case round =>
          clear HT BK HLL2 hc5 hiI
          obtain ⟨i, L, rfl, HJ, HLL, HT⟩ := hrel
          by_cases hi : i < x.f5.length
          · have hiI : (i : Int) < (x.f5.length : Int) := by omega
            obtain ⟨y, hy⟩ : ∃ y, y = x.f5[i] := ⟨_, rfl⟩
            have hdep : dep n y := by rw [hy]; exact HX.out _ (List.getElem_mem hi)
            have hlim : (addAll (flat n y) L).length < 1000000000000 := by
              have h1 := HL.out
              have h2 := HLL.out
              unfold flat at h1
              have e : x.f5 = x.f5.take i ++ (y :: x.f5.drop (i + 1)) := by rw [hy, ← List.drop_eq_getElem_cons hi, List.take_append_drop]
              rw [addAll_append, e, List.flatMap_append, List.flatMap_cons, addAll_append, addAll_append, ← h2] at h1
              exact Nat.lt_of_le_of_lt (addAll_ge _ _) h1
            have hnext : addAll (flat n y) L = addAll ((x.f5.take (i + 1)).flatMap (flat n)) (addAll x.f4 out) := by
              rw [HLL.out, take_snoc _ _ hi, List.flatMap_append, addAll_append, hy]
              simp
            have HNX := Aside0.mk hnext
            obtain ⟨ad, B4, d4, B5, d5, e, g0, g1, g2, g3, g4, g5, l4, q4, l5, q5⟩ := at_T26 H5.out (i : Int) (by omega) hiI
            cases e
            rw [rdT_at _ _ hi, ← hy] at g0 g1 g2 g3 g4 g5 l4 q4 l5 q5
            rw [Int.toNat_natCast] at g0 g1 g2 g3 g4 g5
            clear hy hnext
            have STEP := Aside0.mk (show ∀ W, Below wr.heap.size wr W → Calls Tryd.prog 17 #[.agg #[.int .i64 y.f0, .int .u64 y.f1, .int .i64 y.f2, .string y.f3, .slice B4 y.f4.length d4, .slice B5 y.f5.length d5], u1] W fun e w' => ∃ v, e = .returned v ∧ Took w0 W w' u1 v (addAll (flat n y) L) from fun W hW => IH.out y hdep B4 d4 B5 d5 w0 W q4 q5 (HT.out.moved hW).below u1 L (HT.out.moved hW).row hlim)
            clear hdep hlim l4 q4 l5 q5
            replace g0 := (HT.out.below.cell (World.block_lt_of_cell? w0 _ g0)).trans g0
            replace g1 := (HT.out.below.cell (World.block_lt_of_cell? w0 _ g1)).trans g1
            replace g2 := (HT.out.below.cell (World.block_lt_of_cell? w0 _ g2)).trans g2
            replace g3 := (HT.out.below.cell (World.block_lt_of_cell? w0 _ g3)).trans g3
            replace g4 := (HT.out.below.cell (World.block_lt_of_cell? w0 _ g4)).trans g4
            replace g5 := (HT.out.below.cell (World.block_lt_of_cell? w0 _ g5)).trans g5
            go_wp2_with (first | ((with_reducible refine gate_dst (N := 8) rfl ?_); (try (refine gate_guard (by rfl) ?_; dsimp only)); refine box_event ?hg (N := 8) ?hd (cs := #[.int .i64 0, .int .u64 0, .int .i64 0, .string (⟨#[]⟩ : ByteArray), .slice none 0 0, .slice none 0 0]) (t := 26) ?hr ?_; (case hd => rfl); (case hg => rfl); (case hr => first | (go_simp; done) | (go_simp; rfl)); intro gb2 hg w55 hbox hb; have BK := Aside0.mk hbox; have HBB := Aside0.mk hb; have GE := Aside0.mk (show wr.heap.size ≤ gb2 by rw [hg]; exact Nat.le_refl _); clear hb hbox hg; have z0 : w55.cell? ⟨gb2, 0, none⟩ = some (.int .i64 0) := (blk_cell BK.out 0).trans rfl; have z1 : w55.cell? ⟨gb2, 1, none⟩ = some (.int .u64 0) := (blk_cell BK.out 1).trans rfl; have z2 : w55.cell? ⟨gb2, 2, none⟩ = some (.int .i64 0) := (blk_cell BK.out 2).trans rfl; have z3 : w55.cell? ⟨gb2, 3, none⟩ = some (.string (⟨#[]⟩ : ByteArray)) := (blk_cell BK.out 3).trans rfl; have z4 : w55.cell? ⟨gb2, 4, none⟩ = some (.slice none 0 0) := (blk_cell BK.out 4).trans rfl; have z5 : w55.cell? ⟨gb2, 5, none⟩ = some (.slice none 0 0) := (blk_cell BK.out 5).trans rfl; have f0 := blk_frozen BK.out 0; have f1 := blk_frozen BK.out 1; have f2 := blk_frozen BK.out 2; have f3 := blk_frozen BK.out 3; have f4 := blk_frozen BK.out 4; have f5 := blk_frozen BK.out 5) | (go_at_call 17; refine Calls.mono (STEP.out _ (by repeat (with_reducible first | exact HBB.out | refine below_set ?_ GE.out))) ?_; rintro r w9 ⟨v2, rfl, ht⟩; have HT2 := Aside0.mk (Took.then_ (HT.out.moved (by repeat (with_reducible first | exact HBB.out | refine below_set ?_ GE.out))) ht); clear ht))
            go_roundg (gk - 1)
            case measure => have := HJ.out; omega
            case rel => exact ⟨i + 1, _, by go_num, ⟨by have := HJ.out; omega⟩, HNX, HT2⟩
          · have hiI : ¬ (i : Int) < (x.f5.length : Int) := by omega
            have e : L = addAll (flat (n + 1) x) out := by
              rw [HLL.out, List.take_of_length_le (by omega)]
              unfold flat
              rw [addAll_append]
            subst e
            go_wp2
            go_ret
            exact ⟨_, rfl, HT.out⟩
def I64 (z : Int) : Prop := -9223372036854775808 ≤ z ∧ z < 9223372036854775808
theorem I64_wrap (z : Int) : I64 (wrap64 z) := by unfold I64 wrap64; omega
/-- How much is left, while fewNodes counts. -/
structure Few (w0 w w' : World) (lb : Nat) (L : Int) : Prop where
  cell : w'.heap[lb]? = some (.cells #[.int .i64 L] 3 (0, 0))
  range : I64 L
  below : Below w0.heap.size w0 w'
  kept : Kept w w' (fun k => k = lb)
theorem Few.moved {w0 w W W1 : World} {lb : Nat} {L : Int} (h : Few w0 w W lb L) (hb : Below W.heap.size W W1) : Few w0 w W1 lb L :=
  ⟨blk_below h.cell hb, h.range, h.below.trans (hb.mono h.below.size), h.kept.below hb⟩
theorem Few.set {w0 w W : World} {lb : Nat} {L : Int} (h : Few w0 w W lb L) (hlb : w0.heap.size ≤ lb) (E : Int) (hE : I64 E) : Few w0 w (W.setCell ⟨lb, 0, none⟩ (.int .i64 E)) lb E :=
  ⟨blk_put h.cell 0 _ rfl, hE, h.below.setCell hlb _, h.kept.setCell (p := ⟨lb, 0, none⟩) (.inl rfl) _⟩
theorem Few.then_ {w0 w W W2 : World} {lb : Nat} {L M : Int} (h : Few w0 w W lb L) (k : Few w0 W W2 lb M) : Few w0 w W2 lb M :=
  ⟨k.cell, k.range, k.below, h.kept.then_ k.kept (fun _ h2 => .inl h2)⟩
def FewR (n : Nat) (x : S26) (w0 w : World) (lb : Nat) (L : Int) (e : Ending) (w' : World) : Prop := ∃ (b : Bool) (L' : Int), e = .returned (.bool b) ∧ I64 L' ∧ w'.heap[lb]? = some (.cells #[.int .i64 L'] 3 (0, 0)) ∧ Below w0.heap.size w0 w' ∧ Kept w w' (fun k => k = lb) ∧ (fine n x → 0 ≤ L → L ≤ 20000 → b = true → 0 ≤ L' ∧ L' + nodes n x ≤ L)
theorem st_few {L m : Int} (h0 : -10000 ≤ L) (h1 : L ≤ 20000) (h2 : 0 ≤ m) (h3 : m ≤ 4096) : wrap64 (L - wrap64 (1 + wrap64 (m / 16))) = L - 1 - m / 16 := by
  have h4 : wrap64 (m / 16) = m / 16 := by unfold wrap64; omega
  rw [h4]
  have h5 : wrap64 (1 + m / 16) = 1 + m / 16 := by unfold wrap64; omega
  rw [h5]
  unfold wrap64
  omega
/-! ## VariantFits, in plain terms -/
/-- All texts are such as memory can hold. -/
def small : Nat → S26 → Prop
  | 0, _ => True
  | n + 1, x => x.f3.size ≤ 9223372036854775807 ∧ x.f4.length ≤ 9223372036854775807 ∧ (∀ k ∈ x.f4, k.size ≤ 9223372036854775807) ∧ x.f5.length ≤ 9223372036854775807 ∧ ∀ u ∈ x.f5, small n u
theorem in_some (a : Int) (l : List Int) (hl : l.length ≤ 1000) : ∀ (m i K : Nat), i + m = l.length → ∃ b, spec_in.l0 (m + 1 + K) a l (l.length : Int) (i : Int) = some b
  | 0, i, K, h => by
    rw [Nat.zero_add, Nat.add_comm 1 K]
    unfold spec_in.l0
    rw [if_neg (by omega)]
    exact ⟨_, rfl⟩
  | m + 1, i, K, h => by
    rw [show m + 1 + 1 + K = (m + 1 + K) + 1 by omega]
    unfold spec_in.l0
    rw [if_pos (by omega), if_pos (by omega), if_pos (by omega)]
    split
    · exact ⟨_, rfl⟩
    · rw [show wrap64 ((i : Int) + 1) = ((i + 1 : Nat) : Int) by unfold wrap64; omega]
      exact in_some a l hl m (i + 1) K (by omega)
theorem in_f (a : Int) (l : List Int) (hl : l.length ≤ 1000) (K : Nat) : ∃ b, spec_in.f (l.length + 1 + K) a l = some b := in_some a l hl l.length 0 K (by omega)
theorem narrow_some (a b : Int) (h0 : 0 ≤ b) (h : b ≤ 64) : ∃ r, spec_narrow.f a b = some r := by
  unfold spec_narrow.f spec_signed.f
  rw [if_pos (by unfold wrap64; omega)]
  exact ⟨_, rfl⟩
theorem well_some (s : ByteArray) (h : s.size ≤ 9223372036854775807) : ∃ b, spec_WellFormed.f s = some b := by
  unfold spec_WellFormed.f
  rw [if_pos h]
  exact ⟨_, rfl⟩
theorem j3_some (K : Nat) (x1 b : Bool) (a0 a1 a2 : Int) (a3 : ByteArray) (l4 : List ByteArray) (l5 : List S26) (h : b = true → a0 = 4 ∨ a0 = 5 ∨ a0 = 6 ∨ a0 = 7) : ∃ r, spec_flatFits.j3 (K + 1) x1 a0 b a0 a1 a2 a3 l4 l5 = some r := by
  rw [spec_flatFits.j3]
  cases b with
  | true =>
    rw [if_pos rfl]
    have key : ∀ c d : Int, 0 ≤ wrap64 (a0 - 4) → shl .i64 8 (wrap64 (a0 - 4)) = c → 0 ≤ c → c ≤ 64 → ∃ r, (if 0 ≤ (wrap64 (a0 - 4)) then ((spec_narrow.f a1 (shl .i64 8 (wrap64 (a0 - 4)))).bind fun t118 => (if t118 = true then (if x1 = true then (if (shl .i64 8 (wrap64 (a0 - 4))) = 8 then (some true) else ((spec_narrow.f a1 (wrap64 (Int.tdiv (shl .i64 8 (wrap64 (a0 - 4))) 2))).bind fun t119 => (some (!t119)))) else (some true)) else (some false))) else (none)) = some r := by
      intro c d h0 hc h1 h2
      rw [if_pos h0, hc]
      obtain ⟨r, hr⟩ := narrow_some a1 c h1 h2
      have hd : 0 ≤ Int.tdiv c 2 ∧ Int.tdiv c 2 ≤ 32 := by
        rw [Int.tdiv_eq_ediv_of_nonneg h1]
        omega
      obtain ⟨r2, hr2⟩ := narrow_some a1 (wrap64 (Int.tdiv c 2)) (by unfold wrap64; omega) (by unfold wrap64; omega)
      rw [hr, Option.bind_some, hr2]
      split
      · split
        · split
          · exact ⟨_, rfl⟩
          · exact ⟨_, rfl⟩
        · exact ⟨_, rfl⟩
      · exact ⟨_, rfl⟩
    rcases h rfl with e | e | e | e
    · subst e; exact key 8 0 (by decide +kernel) (by decide +kernel) (by decide) (by decide)
    · subst e; exact key 16 0 (by decide +kernel) (by decide +kernel) (by decide) (by decide)
    · subst e; exact key 32 0 (by decide +kernel) (by decide +kernel) (by decide) (by decide)
    · subst e; exact key 64 0 (by decide +kernel) (by decide +kernel) (by decide) (by decide)
  | false =>
    rw [if_neg (by decide)]
    obtain ⟨r, hr⟩ := narrow_some a1 32 (by decide) (by decide)
    rw [hr]
    repeat' split
    all_goals first | exact ⟨_, rfl⟩ | (simp only [Option.bind_some]; split <;> exact ⟨_, rfl⟩)
theorem j2_some (K : Nat) (x1 b : Bool) (a0 a1 a2 : Int) (a3 : ByteArray) (l4 : List ByteArray) (l5 : List S26) : ∃ r, spec_flatFits.j2 (K + 2) x1 a0 b a0 a1 a2 a3 l4 l5 = some r := by
  rw [spec_flatFits.j2]
  split
  · split <;> exact ⟨_, rfl⟩
  · split
    · exact ⟨_, rfl⟩
    · split
      · exact j3_some K x1 _ a0 a1 a2 a3 l4 l5 (fun _ => by omega)
      · split
        · exact j3_some K x1 _ a0 a1 a2 a3 l4 l5 (fun _ => by omega)
        · split
          · exact j3_some K x1 _ a0 a1 a2 a3 l4 l5 (fun _ => by omega)
          · exact j3_some K x1 _ a0 a1 a2 a3 l4 l5 (fun h => by have := eq_of_beq h; omega)
theorem j1_some (K : Nat) (x1 b : Bool) (a0 a1 a2 : Int) (a3 : ByteArray) (l4 : List ByteArray) (l5 : List S26) (hs : a3.size ≤ 9223372036854775807) : ∃ r, spec_flatFits.j1 (K + 3) x1 a0 b a0 a1 a2 a3 l4 l5 = some r := by
  rw [spec_flatFits.j1]
  obtain ⟨v, hv⟩ := well_some a3 hs
  rw [hv]
  split
  · exact ⟨_, rfl⟩
  · split
    · split <;> exact ⟨_, rfl⟩
    · split <;> exact j2_some K x1 _ a0 a1 a2 a3 l4 l5
theorem j0_some (K : Nat) (x1 b : Bool) (a0 a1 a2 : Int) (a3 : ByteArray) (l4 : List ByteArray) (l5 : List S26) (hs : a3.size ≤ 9223372036854775807) : ∃ r, spec_flatFits.j0 (K + 4) x1 b a0 a1 a2 a3 l4 l5 = some r := by
  rw [spec_flatFits.j0]
  split
  · exact ⟨_, rfl⟩
  · split
    · exact j1_some K x1 _ a0 a1 a2 a3 l4 l5 hs
    · split
      · exact j1_some K x1 _ a0 a1 a2 a3 l4 l5 hs
      · split <;> exact j1_some K x1 _ a0 a1 a2 a3 l4 l5 hs
theorem flat_some (K : Nat) (x1 : Bool) (a0 a1 a2 : Int) (a3 : ByteArray) (l4 : List ByteArray) (l5 : List S26) (hs : a3.size ≤ 9223372036854775807) : ∃ r, spec_flatFits.f (K + 5) a0 a1 a2 a3 l4 l5 x1 = some r := by
  unfold spec_flatFits.f
  obtain ⟨b1, e1⟩ := in_f a0 [8, 17, 12, 21] (by decide) K
  obtain ⟨b2, e2⟩ := in_f a0 [10, 11, 12] (by decide) (K + 1)
  have e1' : spec_in.f (K + 5) a0 [8, 17, 12, 21] = some b1 := by rw [← e1]; congr 1; simp; omega
  have e2' : spec_in.f (K + 5) a0 [10, 11, 12] = some b2 := by rw [← e2]; congr 1; simp; omega
  rw [e1', Option.bind_some, e2', Option.bind_some]
  have key : ∀ b, ∃ r, spec_flatFits.j0 (K + 5) x1 b a0 a1 a2 a3 l4 l5 = some r := fun b => j0_some (K + 1) x1 b a0 a1 a2 a3 l4 l5 hs
  repeat' split
  all_goals exact key _
theorem vf_mono {K K2 : Nat} (h : K ≤ K2) {a0 a1 a2 : Int} {a3 : ByteArray} {l4 : List ByteArray} {l5 : List S26} {s : Bool} {v : Int} {r : Bool} (e : spec_variantFits.f K a0 a1 a2 a3 l4 l5 s v = some r) : spec_variantFits.f K2 a0 a1 a2 a3 l4 l5 s v = some r := by
  induction K2 with
  | zero => rw [show K = 0 by omega] at e; exact e
  | succ K2 ih =>
    rcases Nat.lt_or_ge K (K2 + 1) with h1 | h1
    · exact spec_variantFits.mono a0 a1 a2 a3 l4 l5 s v K2 r (ih (by omega))
    · rw [show K2 + 1 = K by omega]; exact e
theorem vl1_mono {K K2 : Nat} (h : K ≤ K2) {x1 : Bool} {x2 : Int} {x101 : List S26} {x102 x103 y0 y1 y2 : Int} {y3 : ByteArray} {y4 : List ByteArray} {y5 : List S26} {r : Bool} (e : spec_variantFits.l1 K x1 x2 x101 x102 x103 y0 y1 y2 y3 y4 y5 = some r) : spec_variantFits.l1 K2 x1 x2 x101 x102 x103 y0 y1 y2 y3 y4 y5 = some r := by
  induction K2 with
  | zero => rw [show K = 0 by omega] at e; exact e
  | succ K2 ih =>
    rcases Nat.lt_or_ge K (K2 + 1) with h1 | h1
    · exact (spec_variantFits.mono_l K2).2.2.2.2 _ _ _ _ _ _ _ _ _ _ _ r (ih (by omega))
    · rw [show K2 + 1 = K by omega]; exact e
/-- The kids' loop: where each kid's answer is there, so is the loop's. -/
theorem vl1_some (n : Nat) (s : Bool) (v a0 a1 a2 : Int) (a3 : ByteArray) (l4 : List ByteArray) (l5 : List S26) (hs : a3.size ≤ 9223372036854775807) (hl : l5.length ≤ 9223372036854775807)
    (hk : ∀ u ∈ l5, ∃ K b, spec_variantFits.f K u.f0 u.f1 u.f2 u.f3 u.f4 u.f5 s (wrap64 (v - 1)) = some b ∧ (b = true → fine n u)) :
    ∀ (m i : Nat), i + m = l5.length → ∃ K b, spec_variantFits.l1 K s v l5 (l5.length : Int) (i : Int) a0 a1 a2 a3 l4 l5 = some b ∧ (b = true → ∀ u ∈ l5.drop i, fine n u)
  | 0, i, h => by
    obtain ⟨r, hr⟩ := flat_some 0 s a0 a1 a2 a3 l4 l5 hs
    refine ⟨6, r, ?_, fun _ u hu => by rw [List.drop_eq_nil_of_le (by omega)] at hu; cases hu⟩
    rw [spec_variantFits.l1, if_neg (by omega), hr]
    rfl
  | m + 1, i, h => by
    obtain ⟨K1, b1, e1, p1⟩ := vl1_some n s v a0 a1 a2 a3 l4 l5 hs hl hk m (i + 1) (by omega)
    have hi : i < l5.length := by omega
    obtain ⟨K2, b2, e2, p2⟩ := hk _ (List.getElem_mem hi)
    refine ⟨max K1 K2 + 1, b2 && b1, ?_, ?_⟩
    · rw [spec_variantFits.l1, if_pos (by omega), if_pos (by omega), if_pos (by omega), rdT_at _ _ hi, vf_mono (Nat.le_max_right K1 K2) e2, Option.bind_some, show wrap64 ((i : Int) + 1) = ((i + 1 : Nat) : Int) by unfold wrap64; omega, vl1_mono (Nat.le_max_left K1 K2) e1]
      cases b2 <;> rfl
    · intro hb u hu
      rw [Bool.and_eq_true] at hb
      rw [List.drop_eq_getElem_cons hi] at hu
      rcases List.mem_cons.1 hu with e | e
      · rw [e]; exact p2 hb.1
      · exact p1 hb.2 u e
/-- The keys' loop. -/
theorem vl0_some (n : Nat) (s : Bool) (v a0 a1 a2 : Int) (a3 : ByteArray) (l4 : List ByteArray) (l5 : List S26) (hs : a3.size ≤ 9223372036854775807) (hl : l5.length ≤ 9223372036854775807) (hl4 : l4.length ≤ 9223372036854775807) (hks : ∀ k ∈ l4, k.size ≤ 9223372036854775807)
    (hk : ∀ u ∈ l5, ∃ K b, spec_variantFits.f K u.f0 u.f1 u.f2 u.f3 u.f4 u.f5 s (wrap64 (v - 1)) = some b ∧ (b = true → fine n u)) :
    ∀ (m i : Nat), i + m = l4.length → ∃ K b, spec_variantFits.l0 K s v l4 (l4.length : Int) (i : Int) a0 a1 a2 a3 l4 l5 = some b ∧ (b = true → (∀ k ∈ l4.drop i, k.size ≤ 200) ∧ ∀ u ∈ l5, fine n u)
  | 0, i, h => by
    obtain ⟨K, b, e, p⟩ := vl1_some n s v a0 a1 a2 a3 l4 l5 hs hl hk l5.length 0 (by omega)
    refine ⟨K + 1, b, ?_, fun hb => ⟨fun k hk => (by rw [List.drop_eq_nil_of_le (by omega)] at hk; cases hk), p hb⟩⟩
    rw [spec_variantFits.l0, if_neg (by omega)]
    exact e
  | m + 1, i, h => by
    obtain ⟨K1, b1, e1, p1⟩ := vl0_some n s v a0 a1 a2 a3 l4 l5 hs hl hl4 hks hk m (i + 1) (by omega)
    have hi : i < l4.length := by omega
    obtain ⟨v2, hv⟩ := well_some l4[i] (hks _ (List.getElem_mem hi))
    have hw : wrap64 ((i : Int) + 1) = ((i + 1 : Nat) : Int) := by unfold wrap64; omega
    have hp : 0 < i → ∃ d : ByteArray, wrap64 ((i : Int) - 1) = ((i - 1 : Nat) : Int) := fun h0 => ⟨⟨#[]⟩, by unfold wrap64; omega⟩
    by_cases h1 : v2 = true
    · by_cases h2 : (l4[i].size : Int) > 200
      · refine ⟨K1 + 1, false, ?_, fun h => by cases h⟩
        rw [spec_variantFits.l0, if_pos (by omega), if_pos (by omega), if_pos (by omega), rdOf_at _ _ hi, hv, Option.bind_some, if_pos h1, if_pos h2]
      · have tail : (b1 = true → (∀ k ∈ l4.drop i, k.size ≤ 200) ∧ ∀ u ∈ l5, fine n u) := by
          intro hb
          refine ⟨fun k hk => ?_, (p1 hb).2⟩
          rw [List.drop_eq_getElem_cons hi] at hk
          rcases List.mem_cons.1 hk with e | e
          · rw [e]; omega
          · exact (p1 hb).1 k e
        by_cases h3 : (i : Int) > 0
        · obtain ⟨_, hq⟩ := hp (by omega)
          by_cases h4 : (Op.bytesLess ((rdOf ByteArray.empty l4 (wrap64 ((i : Int) - 1))).toList) (l4[i].toList)) = true
          · refine ⟨K1 + 1, b1, ?_, tail⟩
            rw [spec_variantFits.l0, if_pos (by omega), if_pos (by omega), if_pos (by omega), rdOf_at _ _ hi, hv, Option.bind_some, if_pos h1, if_neg h2, if_pos h3, if_pos (by rw [hq]; omega), if_pos (by rw [hq]; omega), if_pos h4, hw, e1]
          · refine ⟨K1 + 1, false, ?_, fun h => by cases h⟩
            rw [spec_variantFits.l0, if_pos (by omega), if_pos (by omega), if_pos (by omega), rdOf_at _ _ hi, hv, Option.bind_some, if_pos h1, if_neg h2, if_pos h3, if_pos (by rw [hq]; omega), if_pos (by rw [hq]; omega), if_neg h4]
        · refine ⟨K1 + 1, b1, ?_, tail⟩
          rw [spec_variantFits.l0, if_pos (by omega), if_pos (by omega), if_pos (by omega), rdOf_at _ _ hi, hv, Option.bind_some, if_pos h1, if_neg h2, if_neg h3, hw, e1]
    · refine ⟨K1 + 1, false, ?_, fun h => by cases h⟩
      rw [spec_variantFits.l0, if_pos (by omega), if_pos (by omega), if_pos (by omega), rdOf_at _ _ hi, hv, Option.bind_some, if_neg h1]
theorem fits_some : ∀ (n : Nat) (x : S26), dep n x → small n x → ∀ (s : Bool) (v : Int), ∃ K b, spec_variantFits.f K x.f0 x.f1 x.f2 x.f3 x.f4 x.f5 s v = some b ∧ (b = true → fine n x)
  | 0, x, h, _, _, _ => h.elim
  | n + 1, x, hd, hs, s, v => by
    obtain ⟨K, b, e, p⟩ := vl0_some n s v x.f0 x.f1 x.f2 x.f3 x.f4 x.f5 hs.1 hs.2.2.2.1 hs.2.1 hs.2.2.1 (fun u hu => fits_some n u (hd u hu) (hs.2.2.2.2 u hu) s (wrap64 (v - 1))) x.f4.length 0 (by omega)
    have J1 : ∀ q : Bool, (q = false → (x.f0 = 0 → x.f4.length = x.f5.length) ∧ (x.f0 ≠ 0 → x.f4.length = 0)) → (x.f3.size ≤ 4096 ∧ x.f5.length ≤ 500) → ∃ b, spec_variantFits.j1 (K + 1) s v q x.f0 x.f1 x.f2 x.f3 x.f4 x.f5 = some b ∧ (b = true → fine (n + 1) x) := by
      intro q hq ht
      rw [spec_variantFits.j1]
      cases q with
      | true => exact ⟨false, rfl, fun h => by cases h⟩
      | false =>
        refine ⟨b, e, fun hb => ⟨ht.1, ?_, (p hb).1, ht.2, (p hb).2⟩⟩
        have := hq rfl
        by_cases h0 : x.f0 = 0
        · have := this.1 h0; omega
        · have := this.2 h0; omega
    have J0 : ∀ q : Bool, (q = false → x.f3.size ≤ 4096 ∧ x.f5.length ≤ 500) → ∃ b, spec_variantFits.j0 (K + 2) s v q x.f0 x.f1 x.f2 x.f3 x.f4 x.f5 = some b ∧ (b = true → fine (n + 1) x) := by
      intro q hq
      rw [spec_variantFits.j0]
      cases q with
      | true => exact ⟨false, rfl, fun h => by cases h⟩
      | false =>
        have ht := hq rfl
        rw [if_neg (by decide)]
        have A : ∃ b, spec_variantFits.j1 (K + 1) s v true x.f0 x.f1 x.f2 x.f3 x.f4 x.f5 = some b ∧ (b = true → fine (n + 1) x) := J1 true (fun h => by cases h) ht
        by_cases h0 : x.f0 = 0
        · rw [if_pos h0, if_neg (show ¬ x.f0 > 1 by omega)]
          exact J1 _ (fun h => ⟨fun _ => by have := bne_eq_false_iff_eq.1 h; omega, fun h2 => absurd h0 h2⟩) ht
        · rw [if_neg h0]
          by_cases h1 : (x.f4.length : Int) > 0
          · rw [if_pos h1]; exact A
          · rw [if_neg h1]
            have B : ∃ b, spec_variantFits.j1 (K + 1) s v false x.f0 x.f1 x.f2 x.f3 x.f4 x.f5 = some b ∧ (b = true → fine (n + 1) x) := J1 false (fun _ => ⟨fun h2 => absurd h2 h0, fun _ => by omega⟩) ht
            split
            · split
              · exact A
              · exact B
            · exact B
    have main : ∃ b, spec_variantFits.f (K + 3) x.f0 x.f1 x.f2 x.f3 x.f4 x.f5 s v = some b ∧ (b = true → fine (n + 1) x) := by
      have T := J0 true (fun h => by cases h)
      rw [spec_variantFits.f]
      split
      · exact T
      · split
        · exact T
        · split
          · exact T
          · split
            · exact T
            · exact J0 _ (fun h => by have := of_decide_eq_false h; omega)
    obtain ⟨b, h1, h2⟩ := main
    exact ⟨K + 3, b, h1, h2⟩
def FitR (n : Nat) (x : S26) (w0 : World) (e : Ending) (w' : World) : Prop := ∃ b : Bool, e = .returned (.bool b) ∧ Below w0.heap.size w0 w' ∧ (b = true → fine n x ∧ nodes n x ≤ 20000)
theorem zz4_l (l : List ByteArray) (hl : l.length ≤ 9223372036854775807) : ∀ (m i : Nat), i + m = l.length → ∃ b, laws_zzFits4.l0 (m + 1) l (l.length : Int) (i : Int) = some b
  | 0, i, h => by
    rw [laws_zzFits4.l0, if_neg (by omega)]
    exact ⟨_, rfl⟩
  | m + 1, i, h => by
    rw [laws_zzFits4.l0, if_pos (by omega), if_pos (by omega), if_pos (by omega)]
    split
    · exact ⟨_, rfl⟩
    · rw [show wrap64 ((i : Int) + 1) = ((i + 1 : Nat) : Int) by unfold wrap64; omega]
      exact zz4_l l hl m (i + 1) (by omega)
theorem zz4 (l : List ByteArray) (hl : l.length ≤ 9223372036854775807) : ∃ b, laws_zzFits4.f (l.length + 1) l = some b := by
  unfold laws_zzFits4.f
  split
  · exact ⟨_, rfl⟩
  · exact zz4_l l hl l.length 0 (by omega)
theorem zz9 (a0 a1 a2 : Int) (a3 : ByteArray) (l4 : List ByteArray) (l5 : List S26) (hl : l4.length ≤ 9223372036854775807) : ∃ b, laws_zzFits9.f (l4.length + 1) a0 a1 a2 a3 l4 l5 = some b := by
  obtain ⟨b, hb⟩ := zz4 l4 hl
  unfold laws_zzFits9.f
  rw [hb]
  repeat' split
  all_goals first | exact ⟨_, rfl⟩ | (simp only [Option.bind_some]; repeat' split) <;> exact ⟨_, rfl⟩
theorem zz10 (a0 a1 : Int) (a2 a3 a4 a5 : Bool) (l6 : List ByteArray) (hl : l6.length ≤ 9223372036854775807) : ∃ b, laws_zzFits10.f (l6.length + 1) a0 a1 a2 a3 a4 a5 l6 = some b := by
  obtain ⟨b, hb⟩ := zz4 l6 hl
  unfold laws_zzFits10.f
  rw [hb]
  simp only [Option.bind_some]
  split <;> exact ⟨_, rfl⟩
/-- What Ways.Fits leaves. -/
structure WaysOk (off id : Int) (more : List ByteArray) : Prop where
  o1 : 1 ≤ off
  o2 : off ≤ 4
  i1 : 1 ≤ id
  i2 : id ≤ 4
  many : more.length ≤ 20
  short : ∀ k ∈ more, k.size ≤ 100
theorem ways_l (a0 a1 : Int) (a2 a3 a4 a5 : Bool) (l : List ByteArray) (hl : l.length ≤ 9223372036854775807) (hs : ∀ k ∈ l, k.size ≤ 9223372036854775807) :
    ∀ (m i : Nat), i + m = l.length → ∃ b, spec_Ways_Fits.l0 (m + 1) l (l.length : Int) (i : Int) a0 a1 a2 a3 a4 a5 l = some b ∧ (b = true → (∀ k ∈ l.drop i, k.size ≤ 100) ∧ (i < l.length → l.length ≤ 20) ∧ 1 ≤ a0 ∧ a0 ≤ 4 ∧ 1 ≤ a1 ∧ a1 ≤ 4)
  | 0, i, h => by
    rw [spec_Ways_Fits.l0, if_neg (by omega)]
    have hd : ∀ k ∈ l.drop i, k.size ≤ 100 := fun k hk => by rw [List.drop_eq_nil_of_le (by omega)] at hk; cases hk
    split
    · split
      · split
        · refine ⟨_, rfl, fun hb => ?_⟩
          have := of_decide_eq_true hb
          exact ⟨hd, fun _ => by omega, by omega, by omega, by omega, by omega⟩
        · exact ⟨_, rfl, fun h => by cases h⟩
      · exact ⟨_, rfl, fun h => by cases h⟩
    · exact ⟨_, rfl, fun h => by cases h⟩
  | m + 1, i, h => by
    have hi : i < l.length := by omega
    obtain ⟨v, hv⟩ := well_some l[i] (hs _ (List.getElem_mem hi))
    obtain ⟨b, hb, hp⟩ := ways_l a0 a1 a2 a3 a4 a5 l hl hs m (i + 1) (by omega)
    rw [spec_Ways_Fits.l0, if_pos (by omega), if_pos (by omega), if_pos (by omega), rdOf_at _ _ hi, hv, Option.bind_some]
    split
    · split
      · exact ⟨_, rfl, fun h => by cases h⟩
      · split
        · exact ⟨_, rfl, fun h => by cases h⟩
        · rw [show wrap64 ((i : Int) + 1) = ((i + 1 : Nat) : Int) by unfold wrap64; omega]
          refine ⟨b, hb, fun h => ?_⟩
          obtain ⟨p1, p2, p3⟩ := hp h
          refine ⟨fun k hk => ?_, fun _ => ?_, p3⟩
          · rw [List.drop_eq_getElem_cons hi] at hk
            rcases List.mem_cons.1 hk with e | e
            · rw [e]; omega
            · exact p1 k e
          · by_cases h1 : i + 1 < l.length
            · exact p2 h1
            · omega
    · exact ⟨_, rfl, fun h => by cases h⟩
theorem ways_some (a0 a1 : Int) (a2 a3 a4 a5 : Bool) (l : List ByteArray) (hl : l.length ≤ 9223372036854775807) (hs : ∀ k ∈ l, k.size ≤ 9223372036854775807) : ∃ b, spec_Ways_Fits.f (l.length + 1) a0 a1 a2 a3 a4 a5 l = some b ∧ (b = true → WaysOk a0 a1 l) := by
  obtain ⟨b, hb, hp⟩ := ways_l a0 a1 a2 a3 a4 a5 l hl hs l.length 0 (by omega)
  refine ⟨b, hb, fun h => ?_⟩
  obtain ⟨p1, p2, p3, p4, p5, p6⟩ := hp h
  refine ⟨p3, p4, p5, p6, ?_, fun k hk => p1 k hk⟩
  by_cases h0 : 0 < l.length
  · exact p2 h0
  · omega
set_option maxRecDepth 100000 in
/-- spec.KeyCount. -/
theorem count8 (n : Nat) (x : S26) (hx : dep n x) (A4 : Option Addr) (c4 : Nat) (A5 : Option Addr) (c5 : Nat) (w0 w : World) (h4 : Kd.string.C w0 A4 x.f4.length x.f4) (h5 : k26.C w0 A5 x.f5.length x.f5) (hB : Below w0.heap.size w0 w) (hl : (addAll (flat n x) []).length < 1000000000000) :
    Calls Tryd.prog 8 #[.agg #[.int .i64 x.f0, .int .u64 x.f1, .int .i64 x.f2, .string x.f3, .slice A4 x.f4.length c4, .slice A5 x.f5.length c5]] w fun e w' => e = .returned (.int .i64 ((addAll (flat n x) []).length : Nat)) ∧ Below w0.heap.size w0 w' := by
  have COL := Aside0.mk (fun (W : World) (hW : Below w0.heap.size w0 W) => collect17 n x hx A4 c4 A5 c5 w0 W h4 h5 hW (.slice none 0 0) [] (Kd.R_nil _ _ _ _ _) hl)
  have HB := Aside0.mk hB
  obtain ⟨L, hL⟩ : ∃ L, L = addAll (flat n x) [] := ⟨_, rfl⟩
  rw [← hL] at COL ⊢
  clear hx h4 h5 hB hl hL
  go_enter Tryd.func8, Tryd.ntmps8
  go_wp2_with (first | ((with_reducible refine gate_dst (N := 1) rfl ?_); refine box_event ?hg (N := 1) ?hd (cs := #[.int .i64 x.f0, .int .u64 x.f1, .int .i64 x.f2, .string x.f3, .slice A4 x.f4.length c4, .slice A5 x.f5.length c5]) (t := 26) ?hr ?_; (case hd => rfl); (case hg => rfl); (case hr => first | (go_simp; done) | (go_simp; rfl)); intro gb hg w3 hbox hb; have HB3 := Aside0.mk (HB.out.trans (hb.mono HB.out.size)); have BK := Aside0.mk hbox; clear hb hbox hg; have hc0 : w3.cell? ⟨gb, 0, none⟩ = some (.int .i64 x.f0) := (blk_cell BK.out 0).trans rfl; have hc1 : w3.cell? ⟨gb, 1, none⟩ = some (.int .u64 x.f1) := (blk_cell BK.out 1).trans rfl; have hc2 : w3.cell? ⟨gb, 2, none⟩ = some (.int .i64 x.f2) := (blk_cell BK.out 2).trans rfl; have hc3 : w3.cell? ⟨gb, 3, none⟩ = some (.string x.f3) := (blk_cell BK.out 3).trans rfl; have hc4 : w3.cell? ⟨gb, 4, none⟩ = some (.slice A4 x.f4.length c4) := (blk_cell BK.out 4).trans rfl; have hc5 : w3.cell? ⟨gb, 5, none⟩ = some (.slice A5 x.f5.length c5) := (blk_cell BK.out 5).trans rfl) | (go_at_call 17; refine Calls.mono (COL.out _ HB3.out) ?_; rintro r w9 ⟨v, rfl, ht⟩; obtain ⟨A, c, ev, hc, hr⟩ := Kd.R_reads ht.row; subst ev; have HT := Aside0.mk ht; clear ht hc hr))
  go_ret
  exact ⟨rfl, HT.out.below⟩
/-! ## put: its parts -/
theorem shr_byte (n i : Nat) (hi : i < 8) : shr .u64 (n : Int) (wrap64 (8 * (i : Int))) % 256 = ((n / 256 ^ i % 256 : Nat) : Int) := by
  have h1 : wrap64 (8 * (i : Int)) = ((8 * i : Nat) : Int) := by unfold wrap64; omega
  unfold shr
  rw [h1, Int.toNat_natCast, show IntKind.u64.bits = 64 from rfl, Nat.min_eq_left (by omega)]
  have h3 : 256 ^ i = 2 ^ (8 * i) := by rw [Nat.pow_mul]
  have h2 : (2 : Int) ^ (8 * i) = ((256 ^ i : Nat) : Int) := by rw [h3]; simp
  rw [h2]
  simp
theorem little_l (n wd : Nat) (hw : wd ≤ 8) : ∀ (m i : Nat) (l : List Int), i + m = wd → l.length = wd → l.take i = (low wd n).take i → ∃ r, spec_putLittle.l0 (m + 1) (n : Int) l (wd : Int) (i : Int) = some r ∧ r = low wd n
  | 0, i, l, h, hl, he => by
    refine ⟨l, ?_, ?_⟩
    · rw [spec_putLittle.l0, if_neg (by omega)]
    · rw [List.take_of_length_le (by omega), List.take_of_length_le (by rw [low_len]; omega)] at he
      exact he
  | m + 1, i, l, h, hl, he => by
    have h1 : 0 ≤ wrap64 (8 * (i : Int)) := by unfold wrap64; omega
    rw [spec_putLittle.l0, if_pos (by omega), if_pos h1, if_pos (by omega), if_pos (by omega), shr_byte n i (by omega), Int.toNat_natCast, show wrap64 ((i : Int) + 1) = ((i + 1 : Nat) : Int) by unfold wrap64; omega]
    refine little_l n wd hw m (i + 1) _ (by omega) (by rw [List.length_set]; exact hl) ?_
    have hi : i < l.length := by omega
    have hi2 : i < (low wd n).length := by rw [low_len]; omega
    rw [take_snoc _ i (by rw [List.length_set]; exact hi), take_snoc _ i hi2, List.take_set_of_le (Nat.le_refl _), he, List.getElem_set_self]
    congr 1
    simp [low]
/-- putLittle writes the lowest bytes. -/
theorem little_f (n wd : Nat) (hw : wd ≤ 8) : spec_putLittle.f (wd + 1) (n : Int) (wd : Int) = some (low wd n) := by
  unfold spec_putLittle.f
  rw [if_pos (by omega), Int.toNat_natCast, if_pos (by omega)]
  obtain ⟨r, h, e⟩ := little_l n wd hw wd 0 (List.replicate wd 0) (by omega) (List.length_replicate) (by simp)
  rw [e] at h
  rw [Option.bind_some, List.length_replicate]
  exact h
/-- The lowest bytes of a word, however it is told. -/
def lowZ (wd : Nat) (z : Int) : List Int := (List.range wd).map fun (i : Nat) => shr .u64 z (wrap64 (8 * (i : Int))) % 256
theorem lowZ_len (wd : Nat) (z : Int) : (lowZ wd z).length = wd := by simp [lowZ]
theorem little_lz (z : Int) (wd : Nat) (hw : wd ≤ 8) : ∀ (m i k : Nat) (l : List Int), i + m = wd → m + 1 ≤ k → l.length = wd → l.take i = (lowZ wd z).take i → spec_putLittle.l0 k z l (wd : Int) (i : Int) = some (lowZ wd z)
  | _, _, 0, _, _, hk, _, _ => by omega
  | 0, i, k + 1, l, h, hk, hl, he => by
    rw [spec_putLittle.l0, if_neg (by omega)]
    rw [List.take_of_length_le (by omega), List.take_of_length_le (by rw [lowZ_len]; omega)] at he
    rw [he]
  | m + 1, i, k + 1, l, h, hk, hl, he => by
    have h1 : 0 ≤ wrap64 (8 * (i : Int)) := by unfold wrap64; omega
    rw [spec_putLittle.l0, if_pos (by omega), if_pos h1, if_pos (by omega), if_pos (by omega), Int.toNat_natCast, show wrap64 ((i : Int) + 1) = ((i + 1 : Nat) : Int) by unfold wrap64; omega]
    refine little_lz z wd hw m (i + 1) k _ (by omega) (by omega) (by rw [List.length_set]; exact hl) ?_
    have hi : i < l.length := by omega
    have hi2 : i < (lowZ wd z).length := by rw [lowZ_len]; omega
    rw [take_snoc _ i (by rw [List.length_set]; exact hi), take_snoc _ i hi2, List.take_set_of_le (Nat.le_refl _), he, List.getElem_set_self]
    congr 1
    simp [lowZ]
theorem little_zk (z : Int) (wd k : Nat) (hw : wd ≤ 8) (hk : wd + 1 ≤ k) : spec_putLittle.f k z (wd : Int) = some (lowZ wd z) := by
  unfold spec_putLittle.f
  rw [if_pos (by omega), Int.toNat_natCast, if_pos (by omega), Option.bind_some, List.length_replicate]
  exact little_lz z wd hw wd 0 k _ (by omega) hk (List.length_replicate) (by simp)
theorem little_z (z : Int) (wd : Nat) (hw : wd ≤ 8) : spec_putLittle.f (wd + 1) z (wd : Int) = some (lowZ wd z) := little_zk z wd _ hw (Nat.le_refl _)
theorem prim_l (ls : List (List Int)) (hl : ls.length ≤ 1000) : ∀ (m i : Nat) (out : List Int), i + m = ls.length → (out ++ (ls.drop i).flatten).length < 140737488355328 → spec_Ways_put_1.l0 (m + 1) out ls (ls.length : Int) (i : Int) = some (out ++ (ls.drop i).flatten)
  | 0, i, out, h, hb => by
    rw [spec_Ways_put_1.l0, if_neg (by omega), List.drop_eq_nil_of_le (by omega)]
    simp
  | m + 1, i, out, h, hb => by
    have hi : i < ls.length := by omega
    have e : rd_L7 ls (i : Int) = ls[i] := by
      unfold rd_L7
      rw [Int.toNat_natCast, List.getD_eq_getElem?_getD, List.getElem?_eq_getElem hi]
      rfl
    rw [List.drop_eq_getElem_cons hi, List.flatten_cons, ← List.append_assoc] at hb ⊢
    rw [spec_Ways_put_1.l0, if_pos (by omega), if_pos (by omega), if_pos (by omega), e, if_pos (by rw [List.length_append, List.length_append] at hb; omega), show wrap64 ((i : Int) + 1) = ((i + 1 : Nat) : Int) by unfold wrap64; omega]
    exact prim_l ls hl m (i + 1) _ (by omega) hb
/-- What primitive writes. -/
def prim (id : Int) (ls : List (List Int)) : List Int := [wrap64 (id * 4) % 256] ++ ls.flatten
theorem prim_f (id : Int) (ls : List (List Int)) (hl : ls.length ≤ 1000) (hb : ls.flatten.length ≤ 1000000000) : spec_Ways_put_1.f (ls.length + 1) id ls = some (prim id ls) := by
  have h := prim_l ls hl ls.length 0 [wrap64 (id * 4) % 256] (by omega) (by rw [List.drop_zero, List.length_append, List.length_singleton]; omega)
  rw [List.drop_zero] at h
  exact h
theorem C_row1 (w : World) {A : Option Addr} {c : Nat} {r : List Int} (hc : r.length ≤ c) (h : (Kd.int .u8).C w A r.length r) : (Kd.slice 5 (Kd.int .u8)).C (w.alloc (.cells #[.slice A r.length c] 34 (0, 0))) (some ⟨w.heap.size, 0, none⟩) 1 [r] := by
  refine ⟨rfl, by omega, fun _ => ⟨_, rfl, fun j p hj => ?_⟩⟩
  match j, hj with
  | 0, hj =>
    cases hj
    refine ⟨[.slice A r.length c], rfl, ⟨A, c, rfl, hc, Kd.C_below h (below_alloc (Below.refl _ _) _)⟩, fun i u hu => ?_⟩
    match i, hu with
    | 0, hu =>
      cases hu
      exact (blk_cell (blk_new w _) 0).trans rfl
theorem C_row2 (w : World) {A B : Option Addr} {c d : Nat} {r s : List Int} (hc : r.length ≤ c) (h : (Kd.int .u8).C w A r.length r) (hd : s.length ≤ d) (h2 : (Kd.int .u8).C w B s.length s) : (Kd.slice 5 (Kd.int .u8)).C (w.alloc (.cells #[.slice A r.length c, .slice B s.length d] 34 (0, 0))) (some ⟨w.heap.size, 0, none⟩) 2 [r, s] := by
  refine ⟨rfl, by omega, fun _ => ⟨_, rfl, fun j p hj => ?_⟩⟩
  match j, hj with
  | 0, hj =>
    cases hj
    refine ⟨[.slice A r.length c], rfl, ⟨A, c, rfl, hc, Kd.C_below h (below_alloc (Below.refl _ _) _)⟩, fun i u hu => ?_⟩
    match i, hu with
    | 0, hu =>
      cases hu
      exact (blk_cell (blk_new w _) 0).trans rfl
  | 1, hj =>
    cases hj
    refine ⟨[.slice B s.length d], rfl, ⟨B, d, rfl, hd, Kd.C_below h2 (below_alloc (Below.refl _ _) _)⟩, fun i u hu => ?_⟩
    match i, hu with
    | 0, hu =>
      cases hu
      rw [show ((⟨w.heap.size, 0, none⟩ : Addr).add (1 * (Kd.slice 5 (Kd.int IntKind.u8)).sz + 0)) = ⟨w.heap.size, 1, none⟩ from rfl]
      exact (blk_cell (blk_new w _) 1).trans rfl
theorem C_lit1 (w : World) (z : Int) : (Kd.int .u8).C (w.alloc (.cells #[.int .u8 z] 5 (0, 0))) (some ⟨w.heap.size, 0, none⟩) 1 [z] := by
  refine ⟨rfl, by omega, fun _ => ⟨_, rfl, fun j p hj => ?_⟩⟩
  match j, hj with
  | 0, hj =>
    cases hj
    refine ⟨[.int .u8 z], rfl, rfl, fun i u hu => ?_⟩
    match i, hu with
    | 0, hu =>
      cases hu
      exact (blk_cell (blk_new w _) 0).trans rfl
theorem C_row2m (w : World) {A B : Option Addr} {c d m k : Nat} {r s : List Int} (hm : r.length = m) (hc : m ≤ c) (h : (Kd.int .u8).C w A m r) (hk : s.length = k) (hd : k ≤ d) (h2 : (Kd.int .u8).C w B k s) : (Kd.slice 5 (Kd.int .u8)).C (w.alloc (.cells #[.slice A m c, .slice B k d] 34 (0, 0))) (some ⟨w.heap.size, 0, none⟩) 2 [r, s] := by
  subst hm hk
  exact C_row2 w hc h hd h2
theorem C_row1m (w : World) {A : Option Addr} {c m : Nat} {r : List Int} (hm : r.length = m) (hc : m ≤ c) (h : (Kd.int .u8).C w A m r) : (Kd.slice 5 (Kd.int .u8)).C (w.alloc (.cells #[.slice A m c] 34 (0, 0))) (some ⟨w.heap.size, 0, none⟩) 1 [r] := by
  subst hm
  exact C_row1 w hc h
theorem below_bytes {w W : World} (h : Below w.heap.size w W) (s : ByteArray) : Below w.heap.size w (Lib.bytesWorld W 5 s) := by
  have hs := h.size
  exact h.trans ⟨rfl, rfl, rfl, by rw [Lib.bytesWorld_size]; omega, fun k hk => Lib.bytesWorld_at_old W 5 s k (by omega)⟩
theorem C_conv (W : World) (s : ByteArray) (hs : s.size ≤ 9223372036854775807) : (Kd.int .u8).C (Lib.bytesWorld W 5 s) (some ⟨W.heap.size, 0, none⟩) s.size (bytesOf s) := by
  have hl := bytesOf_length s
  refine ⟨hl, hs, fun _ => ⟨_, rfl, fun j p hj => ?_⟩⟩
  have hjl : j < s.size := by rw [← hl]; exact (List.getElem?_eq_some_iff.1 hj).1
  refine ⟨[.int .u8 p], rfl, rfl, fun i u hu => ?_⟩
  match i, hu with
  | 0, hu =>
    cases hu
    have h1 := Lib.bytesWorld_cell W 5 s j hjl
    rw [show ((⟨W.heap.size, 0, none⟩ : Addr).add (j * (Kd.int IntKind.u8).sz + 0)) = ⟨W.heap.size, j, none⟩ by rw [show (Kd.int IntKind.u8).sz = 1 from rfl, Nat.mul_one, Nat.add_zero]; exact add_plain _ _, h1]
    have h2 : p = ((s.data.toList.getD j 0).toNat : Int) := by
      unfold bytesOf at hj
      rw [List.getElem?_map] at hj
      obtain ⟨b, hb, e⟩ := Option.map_eq_some_iff.1 hj
      rw [List.getD_eq_getElem?_getD, hb, ← e]
      rfl
    rw [h2]
/-- []byte(s), a string turned into a slice. -/
theorem run_conv (s : ByteArray) (W : World) : (convert 9 34 (.string s)).run Tryd.prog W = .ok (.slice (some ⟨W.heap.size, 0, none⟩) s.size (grownCap W s.size 0 5)) (Lib.bytesWorld W 5 s) :=
  Lib.run_convert_string_bytes (P := Tryd.prog) W 9 34 5 s Tryd.underlying9 Tryd.underlying34 Tryd.underlying5
theorem cap_conv (s : ByteArray) (W : World) : s.size ≤ grownCap W s.size 0 5 := grownCap_ge _ _ _ _
theorem below_chain {w V W : World} (h : Below w.heap.size w V) (hb : Below V.heap.size V W) : Below w.heap.size w W := h.trans (hb.mono h.size)
theorem R_chain {α : Type} {d : Kd α} {e : Nat} {ok : Nat → Prop} {w V W : World} {v : Value} {xs : List α} (h : Below w.heap.size w V) (hR : d.R e W V.heap.size ok v xs) : d.R e W w.heap.size ok v xs := Kd.R_lower hR h.size
theorem C_at_block {α : Type} {d : Kd α} {W : World} {g g' n : Nat} {l : List α} (h : d.C W (some ⟨g, 0, none⟩) n l) (e : g' = g) : d.C W (some ⟨g', 0, none⟩) n l := by rw [e]; exact h
theorem blk_bytes {W : World} {g : Nat} {o : Obj} (h : W.heap[g]? = some o) (s : ByteArray) : (Lib.bytesWorld W 5 s).heap[g]? = some o := (Lib.bytesWorld_at_old W 5 s g (blk_lt h)).trans h

end Go.Proofs.YtobhegbhljbjhaaDoor.Vk
