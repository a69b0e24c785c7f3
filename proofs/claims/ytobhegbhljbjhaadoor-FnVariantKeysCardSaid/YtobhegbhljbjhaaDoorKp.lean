/- What PutVariant writes. The dictionary. spec.VariantKeys: its parts. -/
import Derived.Test.YtobhegbhljbjhaaDoorKm
import Derived.Sort.Grow
namespace Go.Proofs.YtobhegbhljbjhaaDoor.Vk
set_option linter.unusedVariables false
set_option linter.unusedSimpArgs false
open Go.RowKit Go.IntWalk Go.Proofs.YtobhegbhljbjhaaDoorW.PrintWords Go.Proofs.YtobhegbhljbjhaaDoorW.PrintLast Go.Proofs.YtobhegbhljbjhaaDoorW.PrintMore Go.Proofs.YtobhegbhljbjhaaDoor.MVkS
attribute [local go_sem] max2_int min2_int max_two min_two max_three min_three max_four min_four
/-! ## What PutVariant writes -/
theorem lowZ_nat (wd n : Nat) (hw : wd ≤ 8) : lowZ wd (n : Int) = low wd n := by
  unfold lowZ low
  apply List.map_congr_left
  intro i hi
  exact shr_byte n i (by have := List.mem_range.1 hi; omega)
theorem flat_dep : ∀ (n m : Nat) (x : S26), dep n x → dep m x → flat n x = flat m x
  | 0, _, _, h, _ => h.elim
  | _, 0, _, _, h => h.elim
  | n + 1, m + 1, x, h, g => by
    unfold flat
    congr 1
    rw [List.flatMap_def, List.flatMap_def]
    congr 1
    exact List.map_congr_left fun u hu => flat_dep n m u (h u hu) (g u hu)
theorem u64_nat (n : Nat) (h : n < 18446744073709551616) : IntKind.u64.wrap (n : Int) = (n : Int) := by
  simp only [IntKind.wrap, IntKind.bits, IntKind.signed]
  simp
  omega
theorem w64_add (a b : Nat) (h : a + b < 9223372036854775808) : wrap64 ((a : Int) + (b : Int)) = ((a + b : Nat) : Int) := by unfold wrap64; omega
theorem w64_succ (a : Nat) (h : a + 1 < 9223372036854775808) : wrap64 ((a : Int) + 1) = ((a + 1 : Nat) : Int) := by unfold wrap64; omega
def total (K : List ByteArray) : Nat := (K.map ByteArray.size).sum
theorem total_cons (k : ByteArray) (K : List ByteArray) : total (k :: K) = k.size + total K := by simp [total]
theorem total_le (b : Nat) : ∀ K : List ByteArray, (∀ k ∈ K, k.size ≤ b) → total K ≤ b * K.length
  | [], _ => by simp [total]
  | k :: K, h => by
    have h1 := h k List.mem_cons_self
    have h2 := total_le b K fun x hx => h x (List.mem_cons_of_mem _ hx)
    rw [total_cons, List.length_cons, Nat.mul_succ]
    omega
theorem total_flat : ∀ K : List ByteArray, (K.flatMap bytesOf).length = total K
  | [] => by simp [total]
  | k :: K => by rw [List.flatMap_cons, List.length_append, bytesOf_length, total_flat K, total_cons]
theorem total_drop (K : List ByteArray) (i : Nat) (h : i < K.length) : total (K.drop i) = K[i].size + total (K.drop (i + 1)) := by rw [List.drop_eq_getElem_cons h, total_cons]
def head0 (s5 : Bool) (size : Nat) : Int := ((1 + (if s5 then 16 else 0) + 64 * (size - 1) : Nat) : Int)
theorem head_byte (s5 : Bool) (size : Nat) (h1 : 1 ≤ size) (h4 : size ≤ 4) : ∃ t : Int, spec_truthInt.f s5 = some t ∧ Go.bits .or .i64 (Go.bits .or .i64 1 (wrap64 (t * 16))) (wrap64 (wrap64 ((size : Int) - 1) * 64)) % 256 = head0 s5 size := by
  cases s5
  · refine ⟨0, rfl, ?_⟩
    match size, h1, h4 with
    | 1, _, _ => decide +kernel
    | 2, _, _ => decide +kernel
    | 3, _, _ => decide +kernel
    | 4, _, _ => decide +kernel
  · refine ⟨1, rfl, ?_⟩
    match size, h1, h4 with
    | 1, _, _ => decide +kernel
    | 2, _, _ => decide +kernel
    | 3, _, _ => decide +kernel
    | 4, _, _ => decide +kernel
/-- The bytes of a dictionary. -/
def metaB (s5 : Bool) (size : Nat) (K : List ByteArray) : List Int := head0 s5 size :: (low size K.length ++ ((0 :: offs bytesOf K 0).flatMap (low size) ++ K.flatMap bytesOf))
section
variable (f0 f1 f2 : Int) (f3 : ByteArray) (f4 : List ByteArray) (f5 : List S26) (o d : Int) (s2 s3 s4 s5 : Bool) (more : List ByteArray)
theorem pv_l3 (K : List ByteArray) (hK : K.length ≤ 1000) (v : List Int) (hv : spec_Ways_put.f o d s2 s3 s4 s5 more f0 f1 f2 f3 f4 f5 K = some v) : ∀ (m i k : Nat) (out : List Int), i + m = K.length → m + 1 ≤ k → out.length + total (K.drop i) ≤ 1000000000 → spec_PutVariant.l3 k out K K (K.length : Int) (i : Int) f0 f1 f2 f3 f4 f5 o d s2 s3 s4 s5 more = some (out ++ (K.drop i).flatMap bytesOf, v)
  | _, _, 0, _, _, hk, _ => by omega
  | 0, i, k + 1, out, h, hk, hb => by
    rw [spec_PutVariant.l3, if_neg (by omega), hv, Option.bind_some, List.drop_eq_nil_of_le (by omega), List.flatMap_nil, List.append_nil]
  | m + 1, i, k + 1, out, h, hk, hb => by
    have hi : i < K.length := by omega
    rw [total_drop _ _ hi] at hb
    rw [spec_PutVariant.l3, if_pos (by omega), if_pos (by omega), if_pos (by omega), rdOf_at _ _ hi, if_pos (by omega), w64_succ i (by omega),
      pv_l3 K hK v hv m (i + 1) k _ (by omega) (by omega) (by rw [List.length_append, bytesOf_length]; omega), List.drop_eq_getElem_cons hi, List.flatMap_cons, List.append_assoc]
theorem pv_l2 (K : List ByteArray) (hK : K.length ≤ 1000) (v : List Int) (hv : spec_Ways_put.f o d s2 s3 s4 s5 more f0 f1 f2 f3 f4 f5 K = some v) (size : Nat) (hs : size ≤ 4) : ∀ (m i k p : Nat) (out : List Int), i + m = K.length → m + K.length + 10 ≤ k → p + total (K.drop i) ≤ 100000000 → out.length + 4 * m + total K ≤ 1000000000 →
    spec_PutVariant.l2 k out K (size : Int) (p : Int) K (K.length : Int) (i : Int) f0 f1 f2 f3 f4 f5 o d s2 s3 s4 s5 more = some (out ++ ((offs bytesOf (K.drop i) p).flatMap (low size) ++ K.flatMap bytesOf), v)
  | _, _, 0, _, _, _, hk, _, _ => by omega
  | 0, i, k + 1, p, out, h, hk, hp, hb => by
    have h3 := pv_l3 f0 f1 f2 f3 f4 f5 o d s2 s3 s4 s5 more K hK v hv K.length 0 k out (by omega) (by omega) (by rw [List.drop_zero]; omega)
    rw [List.drop_zero] at h3
    rw [spec_PutVariant.l2, if_neg (by omega), List.drop_eq_nil_of_le (by omega), offs, List.flatMap_nil, List.nil_append]
    exact h3
  | m + 1, i, k + 1, p, out, h, hk, hp, hb => by
    have hi : i < K.length := by omega
    rw [total_drop _ _ hi] at hp
    have ih := Aside0.mk (pv_l2 K hK v hv size hs m (i + 1) k (p + K[i].size) (out ++ low size (p + K[i].size)) (by omega) (by omega) (by omega) (by rw [List.length_append, low_len]; omega))
    have hlt : out.length + (low size (p + K[i].size)).length < 140737488355328 := by rw [low_len]; omega
    rw [spec_PutVariant.l2, if_pos (by omega), if_pos (by omega), if_pos (by omega), rdOf_at _ _ hi, w64_add p K[i].size (by omega), u64_nat (p + K[i].size) (by omega), little_zk _ size k (by omega) (by omega), lowZ_nat _ _ (by omega), Option.bind_some, if_pos hlt, w64_succ i (by omega), ih.out, List.drop_eq_getElem_cons hi, offs, List.flatMap_cons, bytesOf_length, List.append_assoc, List.append_assoc]
theorem pv_l1 (K : List ByteArray) (hK : K.length ≤ 1000) (v : List Int) (a b : Nat) (ha1 : 1 ≤ a) (ha : a ≤ 4) (hv : spec_Ways_put.f (a : Int) d s2 s3 s4 s5 more f0 f1 f2 f3 f4 f5 K = some v) (hT : total K ≤ 10000000) : ∀ (m i k p : Nat), i + m = K.length → m + 2 * K.length + 30 ≤ k → p + total (K.drop i) = total K →
    ∃ size : Nat, spec_PutVariant.l1 k K (p : Int) K (K.length : Int) (i : Int) f0 f1 f2 f3 f4 f5 (a : Int) d s2 s3 s4 s5 more = some (metaB s5 size K, v) ∧ 1 ≤ size ∧ size ≤ 4 ∧ total K < 256 ^ size ∧ K.length < 256 ^ size
  | _, _, 0, _, _, hk, _ => by omega
  | 0, i, k + 1, p, h, hk, hp => by
    rw [List.drop_eq_nil_of_le (by omega)] at hp
    have hp2 : p = total K := by rw [← hp]; simp [total]
    subst hp2
    have hz : mx (total K : Int) (K.length : Int) < 4294967296 := by unfold mx; split <;> omega
    obtain ⟨size, hsz, h1, h4, hlt⟩ := size_some _ hz a k ha1 ha (by omega)
    have hl1 : total K < 256 ^ size := by unfold mx at hlt; split at hlt <;> omega
    have hl2 : K.length < 256 ^ size := by unfold mx at hlt; split at hlt <;> omega
    obtain ⟨t, ht, hhd⟩ := head_byte s5 size (by omega) h4
    have h2 := fun out (ho : out.length + 4 * K.length + total K ≤ 1000000000) => pv_l2 f0 f1 f2 f3 f4 f5 (a : Int) d s2 s3 s4 s5 more K hK v hv size h4 K.length 0 k 0 out (by omega) (by omega) (by rw [List.drop_zero]; omega) ho
    rw [List.drop_zero] at h2
    refine ⟨size, ?_, by omega, h4, hl1, hl2⟩
    rw [spec_PutVariant.l1, if_neg (by omega), hsz, Option.bind_some, ht, Option.bind_some, Option.bind_some, u64_nat K.length (by omega), little_zk _ size k (by omega) (by omega), lowZ_nat _ _ (by omega), Option.bind_some, if_pos (by rw [low_len]; simp; omega), Option.bind_some, show (0 : Int) = ((0 : Nat) : Int) from rfl, little_zk _ size k (by omega) (by omega), lowZ_nat _ _ (by omega), Option.bind_some, if_pos (by rw [List.length_append, low_len, low_len]; simp; omega)]
    have h3 := h2 ([Go.bits .or .i64 (Go.bits .or .i64 1 (wrap64 (t * 16))) (wrap64 (wrap64 ((size : Int) - 1) * 64)) % 256] ++ low size K.length ++ low size 0) (by rw [List.length_append, List.length_append, low_len, low_len, List.length_singleton]; omega)
    refine h3.trans ?_
    rw [hhd]
    congr 2
    unfold metaB
    rw [List.flatMap_cons]
    simp only [List.append_assoc, List.singleton_append, List.cons_append, List.nil_append]
  | m + 1, i, k + 1, p, h, hk, hp => by
    have hi : i < K.length := by omega
    have hp2 := hp
    rw [total_drop _ _ hi] at hp2
    rw [spec_PutVariant.l1, if_pos (by omega), if_pos (by omega), if_pos (by omega), rdOf_at _ _ hi, w64_add p K[i].size (by omega), w64_succ i (by omega)]
    exact pv_l1 K hK v a b ha1 ha hv hT m (i + 1) k _ (by omega) (by omega) (by omega)
end
/-! ## The dictionary -/
def dict (n : Nat) (x : S26) (s5 : Bool) (more : List ByteArray) : List ByteArray := if s5 = true then ssort (addAll (flat n x) (addAll more [])) else addAll (flat n x) (addAll more [])
theorem addAll_le {α : Type} [DecidableEq α] : ∀ (l out : List α), (addAll l out).length ≤ out.length + l.length
  | [], out => by simp [addAll]
  | k :: l, out => by
    unfold addAll
    refine Nat.le_trans (addAll_le l _) ?_
    split
    · simp
    · simp; omega
theorem mem_ssort (k : ByteArray) (l : List ByteArray) : k ∈ ssort l ↔ k ∈ l := by
  unfold ssort
  rw [List.mem_map]
  constructor
  · rintro ⟨a, ha, rfl⟩
    rw [List.mem_mergeSort, List.mem_map] at ha
    obtain ⟨b, hb, rfl⟩ := ha
    rw [lb_bl]
    exact hb
  · intro h
    exact ⟨bl k, by rw [List.mem_mergeSort, List.mem_map]; exact ⟨k, h, rfl⟩, lb_bl k⟩
theorem ssort_nodup (l : List ByteArray) (h : l.Nodup) : (ssort l).Nodup := by
  unfold ssort
  have hp : ((l.map bl).mergeSort fun x y => decide (x ≤ y)).Perm (l.map bl) := List.mergeSort_perm _ _
  have h1 : (l.map bl).Nodup := by
    unfold List.Nodup
    rw [List.pairwise_map]
    exact h.imp fun {a b} hne e => hne ((lb_bl a).symm.trans ((congrArg lb e).trans (lb_bl b)))
  have h2 := hp.nodup_iff.2 h1
  unfold List.Nodup
  rw [List.pairwise_map]
  exact h2.imp fun {a b} hne e => hne ((bl_lb a).symm.trans ((congrArg bl e).trans (bl_lb b)))
theorem ssort_sorted (l : List ByteArray) : (ssort l).Pairwise fun x y => bl x ≤ bl y := by
  unfold ssort
  rw [List.pairwise_map]
  have h := List.pairwise_mergeSort (le := fun x y : List UInt8 => decide (x ≤ y)) (fun a b c h1 h2 => by simp at *; exact List.le_trans h1 h2) (fun a b => by simp; exact List.le_total a b) (l.map bl)
  exact h.imp fun h1 => by rw [bl_lb, bl_lb]; simpa using h1
theorem hasText_k (s : ByteArray) (l : List ByteArray) (hl : l.length ≤ 1000000000000) (k : Nat) (hk : l.length + 1 ≤ k) : spec_hasText.f k l s = some (decide (s ∈ l)) := by
  induction k with
  | zero => omega
  | succ k ih =>
    rcases Nat.lt_or_ge k (l.length + 1) with h | h
    · rw [show k = l.length by omega]
      exact hasText_f s l hl
    · exact spec_hasText.mono l s k _ (ih h)
theorem collect_f (n : Nat) (f0 f1 f2 : Int) (f3 : ByteArray) (f4 : List ByteArray) (f5 : List S26) (hd : dep n ⟨f0, f1, f2, f3, f4, f5⟩) (l : List ByteArray) (hl : (addAll (flat n ⟨f0, f1, f2, f3, f4, f5⟩) l).length < 1000000000000) : spec_collect.f f0 f1 f2 f3 f4 f5 l = some (addAll (flat n ⟨f0, f1, f2, f3, f4, f5⟩) l) := by
  unfold spec_collect.f
  rw [flat_dep _ n _ (dep_size _ _ (Nat.le_refl _)) hd, if_pos hl]
/-- What is known of a dictionary. -/
structure Dict (s5 : Bool) (K : List ByteArray) (size : Nat) : Prop where
  s1 : 1 ≤ size
  s4 : size ≤ 4
  tot : total K < 256 ^ size
  cnt : K.length < 256 ^ size
  few : K.length ≤ 49
  short : ∀ k ∈ K, k.size ≤ 200
  nodup : K.Nodup
  sorted : s5 = true → K.Pairwise fun x y => bl x ≤ bl y
section
variable (n : Nat) (f0 f1 f2 : Int) (f3 : ByteArray) (f4 : List ByteArray) (f5 : List S26) (d : Int) (s2 s3 s4 s5 : Bool) (more : List ByteArray)
theorem pv_l0 (hd : dep n ⟨f0, f1, f2, f3, f4, f5⟩) (hm : more.length ≤ 20) (K : List ByteArray) (hKe : K = dict n ⟨f0, f1, f2, f3, f4, f5⟩ s5 more) (hK : K.length ≤ 49) (v : List Int) (a b : Nat) (ha1 : 1 ≤ a) (ha : a ≤ 4) (hv : spec_Ways_put.f (a : Int) d s2 s3 s4 s5 more f0 f1 f2 f3 f4 f5 K = some v) (hT : total K ≤ 10000000) :
    ∀ (m i k : Nat) (L : List ByteArray), i + m = more.length → m + 300 ≤ k → L = addAll (more.take i) [] →
    ∃ size : Nat, spec_PutVariant.l0 k L more (more.length : Int) (i : Int) f0 f1 f2 f3 f4 f5 (a : Int) d s2 s3 s4 s5 more = some (metaB s5 size K, v) ∧ 1 ≤ size ∧ size ≤ 4 ∧ total K < 256 ^ size ∧ K.length < 256 ^ size
  | _, _, 0, _, _, hk, _ => by omega
  | 0, i, k + 1, L, h, hk, hL => by
    rw [List.take_of_length_le (by omega)] at hL
    subst hL
    have hlen : (addAll (flat n ⟨f0, f1, f2, f3, f4, f5⟩) (addAll more [])).length ≤ 49 := by
      rw [hKe] at hK
      unfold dict at hK
      split at hK
      · rw [ssort_len] at hK; exact hK
      · exact hK
    have fin : ∀ k2 : Nat, 250 ≤ k2 → ∃ size : Nat, spec_PutVariant.j1 k2 K f0 f1 f2 f3 f4 f5 (a : Int) d s2 s3 s4 s5 more = some (metaB s5 size K, v) ∧ 1 ≤ size ∧ size ≤ 4 ∧ total K < 256 ^ size ∧ K.length < 256 ^ size := by
      intro k2 hk2
      obtain ⟨k3, rfl⟩ : ∃ k3, k2 = k3 + 1 := ⟨k2 - 1, by omega⟩
      rw [spec_PutVariant.j1]
      exact pv_l1 f0 f1 f2 f3 f4 f5 d s2 s3 s4 s5 more K (by omega) v a b ha1 ha hv hT K.length 0 k3 0 (by omega) (by omega) (by rw [List.drop_zero]; omega)
    rw [spec_PutVariant.l0, if_neg (by omega), collect_f n f0 f1 f2 f3 f4 f5 hd _ (by omega), Option.bind_some]
    cases s5 with
    | true =>
      rw [if_pos rfl]
      unfold sort_Strings.f
      rw [if_pos (by omega), Option.bind_some]
      have e : ssort (addAll (flat n ⟨f0, f1, f2, f3, f4, f5⟩) (addAll more [])) = K := by rw [hKe]; rfl
      rw [e]
      exact fin k (by omega)
    | false =>
      rw [if_neg (by simp)]
      have e : addAll (flat n ⟨f0, f1, f2, f3, f4, f5⟩) (addAll more []) = K := by rw [hKe]; rfl
      rw [e]
      exact fin k (by omega)
  | m + 1, i, k + 1, L, h, hk, hL => by
    have hi : i < more.length := by omega
    have hLl : L.length ≤ 20 := by
      rw [hL]
      refine Nat.le_trans (addAll_le _ _) ?_
      rw [List.length_nil, List.length_take]
      omega
    rw [spec_PutVariant.l0, if_pos (by omega), if_pos (by omega), if_pos (by omega), rdOf_at _ _ hi, hasText_k _ _ (by omega) k (by omega), Option.bind_some, w64_succ i (by omega)]
    by_cases hs : more[i] ∈ L
    · rw [if_pos (decide_eq_true hs)]
      refine pv_l0 hd hm K hKe hK v a b ha1 ha hv hT m (i + 1) k L (by omega) (by omega) ?_
      rw [take_snoc _ _ hi, addAll_snoc, ← hL, if_pos hs]
    · rw [if_neg (by simpa using hs), if_pos (by omega)]
      refine pv_l0 hd hm K hKe hK v a b ha1 ha hv hT m (i + 1) k (L ++ [more[i]]) (by omega) (by omega) ?_
      rw [take_snoc _ _ hi, addAll_snoc, ← hL, if_neg hs]
end
theorem dict_mem (n : Nat) (x : S26) (s5 : Bool) (more : List ByteArray) (k : ByteArray) : k ∈ dict n x s5 more ↔ k ∈ more ∨ k ∈ flat n x := by
  unfold dict
  split
  · rw [mem_ssort, mem_addAll, mem_addAll]
    simp
  · rw [mem_addAll, mem_addAll]
    simp
/-- PutVariant, in plain terms. -/
theorem put_variant (n : Nat) (x : S26) (hd : dep n x) (hf : fine n x) (hn : nodes n x ≤ 20000) (a b : Nat) (s2 s3 s4 s5 : Bool) (more : List ByteArray) (hw : WaysOk (a : Int) (b : Int) more) (hc : (addAll (flat n x) []).length + more.length ≤ 49) :
    ∃ (size : Nat) (v : List Int), spec_PutVariant.f 1000 x.f0 x.f1 x.f2 x.f3 x.f4 x.f5 (a : Int) (b : Int) s2 s3 s4 s5 more = some (metaB s5 size (dict n x s5 more), v) ∧ Dict s5 (dict n x s5 more) size := by
  have ho1 := hw.o1; have ho2 := hw.o2; have hi1 := hw.i1; have hi2 := hw.i2; have hm := hw.many
  have hlen : (addAll (flat n x) (addAll more [])).length ≤ 49 := by
    have h1 := addAll_len (flat n x) [] (addAll more []) (fun _ h => by cases h)
    have h2 := addAll_le more []
    rw [List.length_nil] at h1 h2
    omega
  have hK : (dict n x s5 more).length ≤ 49 := by
    unfold dict
    split
    · rw [ssort_len]; exact hlen
    · exact hlen
  have hsh : ∀ k ∈ dict n x s5 more, k.size ≤ 200 := by
    intro k hk
    rcases (dict_mem n x s5 more k).1 hk with h | h
    · exact Nat.le_trans (hw.short k h) (by omega)
    · exact fine_flat n x hf k h
  have hT := total_le 200 _ hsh
  obtain ⟨v, hv, _⟩ := put_there a b s2 s3 s4 s5 more n x (dict n x s5 more) hd (put_good a b (by omega) (by omega) (by omega) (by omega) s2 s3 s4 s5 more (dict n x s5 more) (by omega) n x hd hf (fun k hk => (dict_mem n x s5 more k).2 (.inr hk)) hn)
  have hnd : (addAll (flat n x) (addAll more [])).Nodup := addAll_nodup _ _ (addAll_nodup _ _ List.nodup_nil)
  have hd2 : dep n ⟨x.f0, x.f1, x.f2, x.f3, x.f4, x.f5⟩ := by cases x; exact hd
  have hde : dict n x s5 more = dict n ⟨x.f0, x.f1, x.f2, x.f3, x.f4, x.f5⟩ s5 more := by cases x; rfl
  obtain ⟨size, hs, h1, h4, ht, hcn⟩ := pv_l0 n x.f0 x.f1 x.f2 x.f3 x.f4 x.f5 (b : Int) s2 s3 s4 s5 more hd2 hm (dict n x s5 more) hde hK v a b (by omega) (by omega) hv (by omega) more.length 0 1000 [] (by omega) (by omega) (by simp [addAll])
  refine ⟨size, v, hs, h1, h4, ht, hcn, hK, hsh, ?_, ?_⟩
  · unfold dict
    split
    · exact ssort_nodup _ hnd
    · exact hnd
  · intro h5
    unfold dict
    rw [if_pos h5]
    exact ssort_sorted _
/-! ## spec.VariantKeys: its parts -/
theorem set_same {w : World} {g j : Nat} {cs : Array Value} {t : TypeId} {fr : Nat × Nat} {v : Value} (h : w.heap[g]? = some (.cells cs t fr)) (hv : cs[j]? = some v) : w.setCell ⟨g, j, none⟩ v = w := by
  rw [Go.Sort.setCell_eq]
  refine Go.Sort.mapBlock_id _ _ _ fun c e fr' hc => ?_
  rw [h] at hc
  cases hc
  apply Array.ext_getElem?
  intro k
  rw [Array.getElem?_setIfInBounds]
  split
  · rename_i e
    subst e
    split
    · exact hv.symm
    · rename_i hb
      rw [Array.getElem?_eq_none (by omega)]
  · rfl
def Vs (g : Nat) (A : Option Addr) (n c : Nat) (w : World) : Prop := w.heap[g]? = some (.cells #[.slice none 0 0, .slice A n c, .bool false] 59 (0, 0))
theorem Vs.below {g : Nat} {A : Option Addr} {n c : Nat} {w W : World} (h : Vs g A n c w) (hb : Below w.heap.size w W) : Vs g A n c W := blk_below h hb
theorem Vs.drewN {g : Nat} {A : Option Addr} {n c : Nat} {w : World} (h : Vs g A n c w) (q : Nat) : Vs g A n c (w.drewN q) := h
theorem need25 (g : Nat) (A : Option Addr) (n c : Nat) (w : World) (h : Vs g A n c w) : Calls Tryd.prog 25 #[.pointer (some ⟨g, 0, none⟩), .bool true] w fun e w' => e = .returned (.bool true) ∧ Drawn0 w w' := by
  have HS := Aside0.mk (set_same (j := 2) (v := .bool false) h rfl)
  have h2 : w.cell? ⟨g, 2, none⟩ = some (.bool false) := (blk_cell h 2).trans rfl
  have f2 := blk_frozen h 2
  clear h
  go_enter Tryd.func25, Tryd.ntmps25
  go_wp2
  go_ret
  exact ⟨rfl, by rw [HS.out]; exact Drawn0.refl _⟩
theorem or8 (v b : Nat) (hb : b < 256) (hv : v < 72057594037927936) : Go.bits .or .u64 (IntKind.u64.wrap ((v : Int) * 256)) (IntKind.u64.wrap (b : Int)) = ((v * 256 + b : Nat) : Int) := by
  have h1 : IntKind.u64.wrap ((v : Int) * 256) = ((v * 256 : Nat) : Int) := by
    rw [show (v : Int) * 256 = ((v * 256 : Nat) : Int) by omega]
    exact u64_nat _ (by omega)
  have e := Nat.two_pow_add_eq_or_of_lt (i := 8) (b := b) (by omega) v
  rw [h1, u64_nat b (by omega), bits_or_u64_nat _ _ (by omega) (by omega), show v * 256 = 2 ^ 8 * v by omega, ← e]
theorem rd_at (l : List Int) (i : Nat) (h : i < l.length) : rd l (i : Int) = l[i] := by
  unfold rd
  rw [Int.toNat_natCast, List.getD_eq_getElem?_getD, List.getElem?_eq_getElem h]
  rfl
theorem little_down (D : List Int) (p wd v : Nat) (hD : (D.drop p).take wd = low wd v) (hv : v < 256 ^ wd) (hw : wd ≤ 4) (hl : p + wd ≤ D.length) (hDl : D.length ≤ 1000000000) : ∀ (m k : Nat), m ≤ wd → m + 1 ≤ k → spec_little.l0 k D (p : Int) ((v / 256 ^ m : Nat) : Int) ((m : Int) - 1) = some (v : Int)
  | _, 0, _, hk => by omega
  | 0, k + 1, hm, hk => by
    rw [spec_little.l0, if_neg (by omega), Nat.pow_zero, Nat.div_one]
  | m + 1, k + 1, hm, hk => by
    have hpm : p + m < D.length := by omega
    have hbyte : D[p + m] = ((v / 256 ^ m % 256 : Nat) : Int) := by
      have h1 : ((D.drop p).take wd)[m]? = (low wd v)[m]? := by rw [hD]
      rw [List.getElem?_take_of_lt (by omega), List.getElem?_drop, List.getElem?_eq_getElem hpm] at h1
      unfold low at h1
      rw [List.getElem?_map, List.getElem?_range (by omega)] at h1
      exact Option.some.inj h1
    have hdiv : v / 256 ^ (m + 1) * 256 + v / 256 ^ m % 256 = v / 256 ^ m := by
      rw [Nat.pow_succ, ← Nat.div_div_eq_div_mul]
      omega
    have hsm : v / 256 ^ (m + 1) < 72057594037927936 := by
      have h4 : (256 : Nat) ^ wd ≤ 256 ^ 4 := Nat.pow_le_pow_right (by omega) hw
      have h5 := Nat.div_le_self v (256 ^ (m + 1))
      omega
    have ih := little_down D p wd v hD hv hw hl hDl m k (by omega) (by omega)
    rw [show ((m + 1 : Nat) : Int) - 1 = (m : Int) by omega, spec_little.l0, if_pos (by omega), w64_add p m (by omega), if_pos (by omega), if_pos (by omega), rd_at _ _ hpm, hbyte, or8 _ _ (Nat.mod_lt _ (by omega)) hsm, hdiv, show wrap64 ((m : Int) - 1) = (m : Int) - 1 by unfold wrap64; omega]
    exact ih
theorem little_read (D : List Int) (p wd v : Nat) (hD : (D.drop p).take wd = low wd v) (hv : v < 256 ^ wd) (hw : wd ≤ 4) (hl : p + wd ≤ D.length) (hDl : D.length ≤ 1000000000) : spec_little.f (wd + 1) D (p : Int) (wd : Int) = some (v : Int) := by
  have h := little_down D p wd v hD hv hw hl hDl wd (wd + 1) (Nat.le_refl _) (Nat.le_refl _)
  unfold spec_little.f
  rw [Nat.div_eq_of_lt hv] at h
  rw [show wrap64 ((wd : Int) - 1) = (wd : Int) - 1 by unfold wrap64; omega]
  exact h
theorem number24 (g : Nat) (A : Option Addr) (n c : Nat) (D : List Int) (p wd v : Nat) (w : World) (h : Vs g A n c w) (hC : (Kd.int .u8).C w A n D) (hc : n ≤ c) (hn : n ≤ 1000000000) (hl : p + wd ≤ n) (hw : wd ≤ 4) (hD : (D.drop p).take wd = low wd v) (hv : v < 256 ^ wd) :
    Calls Tryd.prog 24 #[.pointer (some ⟨g, 0, none⟩), .int .i64 (p : Int), .int .i64 (wd : Int)] w fun e w' => e = .returned (.int .u64 (v : Int)) ∧ Drawn0 w w' := by
  have hDl : D.length = n := hC.1
  subst hDl
  have N := Aside0.mk (need25 g A D.length c w h)
  have HL := Aside0.mk (fun W (hW : Drawn0 w W) => spec_little.calls (wd + 1) A c D (p : Int) (wd : Int) (v : Int) W (by obtain ⟨q, rfl⟩ := hW; exact hC) hc (little_read D p wd v hD hv hw hl hn))
  have h1 : w.cell? ⟨g, 1, none⟩ = some (.slice A D.length c) := (blk_cell h 1).trans rfl
  have e0 : (0 : Int) ≤ (p : Int) := by omega
  have e1 : wrap64 ((p : Int) + (wd : Int)) = (p : Int) + (wd : Int) := by unfold wrap64; omega
  have e2 : (p : Int) + (wd : Int) ≤ (D.length : Int) := by omega
  clear h hC hc hn hl hw hD hv
  go_enter Tryd.func24, Tryd.ntmps24
  go_wp2_with (first | (go_at_call 25; refine Calls.mono N.out ?_; rintro r w9 ⟨rfl, ⟨q, rfl⟩⟩) | (go_at_call 43; refine Calls.mono (HL.out _ ⟨_, rfl⟩) ?_; rintro r w10 ⟨rfl, ⟨q2, rfl⟩⟩))
  go_ret
  exact ⟨rfl, ⟨_, rfl⟩⟩
theorem str_bytes (s : ByteArray) : strOfNums (bytesOf s) = s := by
  unfold strOfNums bytesOf
  rw [List.map_map]
  have e : (s.data.toList.map ((fun n : Int => UInt8.ofNat n.toNat) ∘ fun b => (b.toNat : Int))) = s.data.toList := by
    conv => rhs; rw [← List.map_id s.data.toList]
    apply List.map_congr_left
    intro b _
    simp
  rw [e]
set_option maxRecDepth 100000 in
theorem cut34 (w : World) (A : Option Addr) (c : Nat) (D : List Int) (hC : (Kd.int .u8).C w A D.length D) (hc : D.length ≤ c) (p m : Nat) (hl : p + m ≤ D.length) (hn : D.length ≤ 1000000000) :
    ∃ (A2 : Option Addr) (c2 : Nat), (∀ W : World, (Instr.slice 34 (.slice A D.length c) (some (.int .i64 (p : Int))) (some (.int .i64 ((p : Int) + (m : Int)))) none).run Tryd.prog W = .ok (.slice A2 m c2) W) ∧ m ≤ c2 ∧ (Kd.int .u8).C w A2 m ((D.drop p).take m) := by
  obtain ⟨i5, hi5, hz5⟩ := Option.map_eq_some_iff.1 info5
  have hsz : i5.size = 1 := by injection hz5 with _ h; injection h
  have h1 := fun W => cut_mid (P := Tryd.prog) 34 5 .i64 .i64 Tryd.underlying34 hi5 1 hsz A D.length c (p : Int) ((p : Int) + (m : Int)) (by omega) (by omega) (by omega) hc W
  have h2 := Kd.C_mid (lo := p) (hi := p + m) hC (by omega) hl hc
  have e1 : (D.take (p + m)).drop p = (D.drop p).take m := by rw [List.drop_take]; congr 1; omega
  have e2 : ((D.drop p).take m).length = m := by rw [List.length_take, List.length_drop]; omega
  rw [e1, e2] at h2
  refine ⟨_, c - p, fun W => ?_, by omega, h2⟩
  rw [h1 W, show ((p : Int) + (m : Int)).toNat = p + m by omega, Int.toNat_natCast, show p + m - p = m by omega]
  rfl
theorem text26 (g : Nat) (A : Option Addr) (n c : Nat) (D : List Int) (p m : Nat) (s : ByteArray) (w : World) (h : Vs g A n c w) (hC : (Kd.int .u8).C w A n D) (hc : n ≤ c) (hn : n ≤ 1000000000) (hl : p + m ≤ n) (hD : (D.drop p).take m = bytesOf s) :
    Calls Tryd.prog 26 #[.pointer (some ⟨g, 0, none⟩), .int .i64 (p : Int), .int .i64 (m : Int)] w fun e w' => e = .returned (.string s) ∧ Drawn0 w w' := by
  have hDl : D.length = n := hC.1
  subst hDl
  have N := Aside0.mk (need25 g A D.length c w h)
  obtain ⟨A2, c2, hsl, hc2, hC2⟩ := cut34 w A c D hC hc p m hl hn
  rw [hD] at hC2
  have hml : (bytesOf s).length = m := hC2.1
  have hcv : ∀ q, (convert 34 9 (.slice A2 m c2)).run Tryd.prog (w.drewN q) = .ok (.string s) (w.drewN q) := fun q => by
    have := Kd.C_string (c := c2) Tryd.underlying34 Tryd.underlying5 Tryd.underlying9 (show (Kd.int .u8).C (w.drewN q) A2 m (bytesOf s) from hC2)
    rw [str_bytes] at this
    exact this
  have h1 : w.cell? ⟨g, 1, none⟩ = some (.slice A D.length c) := (blk_cell h 1).trans rfl
  have e0 : (0 : Int) ≤ (p : Int) := by omega
  have e3 : (0 : Int) ≤ (m : Int) := by omega
  have e1 : wrap64 ((p : Int) + (m : Int)) = (p : Int) + (m : Int) := by unfold wrap64; omega
  have e2 : (p : Int) + (m : Int) ≤ (D.length : Int) := by omega
  have e4 : (m : Int) ≤ (D.length : Int) := by omega
  clear h hC hc hn hl hD hC2 hc2 hml
  go_enter Tryd.func26, Tryd.ntmps26
  go_wp2_with (go_at_call 25; refine Calls.mono N.out ?_; rintro r w9 ⟨rfl, ⟨q, rfl⟩⟩; have hcq := hcv q)
  go_ret
  exact ⟨rfl, ⟨_, rfl⟩⟩

end Go.Proofs.YtobhegbhljbjhaaDoor.Vk
