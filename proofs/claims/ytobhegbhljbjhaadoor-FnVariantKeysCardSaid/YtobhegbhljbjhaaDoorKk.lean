/- putMany answers. put of an object, of an array. -/
import Derived.Test.YtobhegbhljbjhaaDoorKh
namespace Go.Proofs.YtobhegbhljbjhaaDoor.Vk
set_option linter.unusedVariables false
set_option linter.unusedSimpArgs false
open Go.RowKit Go.IntWalk Go.Proofs.YtobhegbhljbjhaaDoorW.PrintWords Go.Proofs.YtobhegbhljbjhaaDoorW.PrintLast Go.Proofs.YtobhegbhljbjhaaDoorW.PrintMore Go.Proofs.YtobhegbhljbjhaaDoor.MVkS
attribute [local go_sem] max2_int min2_int max_two min_two max_three min_three max_four min_four
/-! ## putMany answers -/
theorem shl_pow (a : Nat) (h1 : 1 ≤ a) (h4 : a ≤ 4) : shl .i64 1 (wrap64 (8 * (a : Int))) = ((256 ^ a : Nat) : Int) := by
  match a, h1, h4 with
  | 1, _, _ => decide +kernel
  | 2, _, _ => decide +kernel
  | 3, _, _ => decide +kernel
  | 4, _, _ => decide +kernel
theorem size_l (z : Int) (h : z < 4294967296) : ∀ (d a k : Nat), a + d = 4 → 1 ≤ a → d + 1 ≤ k → ∃ s : Nat, spec_sizeFor.l0 k z (a : Int) = some (s : Int) ∧ a ≤ s ∧ s ≤ 4 ∧ z < ((256 ^ s : Nat) : Int)
  | _, _, 0, _, _, hk => by omega
  | 0, a, k + 1, ha, h1, hk => by
    have e : a = 4 := by omega
    subst e
    refine ⟨4, ?_, by omega, by omega, by simpa using h⟩
    rw [spec_sizeFor.l0, if_pos (by unfold wrap64; omega), shl_pow 4 (by omega) (by omega), if_neg (by simp; omega)]
  | d + 1, a, k + 1, ha, h1, hk => by
    rw [spec_sizeFor.l0, if_pos (by unfold wrap64; omega), shl_pow a (by omega) (by omega)]
    by_cases hz : z ≥ ((256 ^ a : Nat) : Int)
    · rw [if_pos hz, show wrap64 ((a : Int) + 1) = ((a + 1 : Nat) : Int) by unfold wrap64; omega]
      obtain ⟨s, h1, h2, h3, h4⟩ := size_l z h d (a + 1) k (by omega) (by omega) (by omega)
      exact ⟨s, h1, by omega, h3, h4⟩
    · rw [if_neg hz]
      exact ⟨a, rfl, Nat.le_refl _, by omega, by omega⟩
/-- How many bytes a number needs. -/
theorem size_some (z : Int) (h : z < 4294967296) (a k : Nat) (h1 : 1 ≤ a) (h4 : a ≤ 4) (hk : 4 ≤ k) : ∃ s : Nat, spec_sizeFor.f k z (a : Int) = some (s : Int) ∧ a ≤ s ∧ s ≤ 4 ∧ z < ((256 ^ s : Nat) : Int) := size_l z h (4 - a) a k (by omega) h1 (by omega)
theorem many_l3 (body : List Int) (off : Nat) (ho : off ≤ 4) (p : List Int) (hp : p.length ≤ 1000) : ∀ (m i k : Nat) (out : List Int), i + m = p.length → m + 10 ≤ k → out.length + 4 * (m + 1) + body.length ≤ 100000000000 → ∃ r, spec_Ways_putMany.l3 k body (off : Int) out p (p.length : Int) (i : Int) = some r ∧ r.length ≤ out.length + 4 * (m + 1) + body.length
  | _, _, 0, _, _, hk, _ => by omega
  | 0, i, k + 1, out, h, hk, hb => by
    rw [spec_Ways_putMany.l3, if_neg (by omega), little_zk _ off k (by omega) (by omega), Option.bind_some, if_pos (by rw [lowZ_len]; omega), Option.bind_some, if_pos (by rw [List.length_append, lowZ_len]; omega)]
    exact ⟨_, rfl, by simp only [List.length_append, lowZ_len]; omega⟩
  | m + 1, i, k + 1, out, h, hk, hb => by
    rw [spec_Ways_putMany.l3, if_pos (by omega), if_pos (by omega), if_pos (by omega), little_zk _ off k (by omega) (by omega), Option.bind_some, if_pos (by rw [lowZ_len]; omega), show wrap64 ((i : Int) + 1) = ((i + 1 : Nat) : Int) by unfold wrap64; omega]
    obtain ⟨r, hr, hl⟩ := many_l3 body off ho p hp m (i + 1) k (out ++ lowZ off (IntKind.u64.wrap (rd p (i : Int)))) (by omega) (by omega) (by rw [List.length_append, lowZ_len]; omega)
    exact ⟨r, hr, by rw [List.length_append, lowZ_len] at hl; omega⟩
theorem many_j4 (body : List Int) (off : Nat) (ho : off ≤ 4) (p : List Int) (hp : p.length ≤ 1000) : ∀ (k : Nat) (out : List Int), p.length + 11 ≤ k → out.length + 4 * (p.length + 1) + body.length ≤ 100000000000 → ∃ r, spec_Ways_putMany.j4 k p body (off : Int) out = some r ∧ r.length ≤ out.length + 4 * (p.length + 1) + body.length
  | 0, _, hk, _ => by omega
  | k + 1, out, hk, hb => by
    rw [spec_Ways_putMany.j4]
    exact many_l3 body off ho p hp p.length 0 k out (by omega) (by omega) hb
theorem many_l2 (K : List ByteArray) (hK : K.length ≤ 1000) (p body : List Int) (off id : Nat) (hid : id ≤ 4) (L : List ByteArray) (i : Nat) (s : ByteArray) (F B : Nat) (hF : 10 ≤ F) (out : List Int) (hout : out.length ≤ 1000000)
    (hc : ∀ (k : Nat) (out' : List Int), F ≤ k → out'.length = out.length + id → ∃ r, spec_Ways_putMany.l1 k K p body (off : Int) out' (id : Int) L (L.length : Int) (wrap64 ((i : Int) + 1)) = some r ∧ r.length ≤ B) :
    ∀ (d j k : Nat), j + d = K.length → s ∈ K.drop j → F + d ≤ k → ∃ r, spec_Ways_putMany.l2 k K p body (off : Int) out (id : Int) s (j : Int) L (L.length : Int) (i : Int) = some r ∧ r.length ≤ B
  | _, _, 0, _, _, hk => by omega
  | 0, j, k + 1, h, hs, hk => by rw [List.drop_eq_nil_of_le (by omega)] at hs; cases hs
  | d + 1, j, k + 1, h, hs, hk => by
    have hj : j < K.length := by omega
    rw [spec_Ways_putMany.l2, if_pos (by omega), if_pos (by omega), rdOf_at _ _ hj]
    by_cases e : K[j].toList = s.toList
    · rw [if_pos e, little_zk _ id k (by omega) (by omega), Option.bind_some, if_pos (by rw [lowZ_len]; omega)]
      exact hc k _ (by omega) (by rw [List.length_append, lowZ_len])
    · rw [if_neg e, show wrap64 ((j : Int) + 1) = ((j + 1 : Nat) : Int) by unfold wrap64; omega]
      refine many_l2 K hK p body off id hid L i s F B hF out hout hc d (j + 1) k (by omega) ?_ (by omega)
      rw [List.drop_eq_getElem_cons hj, List.mem_cons] at hs
      rcases hs with h1 | h1
      · exact absurd (by rw [h1]) e
      · exact h1
theorem many_l1 (K : List ByteArray) (hK : K.length ≤ 1000) (p body : List Int) (hp : p.length ≤ 1000) (off id : Nat) (ho : off ≤ 4) (hid : id ≤ 4) (hb : body.length ≤ 1000000000) (L : List ByteArray) (hL : ∀ s ∈ L, s ∈ K) (hLl : L.length ≤ 500) :
    ∀ (m i k : Nat) (out : List Int), i + m = L.length → p.length + 30 + m * (K.length + 2) ≤ k → out.length + 4 * m ≤ 1000000 → ∃ r, spec_Ways_putMany.l1 k K p body (off : Int) out (id : Int) L (L.length : Int) (i : Int) = some r ∧ r.length ≤ out.length + 4 * m + 4 * (p.length + 1) + body.length
  | _, _, 0, _, _, hk, _ => by omega
  | 0, i, k + 1, out, h, hk, ho2 => by
    rw [spec_Ways_putMany.l1, if_neg (by omega)]
    exact many_j4 body off ho p hp k out (by omega) (by omega)
  | m + 1, i, k + 1, out, h, hk, ho2 => by
    have hi : i < L.length := by omega
    rw [spec_Ways_putMany.l1, if_pos (by omega), if_pos (by omega), if_pos (by omega), rdOf_at _ _ hi]
    rw [Nat.succ_mul] at hk
    refine many_l2 K hK p body off id hid L i L[i] (p.length + 30 + m * (K.length + 2)) _ (by omega) out (by omega) ?_ K.length 0 k (by omega) (by rw [List.drop_zero]; exact hL _ (List.getElem_mem hi)) (by omega)
    intro k2 out2 hk2 hl2
    rw [show wrap64 ((i : Int) + 1) = ((i + 1 : Nat) : Int) by unfold wrap64; omega]
    obtain ⟨r, hr, hl⟩ := many_l1 K hK p body hp off id ho hid hb L hL hLl m (i + 1) k2 out2 (by omega) hk2 (by omega)
    exact ⟨r, hr, by omega⟩
theorem truth_f (b : Bool) : ∃ t : Int, spec_truthInt.f b = some t ∧ (t = 0 ∨ t = 1) := by
  cases b
  · exact ⟨0, rfl, .inl rfl⟩
  · exact ⟨1, rfl, .inr rfl⟩
theorem many_j1 (K : List ByteArray) (hK : K.length ≤ 1000) (p body : List Int) (hp : p.length ≤ 500) (hb : body.length ≤ 1000000000) (L : List ByteArray) (hL : ∀ s ∈ L, s ∈ K) (hLl : L.length ≤ 500) (off d : Nat) (ho : off ≤ 4) (hd1 : 1 ≤ d) (hd : d ≤ 4) (n : Nat) (lg : Bool) (o : Int) (s2 s3 s4 s5 : Bool) (more : List ByteArray) (a0 a1 a2 : Int) (a3 : ByteArray) (kids : List S26) :
    ∀ k : Nat, 1000000 ≤ k → ∃ r, spec_Ways_putMany.j1 k K (n : Int) p body (off : Int) lg o (d : Int) s2 s3 s4 s5 more a0 a1 a2 a3 L kids = some r ∧ r.length ≤ body.length + 5000
  | 0, hk => by omega
  | k + 1, hk => by
    obtain ⟨t, ht, ht2⟩ := truth_f lg
    obtain ⟨cw, hcw, hc8⟩ : ∃ cw : Nat, wrap64 (1 + wrap64 (3 * t)) = (cw : Int) ∧ cw ≤ 4 := by
      rcases ht2 with rfl | rfl
      · exact ⟨1, by decide +kernel, by omega⟩
      · exact ⟨4, by decide +kernel, by omega⟩
    rw [spec_Ways_putMany.j1, ht, Option.bind_some]
    by_cases ha : a0 = 1
    · rw [if_pos ha, Option.bind_some, Option.bind_some, hcw, little_zk _ cw k (by omega) (by omega), Option.bind_some, if_pos (by rw [lowZ_len]; simp; omega)]
      have key : ∀ out : List Int, out.length ≤ 5 → ∃ r, spec_Ways_putMany.j4 k p body (off : Int) out = some r ∧ r.length ≤ body.length + 5000 := fun out ho5 => by
        obtain ⟨r, hr, hl⟩ := many_j4 body off ho p (by omega) k out (by omega) (by omega)
        exact ⟨r, hr, by omega⟩
      exact key _ (by rw [List.length_append, lowZ_len, List.length_singleton]; omega)
    · obtain ⟨s, hs, h1, h4, _⟩ := size_some (K.length : Int) (by omega) d k hd1 hd (by omega)
      rw [if_neg ha, hs, Option.bind_some, Option.bind_some, Option.bind_some, hcw, little_zk _ cw k (by omega) (by omega), Option.bind_some, if_pos (by rw [lowZ_len]; simp; omega)]
      have hmul : L.length * (K.length + 2) ≤ 500 * 1002 := Nat.mul_le_mul hLl (by omega)
      have key : ∀ out : List Int, out.length ≤ 5 → ∃ r, spec_Ways_putMany.l1 k K p body (off : Int) out (s : Int) L (L.length : Int) 0 = some r ∧ r.length ≤ body.length + 5000 := fun out ho5 => by
        obtain ⟨r, hr, hl⟩ := many_l1 K hK p body (by omega) off s ho h4 hb L hL hLl L.length 0 k out (by omega) (by omega) (by omega)
        exact ⟨r, hr, by omega⟩
      exact key _ (by rw [List.length_append, lowZ_len, List.length_singleton]; omega)
/-- The kids' order. -/
def ord (b : Bool) (a0 : Int) (kids : List S26) : List S26 := if b = true ∧ a0 = 0 then kids.reverse else kids
theorem many_l0 (o d : Nat) (ho1 : 1 ≤ o) (ho : o ≤ 4) (hd1 : 1 ≤ d) (hd : d ≤ 4) (s2 s3 s4 s5 : Bool) (more : List ByteArray) (a0 a1 a2 : Int) (a3 : ByteArray) (L : List ByteArray) (kids : List S26) (K : List ByteArray) (hK : K.length ≤ 1000) (hL : ∀ s ∈ L, s ∈ K) (hLl : L.length ≤ 500) (hkl : kids.length ≤ 500)
    (f : S26 → Nat) (hf : ∀ u ∈ kids, ∃ r, spec_Ways_put.f (o : Int) (d : Int) s2 s3 s4 s5 more u.f0 u.f1 u.f2 u.f3 u.f4 u.f5 K = some r ∧ r.length ≤ f u) (B : Nat) (hB : B ≤ 400000000) :
    ∀ (m i k : Nat) (p body : List Int), i + m = kids.length → p.length = kids.length → 2000000 + m ≤ k → body.length + (((ord s4 a0 kids).drop i).map f).sum ≤ B →
      ∃ r, spec_Ways_putMany.l0 k K (kids.length : Int) p body (kids.length : Int) (i : Int) (o : Int) (d : Int) s2 s3 s4 s5 more a0 a1 a2 a3 L kids = some r ∧ r.length ≤ B + 5000
  | _, _, 0, _, _, _, _, hk, _ => by omega
  | 0, i, k + 1, p, body, h, hp, hk, hs => by
    rw [spec_Ways_putMany.l0, if_neg (by omega)]
    obtain ⟨s, hsz, h1, h4, _⟩ := size_some (body.length : Int) (by omega) o k ho1 ho (by omega)
    rw [hsz, Option.bind_some]
    have key : ∀ lg : Bool, ∃ r, spec_Ways_putMany.j1 k K (kids.length : Int) p body (s : Int) lg (o : Int) (d : Int) s2 s3 s4 s5 more a0 a1 a2 a3 L kids = some r ∧ r.length ≤ B + 5000 := fun lg => by
      obtain ⟨r, hr, hl⟩ := many_j1 K hK p body (by omega) (by omega) L hL hLl s d h4 hd1 hd kids.length lg (o : Int) s2 s3 s4 s5 more a0 a1 a2 a3 kids k (by omega)
      exact ⟨r, hr, by omega⟩
    split
    · exact key _
    · exact key _
  | m + 1, i, k + 1, p, body, h, hp, hk, hs => by
    have hol : (ord s4 a0 kids).length = kids.length := by unfold ord; split <;> simp
    have hi : i < (ord s4 a0 kids).length := by omega
    have step : ∀ (j : Nat) (hj : j < kids.length), kids[j] = (ord s4 a0 kids)[i] → ∃ r, ((spec_Ways_put.f (o : Int) (d : Int) s2 s3 s4 s5 more ((rd_T26 kids (j : Int)).f0) ((rd_T26 kids (j : Int)).f1) ((rd_T26 kids (j : Int)).f2) ((rd_T26 kids (j : Int)).f3) ((rd_T26 kids (j : Int)).f4) ((rd_T26 kids (j : Int)).f5) K).bind fun t155 => (if body.length + t155.length < 140737488355328 then (spec_Ways_putMany.l0 k K (kids.length : Int) (p.set ((j : Int)).toNat (body.length : Int)) (body ++ t155) (kids.length : Int) (wrap64 ((i : Int) + 1)) (o : Int) (d : Int) s2 s3 s4 s5 more a0 a1 a2 a3 L kids) else (none))) = some r ∧ r.length ≤ B + 5000 := by
      intro j hj e
      rw [List.drop_eq_getElem_cons hi, List.map_cons, List.sum_cons, ← e] at hs
      obtain ⟨r, hr, hl⟩ := hf kids[j] (List.getElem_mem hj)
      rw [rdT_at _ _ hj, hr, Option.bind_some, if_pos (by omega), show wrap64 ((i : Int) + 1) = ((i + 1 : Nat) : Int) by unfold wrap64; omega]
      exact many_l0 o d ho1 ho hd1 hd s2 s3 s4 s5 more a0 a1 a2 a3 L kids K hK hL hLl hkl f hf B hB m (i + 1) k _ _ (by omega) (by rw [List.length_set]; exact hp) (by omega) (by rw [List.length_append]; omega)
    rw [spec_Ways_putMany.l0, if_pos (by omega)]
    by_cases h4 : s4 = true
    · rw [if_pos h4]
      by_cases h0 : a0 = 0
      · have e : wrap64 (wrap64 ((kids.length : Int) - 1) - (i : Int)) = ((kids.length - 1 - i : Nat) : Int) := by unfold wrap64; omega
        rw [if_pos h0, e, if_pos (by omega), if_pos (by omega), if_pos (by omega)]
        refine step _ (by omega) ?_
        simp only [ord, h4, h0, and_self, if_true, List.getElem_reverse]
      · rw [if_neg h0, if_pos (by omega), if_pos (by omega), if_pos (by omega)]
        refine step i (by omega) ?_
        simp only [ord, h0, and_false, if_false]
    · rw [if_neg h4, if_pos (by omega), if_pos (by omega), if_pos (by omega)]
      refine step i (by omega) ?_
      have h4b : s4 = false := by cases s4 <;> simp_all
      subst h4b
      rfl
theorem sum_mul (g : S26 → Nat) (c : Nat) : ∀ l : List S26, (l.map fun u => c * g u).sum = c * (l.map g).sum
  | [] => by simp
  | u :: l => by rw [List.map_cons, List.sum_cons, sum_mul g c l, List.map_cons, List.sum_cons, Nat.mul_add]
theorem ord_sum (b : Bool) (a0 : Int) (kids : List S26) (f : S26 → Nat) : ((ord b a0 kids).map f).sum = (kids.map f).sum := by
  unfold ord
  split
  · rw [List.map_reverse, List.sum_reverse]
  · rfl
theorem nodes_dep : ∀ (n m : Nat) (x : S26), dep n x → dep m x → nodes n x = nodes m x
  | 0, _, _, h, _ => h.elim
  | _, 0, _, _, h => h.elim
  | n + 1, m + 1, x, h, g => by
    unfold nodes
    congr 2
    exact List.map_congr_left fun u hu => nodes_dep n m u (h u hu) (g u hu)
/-- putMany answers where put answers for the kids. -/
theorem many_some (n : Nat) (o d : Nat) (ho1 : 1 ≤ o) (ho : o ≤ 4) (hd1 : 1 ≤ d) (hd : d ≤ 4) (s2 s3 s4 s5 : Bool) (more : List ByteArray) (x : S26) (K : List ByteArray) (hK : K.length ≤ 1000) (hL : ∀ s ∈ x.f4, s ∈ K) (hLl : x.f4.length ≤ 500) (hkl : x.f5.length ≤ 500)
    (hf : ∀ u ∈ x.f5, ∃ r, spec_Ways_put.f (o : Int) (d : Int) s2 s3 s4 s5 more u.f0 u.f1 u.f2 u.f3 u.f4 u.f5 K = some r ∧ r.length ≤ 20000 * nodes n u) (hn : nodes (n + 1) x ≤ 20000) :
    ∃ r, spec_Ways_putMany.f 2001000 (o : Int) (d : Int) s2 s3 s4 s5 more x.f0 x.f1 x.f2 x.f3 x.f4 x.f5 K = some r ∧ r.length ≤ 20000 * nodes (n + 1) x := by
  unfold nodes at hn ⊢
  unfold spec_Ways_putMany.f
  rw [if_pos (by omega), if_pos (by omega), Int.toNat_natCast]
  have hs : ((x.f5.map fun u => 20000 * nodes n u).sum) = 20000 * (x.f5.map (nodes n)).sum := sum_mul (nodes n) 20000 x.f5
  obtain ⟨r, hr, hl⟩ := many_l0 o d ho1 ho hd1 hd s2 s3 s4 s5 more x.f0 x.f1 x.f2 x.f3 x.f4 x.f5 K hK hL hLl hkl (fun u => 20000 * nodes n u) hf (20000 * (x.f5.map (nodes n)).sum) (by omega) x.f5.length 0 2001000 (List.replicate x.f5.length 0) [] (by omega) (List.length_replicate) (by omega) (by rw [List.drop_zero, ord_sum, hs, List.length_nil]; omega)
  exact ⟨r, hr, by omega⟩
set_option maxRecDepth 100000
set_option maxHeartbeats 8000000 in
theorem put_0 (a0_0 a0_1 : Int) (a0_2 a0_3 a0_4 a0_5 : Bool) (l0_6 : List ByteArray) (a1_1 : Int) (a1_2 : Int) (a1_3 : ByteArray) (l1_4 : List ByteArray) (l1_5 : List S26) (l2 : List ByteArray) (A0_6 : Option Addr) (c0_6 : Nat) (A1_4 : Option Addr) (c1_4 : Nat) (A1_5 : Option Addr) (c1_5 : Nat) (A2 : Option Addr) (c2 : Nat) (w : World) (r : List Int)
    (hm : ∀ W : World, Below w.heap.size w W → Calls Tryd.prog 42 #[.agg #[.int .i64 a0_0, .int .i64 a0_1, .bool a0_2, .bool a0_3, .bool a0_4, .bool a0_5, .slice A0_6 l0_6.length c0_6], .agg #[.int .i64 0, .int .u64 a1_1, .int .i64 a1_2, .string a1_3, .slice A1_4 l1_4.length c1_4, .slice A1_5 l1_5.length c1_5], .slice A2 l2.length c2] W fun e w' => ∃ v0_ : Value, e = .returned (v0_) ∧ Kd.R (Kd.int .u8) 5 w' W.heap.size (fun _ => True) v0_ r ∧ Below W.heap.size W w') :
    Calls Tryd.prog 23 #[.agg #[.int .i64 a0_0, .int .i64 a0_1, .bool a0_2, .bool a0_3, .bool a0_4, .bool a0_5, .slice A0_6 l0_6.length c0_6], .agg #[.int .i64 0, .int .u64 a1_1, .int .i64 a1_2, .string a1_3, .slice A1_4 l1_4.length c1_4, .slice A1_5 l1_5.length c1_5], .slice A2 l2.length c2] w fun e w' => ∃ v0_ : Value, e = .returned (v0_) ∧ Kd.R (Kd.int .u8) 5 w' w.heap.size (fun _ => True) v0_ r ∧ Below w.heap.size w w' := by
  have HM := Aside0.mk hm
  clear hm
  have HB := Aside0.mk (Below.refl w.heap.size w)
  go_enter Tryd.func23, Tryd.ntmps23
  go_wp2_with (first | ((with_reducible refine gate_dst (N := 3) rfl ?_); refine box_event ?hg (N := 3) ?hd (cs := #[.int .i64 a0_0, .int .i64 a0_1, .bool a0_2, .bool a0_3, .bool a0_4, .bool a0_5, .slice A0_6 l0_6.length c0_6]) (t := 28) ?hr ?_; (case hd => rfl); (case hg => rfl); (case hr => first | (go_simp; done) | (go_simp; rfl)); intro gb3 hg w3 hbox hb; have BKgb3 := Aside0.mk hbox; have HB := Aside0.mk (HB.out.trans (hb.mono HB.out.size)); clear hb hbox hg) | ((with_reducible refine gate_dst (N := 4) rfl ?_); refine box_event ?hg (N := 4) ?hd (cs := #[.int .i64 0, .int .u64 a1_1, .int .i64 a1_2, .string a1_3, .slice A1_4 l1_4.length c1_4, .slice A1_5 l1_5.length c1_5]) (t := 26) ?hr ?_; (case hd => rfl); (case hg => rfl); (case hr => first | (go_simp; done) | (go_simp; rfl)); intro gb4 hg w4 hbox hb; have BKgb4 := Aside0.mk hbox; have HB := Aside0.mk (HB.out.trans (hb.mono HB.out.size)); have BKgb3 := Aside0.mk (blk_below BKgb3.out hb); have hc0 : w4.cell? ⟨gb4, 0, none⟩ = some (.int .i64 0) := (blk_cell BKgb4.out 0).trans rfl; have hc1 : w4.cell? ⟨gb4, 1, none⟩ = some (.int .u64 a1_1) := (blk_cell BKgb4.out 1).trans rfl; have hc2 : w4.cell? ⟨gb4, 2, none⟩ = some (.int .i64 a1_2) := (blk_cell BKgb4.out 2).trans rfl; have hc3 : w4.cell? ⟨gb4, 3, none⟩ = some (.string a1_3) := (blk_cell BKgb4.out 3).trans rfl; have hc4 : w4.cell? ⟨gb4, 4, none⟩ = some (.slice A1_4 l1_4.length c1_4) := (blk_cell BKgb4.out 4).trans rfl; have hc5 : w4.cell? ⟨gb4, 5, none⟩ = some (.slice A1_5 l1_5.length c1_5) := (blk_cell BKgb4.out 5).trans rfl; clear hb hbox hg; have hl0 : w4.cell? ⟨gb3, 0, none⟩ = some (.int .i64 a0_0) := (blk_cell BKgb3.out 0).trans rfl; have hl1 : w4.cell? ⟨gb3, 1, none⟩ = some (.int .i64 a0_1) := (blk_cell BKgb3.out 1).trans rfl; have hl2 : w4.cell? ⟨gb3, 2, none⟩ = some (.bool a0_2) := (blk_cell BKgb3.out 2).trans rfl; have hl3 : w4.cell? ⟨gb3, 3, none⟩ = some (.bool a0_3) := (blk_cell BKgb3.out 3).trans rfl; have hl4 : w4.cell? ⟨gb3, 4, none⟩ = some (.bool a0_4) := (blk_cell BKgb3.out 4).trans rfl; have hl5 : w4.cell? ⟨gb3, 5, none⟩ = some (.bool a0_5) := (blk_cell BKgb3.out 5).trans rfl; have hl6 : w4.cell? ⟨gb3, 6, none⟩ = some (.slice A0_6 l0_6.length c0_6) := (blk_cell BKgb3.out 6).trans rfl) | (go_at_call 42; refine Calls.mono (HM.out _ HB.out) ?_; rintro r w20 ⟨v2, rfl, hR, hb⟩; have HR9 := Aside0.mk (Kd.R_lower hR HB.out.size); have HB := Aside0.mk (HB.out.trans (hb.mono HB.out.size)); clear hR hb))
  go_ret
  exact ⟨_, rfl, HR9.out, HB.out⟩
set_option maxHeartbeats 8000000 in
theorem put_1 (a0_0 a0_1 : Int) (a0_2 a0_3 a0_4 a0_5 : Bool) (l0_6 : List ByteArray) (a1_1 : Int) (a1_2 : Int) (a1_3 : ByteArray) (l1_4 : List ByteArray) (l1_5 : List S26) (l2 : List ByteArray) (A0_6 : Option Addr) (c0_6 : Nat) (A1_4 : Option Addr) (c1_4 : Nat) (A1_5 : Option Addr) (c1_5 : Nat) (A2 : Option Addr) (c2 : Nat) (w : World) (r : List Int)
    (hm : ∀ W : World, Below w.heap.size w W → Calls Tryd.prog 42 #[.agg #[.int .i64 a0_0, .int .i64 a0_1, .bool a0_2, .bool a0_3, .bool a0_4, .bool a0_5, .slice A0_6 l0_6.length c0_6], .agg #[.int .i64 1, .int .u64 a1_1, .int .i64 a1_2, .string a1_3, .slice A1_4 l1_4.length c1_4, .slice A1_5 l1_5.length c1_5], .slice A2 l2.length c2] W fun e w' => ∃ v0_ : Value, e = .returned (v0_) ∧ Kd.R (Kd.int .u8) 5 w' W.heap.size (fun _ => True) v0_ r ∧ Below W.heap.size W w') :
    Calls Tryd.prog 23 #[.agg #[.int .i64 a0_0, .int .i64 a0_1, .bool a0_2, .bool a0_3, .bool a0_4, .bool a0_5, .slice A0_6 l0_6.length c0_6], .agg #[.int .i64 1, .int .u64 a1_1, .int .i64 a1_2, .string a1_3, .slice A1_4 l1_4.length c1_4, .slice A1_5 l1_5.length c1_5], .slice A2 l2.length c2] w fun e w' => ∃ v0_ : Value, e = .returned (v0_) ∧ Kd.R (Kd.int .u8) 5 w' w.heap.size (fun _ => True) v0_ r ∧ Below w.heap.size w w' := by
  have HM := Aside0.mk hm
  clear hm
  have HB := Aside0.mk (Below.refl w.heap.size w)
  go_enter Tryd.func23, Tryd.ntmps23
  go_wp2_with (first | ((with_reducible refine gate_dst (N := 3) rfl ?_); refine box_event ?hg (N := 3) ?hd (cs := #[.int .i64 a0_0, .int .i64 a0_1, .bool a0_2, .bool a0_3, .bool a0_4, .bool a0_5, .slice A0_6 l0_6.length c0_6]) (t := 28) ?hr ?_; (case hd => rfl); (case hg => rfl); (case hr => first | (go_simp; done) | (go_simp; rfl)); intro gb3 hg w3 hbox hb; have BKgb3 := Aside0.mk hbox; have HB := Aside0.mk (HB.out.trans (hb.mono HB.out.size)); clear hb hbox hg) | ((with_reducible refine gate_dst (N := 4) rfl ?_); refine box_event ?hg (N := 4) ?hd (cs := #[.int .i64 1, .int .u64 a1_1, .int .i64 a1_2, .string a1_3, .slice A1_4 l1_4.length c1_4, .slice A1_5 l1_5.length c1_5]) (t := 26) ?hr ?_; (case hd => rfl); (case hg => rfl); (case hr => first | (go_simp; done) | (go_simp; rfl)); intro gb4 hg w4 hbox hb; have BKgb4 := Aside0.mk hbox; have HB := Aside0.mk (HB.out.trans (hb.mono HB.out.size)); have BKgb3 := Aside0.mk (blk_below BKgb3.out hb); have hc0 : w4.cell? ⟨gb4, 0, none⟩ = some (.int .i64 1) := (blk_cell BKgb4.out 0).trans rfl; have hc1 : w4.cell? ⟨gb4, 1, none⟩ = some (.int .u64 a1_1) := (blk_cell BKgb4.out 1).trans rfl; have hc2 : w4.cell? ⟨gb4, 2, none⟩ = some (.int .i64 a1_2) := (blk_cell BKgb4.out 2).trans rfl; have hc3 : w4.cell? ⟨gb4, 3, none⟩ = some (.string a1_3) := (blk_cell BKgb4.out 3).trans rfl; have hc4 : w4.cell? ⟨gb4, 4, none⟩ = some (.slice A1_4 l1_4.length c1_4) := (blk_cell BKgb4.out 4).trans rfl; have hc5 : w4.cell? ⟨gb4, 5, none⟩ = some (.slice A1_5 l1_5.length c1_5) := (blk_cell BKgb4.out 5).trans rfl; clear hb hbox hg; have hl0 : w4.cell? ⟨gb3, 0, none⟩ = some (.int .i64 a0_0) := (blk_cell BKgb3.out 0).trans rfl; have hl1 : w4.cell? ⟨gb3, 1, none⟩ = some (.int .i64 a0_1) := (blk_cell BKgb3.out 1).trans rfl; have hl2 : w4.cell? ⟨gb3, 2, none⟩ = some (.bool a0_2) := (blk_cell BKgb3.out 2).trans rfl; have hl3 : w4.cell? ⟨gb3, 3, none⟩ = some (.bool a0_3) := (blk_cell BKgb3.out 3).trans rfl; have hl4 : w4.cell? ⟨gb3, 4, none⟩ = some (.bool a0_4) := (blk_cell BKgb3.out 4).trans rfl; have hl5 : w4.cell? ⟨gb3, 5, none⟩ = some (.bool a0_5) := (blk_cell BKgb3.out 5).trans rfl; have hl6 : w4.cell? ⟨gb3, 6, none⟩ = some (.slice A0_6 l0_6.length c0_6) := (blk_cell BKgb3.out 6).trans rfl) | (go_at_call 42; refine Calls.mono (HM.out _ HB.out) ?_; rintro r w20 ⟨v2, rfl, hR, hb⟩; have HR9 := Aside0.mk (Kd.R_lower hR HB.out.size); have HB := Aside0.mk (HB.out.trans (hb.mono HB.out.size)); clear hR hb))
  go_ret
  exact ⟨_, rfl, HR9.out, HB.out⟩

end Go.Proofs.YtobhegbhljbjhaaDoor.Vk
