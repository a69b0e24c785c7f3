/- FnLevelsWritten: the plain law: levels that are written by runs are read, by the format, as these levels. -/
import Derived.Test.YtmlfgolmdeignaaMFnLevelsWrittenx4
namespace Go.Proofs.Ytmlfgolmdeignaa.Pure
open Go.RowKit Go.Proofs.Ytmlfgolmdeignaa.MFnLevelsWritten Go.Proofs.YtmlfgolmdeignaaW.PrintWords Go.Proofs.YtmlfgolmdeignaaW.PrintLast Go.Proofs.YtmlfgolmdeignaaW.PrintMore
set_option linter.unusedVariables false
theorem Pk.u8_nat2 (x : Nat) : ((x.toUInt8).toNat : Int) = ((x % 256 : Nat) : Int) := by simp
/-- With rounds enough. -/
def Evt {β : Type} (f : Nat → Option β) (r : β) : Prop := ∃ K, ∀ k, K ≤ k → f k = some r
theorem Evt.succ {β : Type} {f : Nat → Option β} (g : Nat → Option β) {r : β} (h : ∀ k, f (k + 1) = g k) (hg : Evt g r) : Evt f r := by
  obtain ⟨K, hK⟩ := hg
  refine ⟨K + 1, fun k hk => ?_⟩
  obtain ⟨j, rfl⟩ : ∃ j, k = j + 1 := ⟨k - 1, by omega⟩
  rw [h]
  exact hK j (by omega)
theorem Evt.const {β : Type} (r : β) : Evt (fun _ => some r) r := ⟨0, fun _ _ => rfl⟩
theorem Evt.bind {α β : Type} {f : Nat → Option α} {g : Nat → α → Option β} {a : α} {r : β} (hf : Evt f a) (hg : Evt (fun k => g k a) r) : Evt (fun k => (f k).bind (g k)) r := by
  obtain ⟨K, hK⟩ := hf
  obtain ⟨M, hM⟩ := hg
  refine ⟨K + M, fun k hk => ?_⟩
  show (f k).bind (g k) = some r
  rw [hK k (by omega)]
  exact hM k (by omega)
theorem Evt.congr {β : Type} {f g : Nat → Option β} {r : β} (h : ∀ k, f k = g k) (hg : Evt g r) : Evt f r := by
  obtain ⟨K, hK⟩ := hg
  exact ⟨K, fun k hk => (h k).trans (hK k hk)⟩
theorem rd_nat {l : List Int} {i : Nat} (h : i < l.length) : rd l (i : Int) = l[i] := by
  unfold rd
  rw [Int.toNat_natCast, List.getD_eq_getElem?_getD, List.getElem?_eq_getElem h]
  rfl
theorem and127 (b : Nat) (hb : b < 256) : bits .and .u8 (b : Int) 127 = ((b % 128 : Nat) : Int) := by
  have h := u8_and_nat b 127 hb (by decide)
  rw [show b &&& 127 = b % 128 from Nat.and_two_pow_sub_one_eq_mod b 7] at h
  exact h
theorem shl_nat (y s : Nat) (hs : s ≤ 64) (h : y * 2 ^ s < 18446744073709551616) : shl .u64 (y : Int) (s : Int) = ((y * 2 ^ s : Nat) : Int) := by
  unfold shl
  have e : min (s : Int).toNat (IntKind.u64.bits) = s := by
    rw [Int.toNat_natCast]
    exact Nat.min_eq_left hs
  rw [e, IntKind.wrap_u64, show ((y : Nat) : Int) * 2 ^ s = ((y * 2 ^ s : Nat) : Int) by simp]
  omega
theorem or_hi {a b s : Nat} (ha : a < 2 ^ s) (h : a + b * 2 ^ s < 18446744073709551616) : bits .or .u64 (a : Int) ((b * 2 ^ s : Nat) : Int) = ((a + b * 2 ^ s : Nat) : Int) := by
  have e := Nat.two_pow_add_eq_or_of_lt ha b
  rw [bits_or_u64_nat _ _ (by omega) (by omega), Nat.or_comm, Nat.mul_comm b, ← e, Nat.add_comm]
theorem vlq_last {data : List Int} {p b a s : Nat} (hp : p < data.length) (hl : data.length ≤ 1000000) (hb : data[p] = (b : Int)) (hb2 : b < 128) (hs : s < 63) (ha : a < 2 ^ s) (hab : a + b * 2 ^ s < 18446744073709551616) : Evt (fun k => spec_TakeVLQ.l0 k data p a s) (((a + b * 2 ^ s : Nat) : Int), ((p + 1 : Nat) : Int), true) := by
  refine Evt.succ (fun k => spec_TakeVLQ.j1 k data p a s true) (fun k => ?_) ?_
  · simp only [spec_TakeVLQ.l0]
    rw [if_pos (by omega), decide_eq_true (show (s : Int) < 70 by omega)]
  refine Evt.succ (fun k => spec_TakeVLQ.j2 k data ((p + 1 : Nat) : Int) a s b false) (fun k => ?_) ?_
  · simp only [spec_TakeVLQ.j1]
    rw [if_pos trivial, if_pos (by omega), if_pos (by omega), if_neg (by omega), rd_nat hp, hb, show wrap64 ((p : Int) + 1) = ((p + 1 : Nat) : Int) by unfold wrap64; omega]
  refine Evt.succ (fun _ => some (((a + b * 2 ^ s : Nat) : Int), ((p + 1 : Nat) : Int), true)) (fun k => ?_) (Evt.const _)
  simp only [spec_TakeVLQ.j2]
  rw [if_neg (by decide), if_pos (by omega), if_pos (by omega), and127 b (by omega), Nat.mod_eq_of_lt hb2, IntKind.wrap_u64, show (b : Int) % 18446744073709551616 = (b : Int) by omega, shl_nat b s (by omega) (by omega), or_hi ha hab]
theorem vlq_more {data : List Int} {p b a s : Nat} {r : Int × Int × Bool} (hp : p < data.length) (hl : data.length ≤ 1000000) (hb : data[p] = (b : Int)) (hb1 : 128 ≤ b) (hb2 : b < 256) (hs : s < 56) (ha : a < 2 ^ s) (hab : a + b % 128 * 2 ^ s < 18446744073709551616)
    (h : Evt (fun k => spec_TakeVLQ.l0 k data ((p + 1 : Nat) : Int) ((a + b % 128 * 2 ^ s : Nat) : Int) ((s + 7 : Nat) : Int)) r) : Evt (fun k => spec_TakeVLQ.l0 k data p a s) r := by
  refine Evt.succ (fun k => spec_TakeVLQ.j1 k data p a s true) (fun k => ?_) ?_
  · simp only [spec_TakeVLQ.l0]
    rw [if_pos (by omega), decide_eq_true (show (s : Int) < 70 by omega)]
  refine Evt.succ (fun k => spec_TakeVLQ.j2 k data ((p + 1 : Nat) : Int) a s b false) (fun k => ?_) ?_
  · simp only [spec_TakeVLQ.j1]
    rw [if_pos trivial, if_pos (by omega), if_pos (by omega), if_neg (by omega), rd_nat hp, hb, show wrap64 ((p : Int) + 1) = ((p + 1 : Nat) : Int) by unfold wrap64; omega]
  refine Evt.succ _ (fun k => ?_) h
  simp only [spec_TakeVLQ.j2]
  have e7 : wrap64 ((s : Int) + 7) = ((s + 7 : Nat) : Int) := by unfold wrap64; omega
  rw [if_neg (by decide), if_pos (by omega), if_neg (by omega), and127 b (by omega), IntKind.wrap_u64, show ((b % 128 : Nat) : Int) % 18446744073709551616 = ((b % 128 : Nat) : Int) by omega, shl_nat (b % 128) s (by omega) (by omega), or_hi ha hab, e7]
theorem get_of_drop {data X Y : List Int} {p : Nat} (h : data.drop p = X ++ Y) {j : Nat} (hj : j < X.length) : ∃ hp : p + j < data.length, data[p + j] = X[j] := by
  have h1 : (data.drop p)[j]? = some X[j] := by rw [h, List.getElem?_append_left hj, List.getElem?_eq_getElem hj]
  rw [List.getElem?_drop] at h1
  obtain ⟨h2, h3⟩ := List.getElem?_eq_some_iff.1 h1
  exact ⟨h2, h3⟩
/-- A varint of two bytes at most is read. -/
theorem vlq_read {data Y : List Int} {p x : Nat} (h : data.drop p = Pk.uv x ++ Y) (hl : data.length ≤ 1000000) (hx : x < 16384) : Evt (fun k => spec_TakeVLQ.f k data p) ((x : Int), ((p + (Pk.uv x).length : Nat) : Int), true) := by
  unfold spec_TakeVLQ.f
  by_cases h1 : x < 128
  · have e : Pk.uv x = [(x : Int)] := by unfold Pk.uv; rw [Go.Lib.uvarint_small h1, List.map_cons, List.map_nil, Pk.u8_nat2, Nat.mod_eq_of_lt (by omega)]
    rw [e] at h ⊢
    obtain ⟨hp, hb⟩ := get_of_drop h (j := 0) (by simp)
    have := vlq_last (data := data) (p := p) (b := x) (a := 0) (s := 0) hp hl hb h1 (by decide) (by decide) (by omega)
    rw [Nat.pow_zero, Nat.mul_one, Nat.zero_add] at this
    exact this
  · have e : Pk.uv x = [((x % 128 + 128 : Nat) : Int), ((x / 128 : Nat) : Int)] := by
      unfold Pk.uv
      rw [Go.Lib.uvarint_big (by omega), Go.Lib.uvarint_small (by omega), List.map_cons, List.map_cons, List.map_nil, Pk.u8_nat2, Pk.u8_nat2, show (x % 128 + 128) % 256 = x % 128 + 128 by omega, show x / 128 % 256 = x / 128 by omega]
    rw [e] at h ⊢
    obtain ⟨hp, hb⟩ := get_of_drop h (j := 0) (by simp)
    obtain ⟨hp1, hb1⟩ := get_of_drop h (j := 1) (by simp)
    have h2 := vlq_last (data := data) (p := p + 1) (b := x / 128) (a := x % 128) (s := 7) hp1 hl hb1 (by omega) (by decide) (by omega) (by omega)
    have h3 : x % 128 + x / 128 * 2 ^ 7 = x := by omega
    rw [h3] at h2
    refine vlq_more (data := data) (p := p) (b := x % 128 + 128) (a := 0) (s := 0) hp hl hb (by omega) (by omega) (by decide) (by decide) (by omega) ?_
    rw [show 0 + (x % 128 + 128) % 128 * 2 ^ 0 = x % 128 by omega]
    exact h2
/-- A bit of numbers that stand as one. -/
theorem pk_bit {wd : Nat} (hw : 1 ≤ wd) : ∀ {vs : List Nat} {j r : Nat}, (∀ v ∈ vs, v < 2 ^ wd) → r < wd → Pk.pk wd vs / 2 ^ (wd * j + r) % 2 = vs.getD j 0 / 2 ^ r % 2
  | [], j, r, _, _ => by simp [Pk.pk]
  | v :: rest, 0, r, h, hr => by
    obtain ⟨q, hq⟩ : ∃ q, wd = r + 1 + q := ⟨wd - r - 1, by omega⟩
    rw [Pk.pk, Nat.mul_zero, Nat.zero_add, List.getD_cons_zero, hq, Nat.pow_add, Nat.pow_succ, Nat.mul_assoc, Nat.mul_assoc, Nat.add_mul_div_left _ _ (Nat.two_pow_pos r), Nat.add_mul_mod_self_left]
  | v :: rest, j + 1, r, h, hr => by
    have hv := h v List.mem_cons_self
    rw [Pk.pk, List.getD_cons_succ, Nat.mul_succ, show wd * j + wd + r = wd + (wd * j + r) by omega, Nat.pow_add, ← Nat.div_div_eq_div_mul, Nat.add_mul_div_left _ _ (Nat.two_pow_pos wd), Nat.div_eq_of_lt hv, Nat.zero_add]
    exact pk_bit hw (fun x hx => h x (List.mem_cons_of_mem _ hx)) hr
/-- What is read of numbers after i bits. -/
def outL (wd n : Nat) (vs : List Nat) (i : Nat) : List Int := (List.range n).map fun j => ((vs.getD j 0 % 2 ^ min wd (i - wd * j) : Nat) : Int)
theorem outL_len (wd n : Nat) (vs : List Nat) (i : Nat) : (outL wd n vs i).length = n := by simp [outL]
theorem outL_get {wd n : Nat} {vs : List Nat} {i j : Nat} (hj : j < (outL wd n vs i).length) : (outL wd n vs i)[j] = ((vs.getD j 0 % 2 ^ min wd (i - wd * j) : Nat) : Int) := by simp [outL]
theorem outL_step {wd n : Nat} {vs : List Nat} {i j r : Nat} (hr : r < wd) (hi : i = wd * j + r) (hj : j < n) : (outL wd n vs i).set j ((vs.getD j 0 % 2 ^ r + vs.getD j 0 / 2 ^ r % 2 * 2 ^ r : Nat) : Int) = outL wd n vs (i + 1) := by
  refine List.ext_getElem (by rw [List.length_set, outL_len, outL_len]) fun m h1 h2 => ?_
  rw [List.getElem_set, outL_get h2]
  by_cases e : j = m
  · subst e
    rw [if_pos rfl, show min wd (i + 1 - wd * j) = r + 1 by omega, Nat.pow_succ, Nat.mod_mul, Nat.mul_comm (2 ^ r)]
  · rw [if_neg e, outL_get (by rw [outL_len]; rw [outL_len] at h2; exact h2)]
    rcases Nat.lt_or_ge m j with h | h
    · have h3 := Nat.mul_le_mul_left wd (show m + 1 ≤ j from h)
      rw [Nat.mul_succ] at h3
      rw [show min wd (i - wd * m) = wd by omega, show min wd (i + 1 - wd * m) = wd by omega]
    · have h3 := Nat.mul_le_mul_left wd (show j + 1 ≤ m by omega)
      rw [Nat.mul_succ] at h3
      rw [show i - wd * m = 0 by omega, show i + 1 - wd * m = 0 by omega]
theorem outL_start (wd n : Nat) (vs : List Nat) : outL wd n vs 0 = List.replicate n 0 := by
  refine List.ext_getElem (by rw [outL_len, List.length_replicate]) fun m h1 h2 => ?_
  rw [outL_get h1, List.getElem_replicate]
  simp [Nat.mod_one]
theorem outL_end {wd n : Nat} {vs : List Nat} (hv : ∀ v ∈ vs, v < 2 ^ wd) (hn : n ≤ vs.length) : outL wd n vs (n * wd) = (vs.take n).map (fun x : Nat => (x : Int)) := by
  refine List.ext_getElem (by rw [outL_len, List.length_map, List.length_take]; omega) fun m h1 h2 => ?_
  have hm : m < n := by rw [outL_len] at h1; exact h1
  rw [outL_get h1, List.getElem_map, List.getElem_take]
  have h3 := Nat.mul_le_mul_left wd (show m + 1 ≤ n from hm)
  rw [Nat.mul_succ, Nat.mul_comm wd n] at h3
  rw [show min wd (n * wd - wd * m) = wd by omega, List.getD_eq_getElem?_getD, List.getElem?_eq_getElem (by omega), Option.getD_some, Nat.mod_eq_of_lt (hv _ (List.getElem_mem _))]
theorem pkB_bit {wd : Nat} (hw : 1 ≤ wd) {vs : List Nat} (hv : ∀ v ∈ vs, v < 2 ^ wd) {i j r : Nat} (hr : r < wd) (hi : i = wd * j + r) (hlt : i / 8 < (Pk.pkB wd vs).length) : ∃ b : Nat, (Pk.pkB wd vs)[i / 8] = (b : Int) ∧ b < 256 ∧ b / 2 ^ (i % 8) % 2 = vs.getD j 0 / 2 ^ r % 2 := by
  refine ⟨Pk.pk wd vs / 256 ^ (i / 8) % 256, by simp [Pk.pkB, Pk.low], Nat.mod_lt _ (by decide), ?_⟩
  rw [← pk_bit hw hv hr, ← hi]
  have h8 : i % 8 < 8 := Nat.mod_lt _ (by decide)
  obtain ⟨q, hq⟩ : ∃ q, 8 = i % 8 + 1 + q := ⟨8 - i % 8 - 1, by omega⟩
  have hp : 256 = 2 ^ (i % 8) * (2 * 2 ^ q) := by
    rw [← Nat.mul_assoc, ← Nat.pow_succ, ← Nat.pow_add, ← hq]
  have h9 : 2 ^ i = 256 ^ (i / 8) * 2 ^ (i % 8) := by
    rw [Pk.p256, ← Nat.pow_add]
    congr 1
    omega
  rw [h9, ← Nat.div_div_eq_div_mul]
  generalize Pk.pk wd vs / 256 ^ (i / 8) = z
  rw [hp, Nat.mod_mul_right_div_self, Nat.mod_mul_right_mod]
theorem w64N {x : Nat} (h : x ≤ 100000000) : wrap64 (x : Int) = (x : Int) := by unfold wrap64; omega
theorem w64D {x y : Nat} (h : x ≤ 100000000) : wrap64 (Int.tdiv (x : Int) (y : Int)) = ((x / y : Nat) : Int) := by
  rw [Int.tdiv_eq_ediv_of_nonneg (Int.natCast_nonneg _), ← Int.natCast_ediv]
  exact w64N (Nat.le_trans (Nat.div_le_self _ _) h)
theorem tmodN (x y : Nat) : Int.tmod (x : Int) (y : Int) = ((x % y : Nat) : Int) := by
  rw [Int.tmod_eq_emod_of_nonneg (Int.natCast_nonneg _), ← Int.natCast_emod]
theorem div8 (p i : Nat) : (8 * p + i) / 8 = p + i / 8 := by omega
theorem mod8 (p i : Nat) : (8 * p + i) % 8 = i % 8 := by omega
theorem bnd8 {p i : Nat} (hp : p ≤ 1000000) (hi : i ≤ 200000) : 8 * p + i ≤ 100000000 := by omega
theorem bndI {i d x : Nat} (h : i + (d + 1) = x) (hb : x ≤ 3000 * 64) : i ≤ 200000 ∧ i < x := by omega
theorem bnd1 {i : Nat} (h : i ≤ 200000) : i + 1 ≤ 100000000 := by omega
theorem min_r {wd i j r : Nat} (hi : i = wd * j + r) (hr : r < wd) : min wd (i - wd * j) = r := by omega
theorem lt_i8 {i x y len : Nat} (h1 : i < x) (h2 : x ≤ y) (h3 : 8 * len = y) : i / 8 < len := by omega
theorem wrapQ {q : Nat} (h : q < 2) : (q : Int) % 18446744073709551616 = (q : Int) := by omega
theorem two63 {q r : Nat} (hq : q < 2) (hr : r ≤ 63) : q * 2 ^ r ≤ 9223372036854775808 := by
  have h1 : 2 ^ r ≤ 2 ^ 63 := Nat.pow_le_pow_right (by decide) hr
  have h2 : q * 2 ^ r ≤ 1 * 2 ^ r := Nat.mul_le_mul_right _ (by omega)
  omega
theorem two64 {z q r : Nat} (hz : z < 2 ^ r) (hq : q < 2) (hr : r ≤ 63) : z + q * 2 ^ r < 18446744073709551616 := by
  have h1 : 2 ^ r ≤ 2 ^ 63 := Nat.pow_le_pow_right (by decide) hr
  have h2 := two63 hq hr
  omega
/-- The bits are read. -/
theorem unpack_loop {data Y : List Int} {p wd n : Nat} {vs : List Nat} (hw : 1 ≤ wd) (hw2 : wd ≤ 64) (hl : data.length ≤ 1000000) (hd : data.drop p = Pk.pkB wd vs ++ Y) (hv : ∀ v ∈ vs, v < 2 ^ wd) (h8 : vs.length % 8 = 0) (hn : n ≤ vs.length) (hn2 : n ≤ 3000) :
    ∀ (d i : Nat), i + d = n * wd → Evt (fun k => spec_UnpackBits.l0 k data ((8 * p : Nat) : Int) wd n (outL wd n vs i) i) ((vs.take n).map (fun x : Nat => (x : Int)), true)
  | 0, i, hi => by
    have hb : n * wd ≤ 3000 * 64 := Nat.mul_le_mul hn2 hw2
    have e : wrap64 ((n : Int) * (wd : Int)) = ((n * wd : Nat) : Int) := by rw [← Int.natCast_mul]; unfold wrap64; omega
    refine Evt.succ (fun _ => some ((vs.take n).map (fun x : Nat => (x : Int)), true)) (fun k => ?_) (Evt.const _)
    simp only [spec_UnpackBits.l0]
    rw [e, if_neg (by omega), show i = n * wd by omega, outL_end hv hn]
  | d + 1, i, hi => by
    have hb : n * wd ≤ 3000 * 64 := Nat.mul_le_mul hn2 hw2
    obtain ⟨hib, hilt⟩ := bndI hi hb
    have e : wrap64 ((n : Int) * (wd : Int)) = ((n * wd : Nat) : Int) := by rw [← Int.natCast_mul]; exact w64N (Nat.le_trans hb (by decide))
    obtain ⟨j, hj⟩ : ∃ j, j = i / wd := ⟨_, rfl⟩
    obtain ⟨r, hr⟩ : ∃ r, r = i % wd := ⟨_, rfl⟩
    have hrw : r < wd := by rw [hr]; exact Nat.mod_lt _ hw
    have hij : i = wd * j + r := by rw [hj, hr]; exact (Nat.div_add_mod i wd).symm
    have hjn : j < n := by rw [hj]; exact Nat.div_lt_of_lt_mul (by rw [Nat.mul_comm]; exact hilt)
    have hlt : i / 8 < (Pk.pkB wd vs).length := lt_i8 hilt (by rw [Nat.mul_comm]; exact Nat.mul_le_mul_left wd hn) (Pk.pkB_len8 (wd := wd) h8)
    obtain ⟨b, hb1, hb2, hb3⟩ := pkB_bit hw hv hrw hij hlt
    obtain ⟨hp, hpb⟩ := get_of_drop hd hlt
    rw [hb1] at hpb
    have hpb2 : p ≤ 1000000 := Nat.le_trans (Nat.le_add_right p (i / 8)) (Nat.le_of_lt (Nat.lt_of_lt_of_le hp hl))
    refine Evt.succ _ (fun k => ?_) (unpack_loop hw hw2 hl hd hv h8 hn hn2 d (i + 1) (by rw [← hi]; exact (Nat.succ_add_eq_add_succ i d)))
    have e1 : wrap64 (Int.tdiv (i : Int) (wd : Int)) = (j : Int) := by rw [w64D (Nat.le_trans hib (by decide)), ← hj]
    have e2 : wrap64 (((8 * p : Nat) : Int) + (i : Int)) = ((8 * p + i : Nat) : Int) := w64N (x := 8 * p + i) (bnd8 hpb2 hib)
    have e3 : wrap64 (Int.tdiv ((8 * p + i : Nat) : Int) 8) = ((p + i / 8 : Nat) : Int) := by rw [← div8]; exact w64D (y := 8) (bnd8 hpb2 hib)
    have e4 : Int.tmod ((8 * p + i : Nat) : Int) 8 = ((i % 8 : Nat) : Int) := by rw [← mod8 p i]; exact tmodN _ 8
    have e5 : Int.tmod (i : Int) (wd : Int) = (r : Int) := by rw [tmodN, ← hr]
    have e6 : wrap64 ((i : Int) + 1) = ((i + 1 : Nat) : Int) := w64N (x := i + 1) (bnd1 hib)
    have hol := outL_len wd n vs i
    have hjo : j < (outL wd n vs i).length := by rw [hol]; exact hjn
    have e7 : rd (outL wd n vs i) (j : Int) = ((vs.getD j 0 % 2 ^ r : Nat) : Int) := by
      rw [rd_nat hjo, outL_get hjo, min_r hij hrw]
    have hi8 : i % 8 ≤ 8 := Nat.le_of_lt (Nat.mod_lt _ (by decide))
    have e8 : shr .u8 (b : Int) ((i % 8 : Nat) : Int) = ((b / 2 ^ (i % 8) : Nat) : Int) := by
      unfold shr
      rw [Int.toNat_natCast, show min (i % 8) IntKind.u8.bits = i % 8 from Nat.min_eq_left hi8]
      simp
    have hbq : b / 2 ^ (i % 8) < 256 := Nat.lt_of_le_of_lt (Nat.div_le_self _ _) hb2
    have e9 : bits .and .u8 ((b / 2 ^ (i % 8) : Nat) : Int) 1 = ((vs.getD j 0 / 2 ^ r % 2 : Nat) : Int) := by
      have := u8_and_nat (b / 2 ^ (i % 8)) 1 hbq (by decide)
      rw [Nat.and_one_is_mod, hb3] at this
      exact this
    obtain ⟨q, hq⟩ : ∃ q, q = vs.getD j 0 / 2 ^ r % 2 := ⟨_, rfl⟩
    have hq2 : q < 2 := by rw [hq]; exact Nat.mod_lt _ (by decide)
    obtain ⟨z, hz⟩ : ∃ z, z = vs.getD j 0 % 2 ^ r := ⟨_, rfl⟩
    have hz2 : z < 2 ^ r := by rw [hz]; exact Nat.mod_lt _ (Nat.two_pow_pos r)
    have hr63 : r ≤ 63 := Nat.le_of_lt_succ (Nat.lt_of_lt_of_le hrw hw2)
    have ho := or_hi (a := z) (b := q) (s := r) hz2 (two64 hz2 hq2 hr63)
    have hs := outL_step (wd := wd) (n := n) (vs := vs) (i := i) (j := j) (r := r) hrw hij hjn
    rw [← hq, ← hz] at hs
    rw [← hq] at e9
    rw [← hz] at e7
    have c1 : (i : Int) < ((n * wd : Nat) : Int) := Int.ofNat_lt.2 hilt
    have c2 : ¬ (wd : Int) = 0 := fun h => by have := Int.ofNat_inj.1 (show (wd : Int) = ((0 : Nat) : Int) from h); rw [this] at hw; exact absurd hw (by decide)
    have c3 : (j : Int) < ((outL wd n vs i).length : Int) := Int.ofNat_lt.2 hjo
    have c4 : ((p + i / 8 : Nat) : Int) < (data.length : Int) := Int.ofNat_lt.2 hp
    have hsh := shl_nat q r (Nat.le_trans hr63 (by decide)) (Nat.lt_of_le_of_lt (two63 hq2 hr63) (by decide))
    simp only [spec_UnpackBits.l0]
    rw [e, if_pos c1, if_neg c2, e1, if_pos (Int.natCast_nonneg j), if_pos c3, e2, e3, if_pos (Int.natCast_nonneg _), if_pos c4, e4, if_pos (Int.natCast_nonneg _), e5, if_pos (Int.natCast_nonneg _), rd_nat hp, hpb, e8, e9, e7, e6, IntKind.wrap_u64, wrapQ hq2, hsh, ho, Int.toNat_natCast, hs]
theorem unp_bnd {p x len L v : Nat} (h1 : x ≤ v) (h2 : 8 * L = v) (h3 : len - p = L + 0 ∨ len - p ≥ L) (hp : p ≤ len) : 8 * p + x ≤ 8 * len := by omega
theorem unpack_read {data Y : List Int} {p wd n : Nat} {vs : List Nat} (hw : 1 ≤ wd) (hw2 : wd ≤ 64) (hl : data.length ≤ 1000000) (hd : data.drop p = Pk.pkB wd vs ++ Y) (hp : p ≤ data.length) (hv : ∀ v ∈ vs, v < 2 ^ wd) (h8 : vs.length % 8 = 0) (hn : n ≤ vs.length) (hn2 : n ≤ 3000) :
    Evt (fun k => spec_UnpackBits.f k data ((8 * p : Nat) : Int) wd n) ((vs.take n).map (fun x : Nat => (x : Int)), true) := by
  have hb : n * wd ≤ 3000 * 64 := Nat.mul_le_mul hn2 hw2
  have hdl : data.length - p = (Pk.pkB wd vs).length + Y.length := by
    have := congrArg List.length hd
    rw [List.length_drop, List.length_append] at this
    exact this
  have hle := unp_bnd (p := p) (len := data.length) (show n * wd ≤ wd * vs.length by rw [Nat.mul_comm]; exact Nat.mul_le_mul_left wd hn) (Pk.pkB_len8 (wd := wd) h8) (.inr (by rw [hdl]; exact Nat.le_add_right _ _)) hp
  have e : wrap64 ((n : Int) * (wd : Int)) = ((n * wd : Nat) : Int) := by rw [← Int.natCast_mul]; exact w64N (Nat.le_trans hb (by decide))
  have h9 : 8 * data.length ≤ 100000000 := Nat.le_trans (Nat.mul_le_mul_left 8 hl) (by decide)
  have e2 : wrap64 (((8 * p : Nat) : Int) + ((n * wd : Nat) : Int)) = ((8 * p + n * wd : Nat) : Int) := w64N (x := 8 * p + n * wd) (Nat.le_trans hle h9)
  have e3 : wrap64 (8 * (data.length : Int)) = ((8 * data.length : Nat) : Int) := w64N (x := 8 * data.length) h9
  have hnn : n ≤ 35184372088832 := Nat.le_trans hn2 (by decide)
  refine Evt.congr (fun k => ?_) (unpack_loop hw hw2 hl hd hv h8 hn hn2 (n * wd) 0 (Nat.zero_add _))
  unfold spec_UnpackBits.f
  rw [e, e2, e3, if_neg (Int.not_lt.2 (Int.ofNat_le.2 hle)), if_pos (Int.natCast_nonneg n), Int.toNat_natCast, if_pos hnn, outL_start, show ((0 : Nat) : Int) = 0 from rfl]
theorem pow8 (i : Nat) : 2 ^ (8 * i) = 256 ^ i := (Pk.p256 i).symm
/-- The bytes of a repeated value are read. -/
theorem rep_loop {data Y : List Int} {p wd n c B v : Nat} {out : List Int} {r : List Int × Bool} (hw2 : wd ≤ 64) (hB : B = (wd + 7) / 8) (hl : data.length ≤ 1000000) (hd : data.drop p = Pk.low B v ++ Y) (hp : p ≤ data.length) (hv : v < 2 ^ wd)
    (hr : Evt (fun k => spec_TakeRuns.j3 k data wd n out p c B v false) r) : ∀ (d i : Nat), i + d = B → Evt (fun k => spec_TakeRuns.l1 k data wd n out p c B ((v % 256 ^ i : Nat) : Int) i) r
  | 0, i, hi => by
    have hvB : v < 256 ^ B := by
      rw [Pk.p256]
      exact Nat.lt_of_lt_of_le hv (Nat.pow_le_pow_right (by decide) (by omega))
    have hiB : i = B := by omega
    subst hiB
    rw [Nat.mod_eq_of_lt hvB]
    have c1 : ¬ (i : Int) < (i : Int) := Int.lt_irrefl _
    refine Evt.succ _ (fun k => ?_) hr
    simp only [spec_TakeRuns.l1]
    rw [if_neg c1]
    by_cases h64 : wd < 64
    · have c2 : (wd : Int) < 64 := by omega
      have e : shr .u64 (v : Int) (wd : Int) = 0 := by
        unfold shr
        rw [Int.toNat_natCast, show min wd IntKind.u64.bits = wd from Nat.min_eq_left hw2, show (v : Int) / 2 ^ wd = ((v / 2 ^ wd : Nat) : Int) by simp, Nat.div_eq_of_lt hv]
        rfl
      rw [if_pos c2, if_pos (Int.natCast_nonneg wd), e, decide_eq_false (by decide)]
    · have c2 : ¬ (wd : Int) < 64 := by omega
      rw [if_neg c2]
  | d + 1, i, hi => by
    have hB8 : B ≤ 8 := by omega
    have hiB : i < B := by omega
    have hlow := Pk.low_len B v
    obtain ⟨hp1, hpb⟩ := get_of_drop hd (j := i) (by rw [hlow]; exact hiB)
    have hb : (Pk.low B v)[i]'(by rw [hlow]; exact hiB) = ((v / 256 ^ i % 256 : Nat) : Int) := by simp [Pk.low]
    rw [hb] at hpb
    obtain ⟨b, hbb⟩ : ∃ b, b = v / 256 ^ i % 256 := ⟨_, rfl⟩
    have hb2 : b < 256 := by rw [hbb]; exact Nat.mod_lt _ (by decide)
    have hnext : v % 256 ^ (i + 1) = v % 256 ^ i + b * 256 ^ i := by rw [Nat.pow_succ, Nat.mod_mul, ← hbb, Nat.mul_comm b]
    rw [← hbb] at hpb
    have hz : v % 256 ^ i < 2 ^ (8 * i) := by rw [pow8]; exact Nat.mod_lt _ (Nat.pow_pos (by decide))
    have hi7 : i ≤ 7 := by omega
    have hbig : v % 256 ^ i + b * 2 ^ (8 * i) < 18446744073709551616 := by
      rw [pow8, ← hnext]
      exact Nat.lt_of_lt_of_le (Nat.mod_lt _ (Nat.pow_pos (by decide))) (Nat.le_trans (Nat.pow_le_pow_right (by decide) (show i + 1 ≤ 8 by omega)) (by decide))
    have ho := or_hi (a := v % 256 ^ i) (b := b) (s := 8 * i) hz hbig
    have hsh := shl_nat b (8 * i) (by omega) (Nat.lt_of_le_of_lt (Nat.le_add_left _ _) hbig)
    have e1 : wrap64 ((p : Int) + (i : Int)) = ((p + i : Nat) : Int) := w64N (x := p + i) (by omega)
    have e2 : wrap64 (8 * (i : Int)) = ((8 * i : Nat) : Int) := w64N (x := 8 * i) (by omega)
    have e3 : wrap64 ((i : Int) + 1) = ((i + 1 : Nat) : Int) := w64N (x := i + 1) (by omega)
    have c1 : (i : Int) < (B : Int) := Int.ofNat_lt.2 hiB
    have c2 : ((p + i : Nat) : Int) < (data.length : Int) := Int.ofNat_lt.2 hp1
    have hwb : (b : Int) % 18446744073709551616 = (b : Int) := by omega
    refine Evt.succ _ (fun k => ?_) (rep_loop hw2 hB hl hd hp hv hr d (i + 1) (by omega))
    simp only [spec_TakeRuns.l1]
    rw [if_pos c1, e1, if_pos (Int.natCast_nonneg _), if_pos c2, e2, if_pos (Int.natCast_nonneg _), rd_nat hp1, hpb, IntKind.wrap_u64, hwb, hsh, ho, e3, pow8, ← hnext]
theorem rep_more {data : List Int} {p wd n c v : Nat} {r : List Int × Bool} (hn : n ≤ 3000) (hc : c ≤ 3000) : ∀ (d i : Nat) (out : List Int), i + d = c → out.length ≤ n → Evt (fun k => spec_TakeRuns.l0 k data wd n (out ++ List.replicate (min d (n - out.length)) (v : Int)) p) r → Evt (fun k => spec_TakeRuns.l2 k data wd n out p c v i) r
  | 0, i, out, hi, ho, h => by
    have c1 : ¬ (i : Int) < (c : Int) := by omega
    rw [Nat.zero_min, List.replicate_zero, List.append_nil] at h
    refine Evt.succ _ (fun k => ?_) h
    simp only [spec_TakeRuns.l2]
    rw [if_neg c1]
  | d + 1, i, out, hi, ho, h => by
    have c1 : (i : Int) < (c : Int) := by omega
    by_cases hlt : out.length < n
    · have c2 : (out.length : Int) < (n : Int) := by omega
      have c3 : out.length < 17592186044416 := by omega
      have e3 : wrap64 ((i : Int) + 1) = ((i + 1 : Nat) : Int) := w64N (x := i + 1) (by omega)
      have hl1 : (out ++ [(v : Int)]).length = out.length + 1 := by simp
      refine Evt.succ _ (fun k => ?_) (rep_more hn hc d (i + 1) (out ++ [(v : Int)]) (by omega) (by rw [hl1]; omega) (by
        rw [hl1, List.append_assoc, List.singleton_append, ← List.replicate_succ, show min d (n - (out.length + 1)) + 1 = min (d + 1) (n - out.length) by omega]
        exact h))
      simp only [spec_TakeRuns.l2]
      rw [if_pos c1, if_pos c2, if_pos c3, e3]
    · have c2 : ¬ (out.length : Int) < (n : Int) := by omega
      have h0 : min (d + 1) (n - out.length) = 0 := by omega
      rw [h0, List.replicate_zero, List.append_nil] at h
      refine Evt.succ _ (fun k => ?_) h
      simp only [spec_TakeRuns.l2]
      rw [if_pos c1, if_neg c2]
theorem and1 (x : Nat) (h : x < 18446744073709551616) : bits .and .u64 (x : Int) 1 = ((x % 2 : Nat) : Int) := by
  have := u64_and_nat x 1 h (by decide)
  rw [Nat.and_one_is_mod] at this
  exact this
theorem head_read {data Y : List Int} {p wd n x c : Nat} {out : List Int} {r : List Int × Bool} (hl : data.length ≤ 1000000) (hd : data.drop p = Pk.uv x ++ Y) (hx : x < 16384) (hxc : x / 2 = c) (hc1 : 1 ≤ c) (ho : out.length < n)
    (h : Evt (fun k => spec_TakeRuns.j1 k data wd n out x ((p + (Pk.uv x).length : Nat) : Int) c false) r) : Evt (fun k => spec_TakeRuns.l0 k data wd n out p) r := by
  have c1 : (out.length : Int) < (n : Int) := Int.ofNat_lt.2 ho
  have e1 : (x : Int) / 2 = (c : Int) := by omega
  have e2 : wrap64 (c : Int) = (c : Int) := w64N (by omega)
  have c2 : ¬ (c : Int) = 0 := by omega
  have c3 : decide ((c : Int) > 1073741824) = false := decide_eq_false (by omega)
  refine Evt.succ (fun k => (spec_TakeVLQ.f k data p).bind fun bt => (if bt.2.2 = true then (if (bt.1 / 2) = 0 then (spec_TakeRuns.j1 k data wd n out bt.1 bt.2.1 (wrap64 (bt.1 / 2)) true) else (spec_TakeRuns.j1 k data wd n out bt.1 bt.2.1 (wrap64 (bt.1 / 2)) (decide ((bt.1 / 2) > 1073741824)))) else (spec_TakeRuns.j1 k data wd n out bt.1 bt.2.1 (wrap64 (bt.1 / 2)) true))) (fun k => ?_) ?_
  · simp only [spec_TakeRuns.l0]
    rw [if_pos c1]
  · refine Evt.bind (vlq_read hd hl hx) (Evt.congr (fun k => ?_) h)
    show (if true = true then (if ((x : Int) / 2) = 0 then _ else _) else _) = _
    rw [if_pos rfl, e1, if_neg c2, e2, c3]
theorem drop_more {data X Y : List Int} {p : Nat} (h : data.drop p = X ++ Y) : data.drop (p + X.length) = Y := by
  rw [← List.drop_drop, h, List.drop_left]
theorem drop_le {data X Y : List Int} {p : Nat} (h : data.drop p = X ++ Y) (hp : p ≤ data.length) : p + X.length ≤ data.length := by
  have := congrArg List.length h
  rw [List.length_drop, List.length_append] at this
  omega
theorem encs_cons (wd : Nat) (r : Pk.Run) (rs : List Pk.Run) : Pk.encs wd (r :: rs) = Pk.encR wd r ++ Pk.encs wd rs := by simp [Pk.encs]
theorem valss_cons (r : Pk.Run) (rs : List Pk.Run) : Pk.valss (r :: rs) = Pk.vals r ++ Pk.valss rs := by simp [Pk.valss]
def ints (l : List Nat) : List Int := l.map fun x : Nat => (x : Int)
theorem rep_eq {out A B : List Int} {c v n : Nat} {rest : List Nat} (hA : A = out ++ List.replicate (min c (n - out.length)) (v : Int)) (hB : B = A ++ ints (rest.take (n - A.length))) (ho : out.length ≤ n) : B = out ++ ints ((List.replicate c v ++ rest).take (n - out.length)) := by
  have hl : A.length = out.length + min c (n - out.length) := by rw [hA, List.length_append, List.length_replicate]
  rw [hB, hl, hA, List.append_assoc]
  congr 1
  rw [List.take_append, List.length_replicate]
  unfold ints
  rw [List.map_append, List.take_replicate, List.map_replicate, Nat.min_comm]
  congr 3
  omega
theorem lit_eq {out A B : List Int} {vs rest : List Nat} {m n : Nat} (hm : m = min vs.length (n - out.length)) (hA : A = out ++ ints (vs.take m)) (hB : B = A ++ ints (rest.take (n - A.length))) (ho : out.length ≤ n) : B = out ++ ints ((vs ++ rest).take (n - out.length)) := by
  have hl : A.length = out.length + m := by rw [hA, List.length_append]; unfold ints; rw [List.length_map, List.length_take]; omega
  rw [hB, hl, hA, List.append_assoc]
  congr 1
  rw [List.take_append]
  unfold ints
  rw [List.map_append]
  rcases Nat.le_total vs.length (n - out.length) with h | h
  · have e1 : m = vs.length := by omega
    rw [List.take_of_length_le (show vs.length ≤ m by omega), List.take_of_length_le h, show n - (out.length + m) = n - out.length - vs.length by omega]
  · have e1 : m = n - out.length := by omega
    rw [show n - (out.length + m) = 0 by omega, show n - out.length - vs.length = 0 by omega, e1]
set_option maxHeartbeats 2000000 in
theorem step_rep {data Y : List Int} {wd n c v p : Nat} {out : List Int} {r : List Int × Bool} (hw2 : wd ≤ 64) (hl : data.length ≤ 1000000) (hn : n ≤ 3000) (h1 : 1 ≤ c) (h2 : c ≤ 3000) (h3 : v < 2 ^ wd) (hd : data.drop p = Pk.repB wd c v ++ Y) (hp : p ≤ data.length) (hlt : out.length < n)
    (IH : Evt (fun k => spec_TakeRuns.l0 k data wd n (out ++ List.replicate (min c (n - out.length)) (v : Int)) ((p + (Pk.repB wd c v).length : Nat) : Int)) r) : Evt (fun k => spec_TakeRuns.l0 k data wd n out p) r := by
  obtain ⟨B, hB⟩ : ∃ B, B = (wd + 7) / 8 := ⟨_, rfl⟩
  have hd1 : data.drop p = Pk.uv (2 * c) ++ (Pk.low B v ++ Y) := by
    rw [hd, ← List.append_assoc, hB]
    rfl
  have hd2 := drop_more hd1
  have hp2 := drop_le hd1 hp
  have hp3 := drop_le hd2 hp2
  rw [Pk.low_len] at hp3
  have hlen : p + (Pk.repB wd c v).length = p + (Pk.uv (2 * c)).length + B := by rw [Pk.repB_len, ← hB, Nat.add_assoc]
  rw [hlen] at IH
  clear hlen hd
  refine head_read (x := 2 * c) (c := c) hl hd1 (by omega) (by omega) h1 hlt ?_
  obtain ⟨p2, hp2e⟩ : ∃ p2, p2 = p + (Pk.uv (2 * c)).length := ⟨_, rfl⟩
  rw [← hp2e] at hd2 hp2 hp3 IH ⊢
  clear hd1 hp2e hp
  have hb8 : p2 + B ≤ 100000000 := by omega
  have c1 : ¬ ((p2 + B : Nat) : Int) > (data.length : Int) := by omega
  have L2 := rep_more (data := data) (p := p2 + B) (wd := wd) (v := v) hn h2 c 0 out (Nat.zero_add c) (Nat.le_of_lt hlt) IH
  have e3 : wrap64 ((p2 : Int) + (B : Int)) = ((p2 + B : Nat) : Int) := by rw [← Int.natCast_add]; exact w64N hb8
  have L1 := rep_loop (n := n) (c := c) (out := out) (r := r) hw2 hB hl hd2 hp2 h3 (Evt.succ _ (fun k => by
    simp only [spec_TakeRuns.j3]
    rw [if_neg (by decide), e3, show (0 : Int) = ((0 : Nat) : Int) from rfl]) L2) B 0 (Nat.zero_add B)
  refine Evt.succ _ (fun k => ?_) L1
  have e1 : Go.bits .and .u64 ((2 * c : Nat) : Int) 1 = 0 := by rw [and1 _ (by omega), Nat.mul_mod_right]; rfl
  have e2 : wrap64 (Int.tdiv (wrap64 ((wd : Int) + 7)) 8) = (B : Int) := by
    rw [show wrap64 ((wd : Int) + 7) = ((wd + 7 : Nat) : Int) from w64N (x := wd + 7) (by omega), hB]
    exact w64D (y := 8) (by omega)
  simp only [spec_TakeRuns.j1]
  rw [if_neg (by decide), e1, if_neg (by decide), e2, e3, if_neg c1, Nat.pow_zero, Nat.mod_one, show ((0 : Nat) : Int) = 0 from rfl]
set_option maxHeartbeats 2000000 in
theorem step_lit {data Y : List Int} {wd n p : Nat} {vs : List Nat} {out : List Int} {r : List Int × Bool} (hw : 1 ≤ wd) (hw2 : wd ≤ 64) (hl : data.length ≤ 1000000) (hn : n ≤ 3000) (h0 : vs ≠ []) (h8 : vs.length % 8 = 0) (h504 : vs.length ≤ 504) (hV : ∀ x ∈ vs, x < 2 ^ wd) (hd : data.drop p = Pk.encR wd (.lit vs) ++ Y) (hp : p ≤ data.length) (hlt : out.length < n) (m : Nat) (hm : m = min vs.length (n - out.length))
    (IH : Evt (fun k => spec_TakeRuns.l0 k data wd n (out ++ ints (vs.take m)) ((p + (Pk.encR wd (.lit vs)).length : Nat) : Int)) r) : Evt (fun k => spec_TakeRuns.l0 k data wd n out p) r := by
  obtain ⟨g, hg⟩ : ∃ g, g = vs.length / 8 := ⟨_, rfl⟩
  have hvp := List.length_pos_iff.2 h0
  have hg1 : 1 ≤ g := by omega
  have hg63 : g ≤ 63 := by omega
  have hg8 : vs.length = 8 * g := by omega
  have hu : Pk.uv (2 * g + 1) = [((2 * g + 1 : Nat) : Int)] := by
    unfold Pk.uv
    rw [Go.Lib.uvarint_small (by omega), List.map_cons, List.map_nil, Pk.u8_nat2, Nat.mod_eq_of_lt (by omega)]
  have hd1 : data.drop p = Pk.uv (2 * g + 1) ++ (Pk.pkB wd vs ++ Y) := by
    rw [hd, hu, hg]
    rfl
  have hd2 := drop_more hd1
  have hp2 := drop_le hd1 hp
  have hp3 := drop_le hd2 hp2
  have hpl : (Pk.pkB wd vs).length = g * wd := by
    have := Pk.pkB_len8 (wd := wd) h8
    rw [hg8, Nat.mul_left_comm] at this
    rw [Nat.mul_comm g]
    exact Nat.eq_of_mul_eq_mul_left (by decide) this
  have hlen : p + (Pk.encR wd (.lit vs)).length = p + (Pk.uv (2 * g + 1)).length + g * wd := by
    rw [hu, ← hpl]
    show p + (_ :: Pk.pkB wd vs).length = p + 1 + _
    rw [List.length_cons]
    omega
  rw [hlen] at IH
  rw [hpl] at hp3
  clear hlen hpl hd hu hg
  refine head_read (x := 2 * g + 1) (c := g) hl hd1 (by omega) (by omega) hg1 hlt ?_
  obtain ⟨p2, hp2e⟩ : ∃ p2, p2 = p + (Pk.uv (2 * g + 1)).length := ⟨_, rfl⟩
  rw [← hp2e] at hd2 hp2 hp3 IH ⊢
  clear hd1 hp2e hp
  have hgw : g * wd ≤ 63 * 64 := Nat.mul_le_mul hg63 hw2
  obtain ⟨G, hG⟩ : ∃ G, G = g * wd := ⟨_, rfl⟩
  rw [← hG] at hgw hp3 IH
  have hmv : m ≤ vs.length := by rw [hm]; exact Nat.min_le_left _ _
  have hm3 : m ≤ 3000 := by omega
  have U := unpack_read (n := m) hw hw2 hl hd2 hp2 hV h8 hmv hm3
  have e1 : Go.bits .and .u64 ((2 * g + 1 : Nat) : Int) 1 = 1 := by rw [and1 _ (by omega), show (2 * g + 1) % 2 = 1 by omega]; rfl
  have e2 : wrap64 (8 * (p2 : Int)) = ((8 * p2 : Nat) : Int) := w64N (x := 8 * p2) (by omega)
  have e3 : wrap64 (8 * (g : Int)) = ((8 * g : Nat) : Int) := w64N (x := 8 * g) (by omega)
  have e4 : wrap64 ((n : Int) - (out.length : Int)) = ((n - out.length : Nat) : Int) := by
    rw [show (n : Int) - (out.length : Int) = ((n - out.length : Nat) : Int) by omega]
    exact w64N (by omega)
  have e5 : mn ((8 * g : Nat) : Int) ((n - out.length : Nat) : Int) = (m : Int) := by
    unfold mn
    rw [hm, hg8]
    split <;> omega
  have e6 : wrap64 ((g : Int) * (wd : Int)) = (G : Int) := by rw [← Int.natCast_mul, ← hG]; exact w64N (by omega)
  have hpg : p2 + G ≤ 100000000 := Nat.le_trans hp3 (Nat.le_trans hl (by omega))
  have e7 : wrap64 ((p2 : Int) + (G : Int)) = ((p2 + G : Nat) : Int) := by rw [← Int.natCast_add]; exact w64N hpg
  have htl : (ints (vs.take m)).length = m := by unfold ints; rw [List.length_map, List.length_take]; exact Nat.min_eq_left hmv
  have c3 : out.length + (ints (vs.take m)).length < 17592186044416 := by rw [htl]; omega
  refine Evt.succ (fun k => (spec_UnpackBits.f k data ((8 * p2 : Nat) : Int) wd m).bind fun bt120 => (if bt120.2 = true then (if out.length + bt120.1.length < 17592186044416 then (spec_TakeRuns.l0 k data wd n (out ++ bt120.1) (wrap64 ((p2 : Int) + (wrap64 ((g : Int) * wd))))) else (none)) else (some (([] : List Int), false)))) (fun k => ?_) ?_
  · simp only [spec_TakeRuns.j1]
    rw [if_neg (by decide), e1, if_pos rfl, e2, e3, e4, e5]
  · refine Evt.bind U (Evt.congr (fun k => ?_) IH)
    show (if true = true then (if out.length + (ints (vs.take m)).length < 17592186044416 then (spec_TakeRuns.l0 k data wd n (out ++ ints (vs.take m)) (wrap64 ((p2 : Int) + (wrap64 ((g : Int) * wd))))) else (none)) else (some (([] : List Int), false))) = _
    rw [if_pos rfl, if_pos c3, e6, e7]
/-- Runs are read as what they hold. -/
theorem runs_read {data : List Int} {wd n : Nat} (hw : 1 ≤ wd) (hw2 : wd ≤ 64) (hl : data.length ≤ 1000000) (hn : n ≤ 3000) : ∀ (rs : List Pk.Run) (out : List Int) (p : Nat), data.drop p = Pk.encs wd rs → p ≤ data.length → (∀ r ∈ rs, Pk.RunOk wd r) → out.length ≤ n → n ≤ out.length + (Pk.valss rs).length →
    Evt (fun k => spec_TakeRuns.l0 k data wd n out p) (out ++ ints ((Pk.valss rs).take (n - out.length)), true)
  | [], out, p, _, _, _, ho, hv => by
    have hon : out.length = n := by
      simp [Pk.valss] at hv
      omega
    have c1 : ¬ (out.length : Int) < (n : Int) := by omega
    have e : out ++ ints ((Pk.valss []).take (n - out.length)) = out := by simp [Pk.valss, ints]
    rw [e]
    refine Evt.succ _ (fun k => ?_) (Evt.const _)
    simp only [spec_TakeRuns.l0]
    rw [if_neg c1]
  | r :: rs, out, p, hd, hp, hr, ho, hv => by
    by_cases hlt : out.length < n
    · rw [encs_cons] at hd
      rw [valss_cons, List.length_append] at hv
      have hr1 := hr r List.mem_cons_self
      have hr2 : ∀ x ∈ rs, Pk.RunOk wd x := fun x hx => hr x (List.mem_cons_of_mem _ hx)
      have hd3 := drop_more hd
      have hp3 := drop_le hd hp
      cases r with
      | rep c v =>
        obtain ⟨h1, h2, h3⟩ := hr1
        obtain ⟨A, hA⟩ : ∃ A, A = out ++ List.replicate (min c (n - out.length)) (v : Int) := ⟨_, rfl⟩
        have hAl : A.length = out.length + min c (n - out.length) := by rw [hA, List.length_append, List.length_replicate]
        have hvc : (Pk.vals (.rep c v)).length = c := List.length_replicate
        rw [hvc] at hv
        have IH := runs_read hw hw2 hl hn rs A _ hd3 hp3 hr2 (by omega) (by omega)
        rw [valss_cons, show Pk.vals (.rep c v) = List.replicate c v from rfl, ← rep_eq hA rfl ho]
        rw [hA] at IH ⊢
        exact step_rep hw2 hl hn h1 h2 h3 hd hp hlt IH
      | lit vs =>
        obtain ⟨h0, h8, h504, hV⟩ := hr1
        obtain ⟨m, hm⟩ : ∃ m, m = min vs.length (n - out.length) := ⟨_, rfl⟩
        obtain ⟨A, hA⟩ : ∃ A, A = out ++ ints (vs.take m) := ⟨_, rfl⟩
        have hAl : A.length = out.length + m := by rw [hA, List.length_append]; unfold ints; rw [List.length_map, List.length_take]; omega
        have hvc : (Pk.vals (.lit vs)).length = vs.length := rfl
        rw [hvc] at hv
        have IH := runs_read hw hw2 hl hn rs A _ hd3 hp3 hr2 (by omega) (by omega)
        rw [valss_cons, show Pk.vals (.lit vs) = vs from rfl, ← lit_eq hm hA rfl ho]
        rw [hA] at IH ⊢
        exact step_lit hw hw2 hl hn h0 h8 h504 hV hd hp hlt m hm IH
    · have hon : out.length = n := by omega
      have c1 : ¬ (out.length : Int) < (n : Int) := by omega
      have e : out ++ ints ((Pk.valss (r :: rs)).take (n - out.length)) = out := by rw [hon, Nat.sub_self, List.take_zero]; simp [ints]
      rw [e]
      refine Evt.succ _ (fun k => ?_) (Evt.const _)
      simp only [spec_TakeRuns.l0]
      rw [if_neg c1]
theorem same_loop {l : List Int} (hl : l.length ≤ 3000) : ∀ (d i : Nat), i + d = l.length → Evt (fun k => laws_sameWords.l0 k l l (l.length : Int) i) true
  | 0, i, hi => by
    have c1 : ¬ (i : Int) < (l.length : Int) := by omega
    refine Evt.succ _ (fun k => ?_) (Evt.const true)
    simp only [laws_sameWords.l0]
    rw [if_neg c1]
  | d + 1, i, hi => by
    have c1 : (i : Int) < (l.length : Int) := by omega
    have e3 : wrap64 ((i : Int) + 1) = ((i + 1 : Nat) : Int) := w64N (x := i + 1) (by omega)
    refine Evt.succ _ (fun k => ?_) (same_loop hl d (i + 1) (by omega))
    simp only [laws_sameWords.l0]
    rw [if_pos c1, if_pos (Int.natCast_nonneg i), if_pos c1, e3]
    simp only [c1, if_true]
theorem same_self {l : List Int} (hl : l.length ≤ 3000) : Evt (fun k => laws_sameNumbers.f k l l) true := by
  unfold laws_sameNumbers.f laws_sameWords.f
  refine Evt.congr (fun k => ?_) (Evt.bind (same_loop hl l.length 0 (Nat.zero_add _)) (Evt.const true))
  rw [if_pos rfl]
  rfl
theorem ints_back {l : List Int} (h : ∀ x ∈ l, 0 ≤ x) : ints (l.map Int.toNat) = l := by
  unfold ints
  rw [List.map_map]
  refine (List.map_congr_left (fun x hx => ?_)).trans (List.map_id l)
  exact Int.toNat_of_nonneg (h x hx)
/-- What is written is read. -/
theorem there_back {ps : List (List Int)} {wd : Nat} (hw : 1 ≤ wd) (hw2 : wd ≤ 64) (hn : ps.flatten.length ≤ 3000) (hx : ∀ l ∈ ps, ∀ x ∈ l, 0 ≤ x ∧ x < 2 ^ wd) : Evt (fun k => spec_TakeRuns.f k (Pk.lvWritten wd (nats ps)) wd (ps.flatten.length : Int)) (ps.flatten, true) := by
  have hv : ∀ l ∈ nats ps, ∀ v ∈ l, v < 2 ^ wd := fun l hl v hv => by
    obtain ⟨y, hy, rfl⟩ := List.mem_map.1 hl
    obtain ⟨x, hx1, rfl⟩ := List.mem_map.1 hv
    obtain ⟨h6, h7⟩ := hx y hy x hx1
    have h8 : ((x.toNat : Nat) : Int) < ((2 ^ wd : Nat) : Int) := by rw [Int.toNat_of_nonneg h6, Int.natCast_pow]; exact h7
    exact Int.ofNat_lt.1 h8
  have hlm : (nats ps).flatten.length = ps.flatten.length := by rw [nats_flat, List.length_map]
  obtain ⟨h1, h2, h3, -⟩ := Pk.lv_ok hw hv (by rw [hlm]; exact hn) rfl
  obtain ⟨f1, ⟨z, f2, -⟩, -⟩ := Pk.finS_ok h1 (by rw [h2, hlm]; exact hn)
  have hc := Pk.capR_le wd ps.flatten.length hw2 hn
  have hcl : (Pk.lvWritten wd (nats ps)).length ≤ 1000000 := by
    refine Nat.le_trans (show (Pk.lvWritten wd (nats ps)).length ≤ Pk.capR wd (nats ps).flatten.length from h3) ?_
    rw [hlm]
    omega
  have R := runs_read (data := Pk.lvWritten wd (nats ps)) (n := ps.flatten.length) hw hw2 hcl hn _ [] 0 (by rw [List.drop_zero]; rfl) (Nat.zero_le _) f1 (Nat.zero_le _) (by rw [f2, h2, List.length_append, hlm]; simp)
  have e : ([] : List Int) ++ ints ((Pk.valss (Pk.finS (Pk.lvF Pk.s0 (nats ps)))).take (ps.flatten.length - ([] : List Int).length)) = ps.flatten := by
    rw [f2, h2, List.nil_append, List.length_nil, Nat.sub_zero, List.take_left' hlm, nats_flat]
    exact ints_back (fun x h => by
      obtain ⟨l, hl, hxl⟩ := List.mem_flatten.1 h
      exact (hx l hl x hxl).1)
  rw [e] at R
  exact R
theorem lvF_some {ps : List (List Int)} {g : Nat} (h1 : 1 ≤ g) (h2 : g ≤ 16384) (hn : ps.flatten.length ≤ 3000) (hl : ps.length ≤ 3000) (hx : ∀ l ∈ ps, ∀ x ∈ l, 0 ≤ x ∧ x ≤ (g : Int)) : impl_LevelsWritten.f true g ps = some (Pk.lvWritten (Lib.bitLen g) (nats ps), true) := by
  unfold impl_LevelsWritten.f
  rw [Int.toNat_natCast, if_pos ⟨rfl, by omega, by omega, hn, hl, hx⟩]
theorem le_lt {g : Nat} (h1 : 1 ≤ g) (h2 : g ≤ 16384) {x : Int} (h : x ≤ (g : Int)) : x < 2 ^ Lib.bitLen g := by
  have h3 := (bitLen_is h1 h2).2.2
  have h4 : ((g : Nat) : Int) < ((2 ^ Lib.bitLen g : Nat) : Int) := Int.ofNat_lt.2 h3
  rw [Int.natCast_pow] at h4
  exact Int.lt_of_le_of_lt h h4
theorem levels_true : Evt (fun k => laws_levels.f k) true := by
  have hx : ∀ l ∈ ([[1, 1]] : List (List Int)), ∀ x ∈ l, 0 ≤ x ∧ x ≤ ((1 : Nat) : Int) := by decide
  have h1 := lvF_some (ps := [[1, 1]]) (g := 1) (Nat.le_refl 1) (by decide) (by decide) (by decide) hx
  have hb : Lib.bitLen 1 = 1 := by decide
  have h2 := there_back (ps := [[1, 1]]) (wd := 1) (Nat.le_refl 1) (by decide) (by decide) (by decide)
  have h3 := same_self (l := [1, 1]) (by decide)
  rw [hb] at h1
  refine Evt.congr (g := fun k => (spec_TakeRuns.f k (Pk.lvWritten 1 (nats [[1, 1]])) 1 2).bind fun bt141 => (if true = true then (if bt141.2 = true then ((laws_sameNumbers.f k bt141.1 (([1, 1] : List Int))).bind fun t148 => (some t148)) else (some false)) else (some false))) (fun k => ?_) ?_
  · unfold laws_levels.f
    have h1' : impl_LevelsWritten.f true 1 (([(([1, 1] : List Int))] : List (List Int))) = some (Pk.lvWritten 1 (nats [[1, 1]]), true) := h1
    rw [h1']
    rfl
  · refine Evt.bind h2 (Evt.congr (g := fun k => (laws_sameNumbers.f k ([1, 1] : List Int) ([1, 1] : List Int)).bind fun t148 => (some t148)) (fun k => ?_) (Evt.bind h3 (Evt.const true)))
    show (if true = true then (if true = true then _ else _) else _) = _
    rw [if_pos rfl, if_pos rfl]
    rfl
theorem rdL {l : List (List Int)} {i : Nat} (h : i < l.length) : rd_L3 l (i : Int) = l[i] := by
  unfold rd_L3
  rw [Int.toNat_natCast, List.getD_eq_getElem?_getD, List.getElem?_eq_getElem h]
  rfl
theorem w64M {x : Nat} (h : x ≤ 3000000000) : wrap64 (x : Int) = (x : Int) := by unfold wrap64; omega
theorem zz_loop {l : List (List Int)} (hl : l.length ≤ 2147483647) : ∀ (d i : Nat), i + d = l.length → (∀ j (h : j < l.length), j < i → l[j].length ≤ 2147483647) → ∃ b, Evt (fun k => laws_zzFits7.l0 k l (l.length : Int) i) b ∧ (b = true → ∀ x ∈ l, x.length ≤ 2147483647)
  | 0, i, hi, hj => by
    have c1 : ¬ (i : Int) < (l.length : Int) := by omega
    refine ⟨true, Evt.succ _ (fun k => ?_) (Evt.const _), fun _ x hx => ?_⟩
    · simp only [laws_zzFits7.l0]
      rw [if_neg c1]
    · obtain ⟨j, hjl, rfl⟩ := List.getElem_of_mem hx
      exact hj j hjl (by omega)
  | d + 1, i, hi, hj => by
    have hil : i < l.length := by omega
    have c1 : (i : Int) < (l.length : Int) := by omega
    have e3 : wrap64 ((i : Int) + 1) = ((i + 1 : Nat) : Int) := w64M (x := i + 1) (by omega)
    by_cases h : l[i].length ≤ 2147483647
    · have c2 : ¬ (l[i].length : Int) > 2147483647 := by omega
      obtain ⟨b, hb1, hb2⟩ := zz_loop hl d (i + 1) (by omega) (fun j h2 hji => by
        by_cases e : j = i
        · subst e; exact h
        · exact hj j h2 (by omega))
      refine ⟨b, Evt.succ _ (fun k => ?_) hb1, hb2⟩
      simp only [laws_zzFits7.l0]
      rw [if_pos c1, if_pos (Int.natCast_nonneg i), if_pos c1, rdL hil, if_neg c2, e3]
    · have c2 : (l[i].length : Int) > 2147483647 := by omega
      refine ⟨false, Evt.succ _ (fun k => ?_) (Evt.const false), fun h => by cases h⟩
      simp only [laws_zzFits7.l0]
      rw [if_pos c1, if_pos (Int.natCast_nonneg i), if_pos c1, rdL hil, if_pos c2]
theorem zz_fits (l : List (List Int)) : ∃ b, Evt (fun k => laws_zzFits7.f k l) b ∧ (b = true → l.length ≤ 2147483647 ∧ ∀ x ∈ l, x.length ≤ 2147483647) := by
  unfold laws_zzFits7.f
  by_cases h : (l.length : Int) > 2147483647
  · exact ⟨false, Evt.congr (fun k => if_pos h) (Evt.const false), fun h => by cases h⟩
  · obtain ⟨b, h1, h2⟩ := zz_loop (l := l) (by omega) l.length 0 (Nat.zero_add _) (fun j _ h => absurd h (Nat.not_lt_zero j))
    exact ⟨b, Evt.congr (fun k => if_neg h) h1, fun hb => ⟨by omega, h2 hb⟩⟩
theorem u64_same {y : Int} (h0 : 0 ≤ y) (h1 : y ≤ 32767) : IntKind.u64.wrap y = y := by
  rw [IntKind.wrap_u64]
  omega
theorem w64_same {y : Int} (h0 : -32768 ≤ y) (h1 : y ≤ 32767) : wrap64 y = y := by unfold wrap64; omega
theorem join_row {l : List (List Int)} {x : List Int} {a1 : Int} {j : Nat} (hx : x.length ≤ 2147483647) (hr : ∀ y ∈ x, -32768 ≤ y ∧ y ≤ 32767) : ∀ (d i : Nat) (out : List Int), i + d = x.length → out.length + d ≤ 100000000000 →
    Evt (fun k => laws_joined.l1 k a1 out l (l.length : Int) j x (x.length : Int) i) (([] : List Int), false) ∨
    ((∀ y ∈ x.drop i, 0 ≤ y ∧ y ≤ a1) ∧ ∀ r, Evt (fun k => laws_joined.l0 k a1 (out ++ x.drop i) l (l.length : Int) (wrap64 ((j : Int) + 1))) r → Evt (fun k => laws_joined.l1 k a1 out l (l.length : Int) j x (x.length : Int) i) r)
  | 0, i, out, hi, ho => by
    have c1 : ¬ (i : Int) < (x.length : Int) := by omega
    have e : x.drop i = [] := List.drop_of_length_le (by omega)
    rw [e, List.append_nil]
    refine Or.inr ⟨fun y hy => (by cases hy), fun r h => Evt.succ _ (fun k => ?_) h⟩
    simp only [laws_joined.l1]
    rw [if_neg c1]
  | d + 1, i, out, hi, ho => by
    have hil : i < x.length := by omega
    have c1 : (i : Int) < (x.length : Int) := by omega
    have e3 : wrap64 ((i : Int) + 1) = ((i + 1 : Nat) : Int) := w64M (x := i + 1) (by omega)
    obtain ⟨r1, r2⟩ := hr _ (List.getElem_mem hil)
    by_cases h0 : x[i] < 0
    · refine Or.inl (Evt.succ _ (fun k => ?_) (Evt.const _))
      simp only [laws_joined.l1]
      rw [if_pos c1, if_pos (Int.natCast_nonneg i), if_pos c1, rd_nat hil, if_pos h0]
    by_cases h1 : x[i] > a1
    · refine Or.inl (Evt.succ _ (fun k => ?_) (Evt.const _))
      simp only [laws_joined.l1]
      rw [if_pos c1, if_pos (Int.natCast_nonneg i), if_pos c1, rd_nat hil, if_neg h0, w64_same r1 r2, if_pos h1]
    have hcap : out.length < 17592186044416 := by omega
    have step : ∀ r, Evt (fun k => laws_joined.l1 k a1 (out ++ [x[i]]) l (l.length : Int) j x (x.length : Int) ((i + 1 : Nat) : Int)) r → Evt (fun k => laws_joined.l1 k a1 out l (l.length : Int) j x (x.length : Int) i) r := fun r h => by
      refine Evt.succ _ (fun k => ?_) h
      simp only [laws_joined.l1]
      rw [if_pos c1, if_pos (Int.natCast_nonneg i), if_pos c1, rd_nat hil, if_neg h0, w64_same r1 r2, if_neg h1, if_pos hcap, u64_same (by omega) r2, e3]
    rw [List.drop_eq_getElem_cons hil]
    rcases join_row hx hr d (i + 1) (out ++ [x[i]]) (by omega) (by rw [List.length_append, List.length_singleton]; omega) with h | ⟨h2, h3⟩
    · exact Or.inl (step _ h)
    · refine Or.inr ⟨fun y hy => ?_, fun r h => step r (h3 r ?_)⟩
      · rcases List.mem_cons.1 hy with rfl | hy
        · exact ⟨by omega, by omega⟩
        · exact h2 y hy
      · rw [List.append_assoc]
        exact h
theorem take_flat {l : List (List Int)} {i : Nat} (hi : i < l.length) : (l.take (i + 1)).flatten = (l.take i).flatten ++ l[i] := by
  rw [List.take_succ_eq_append_getElem hi, List.flatten_append, List.flatten_singleton]
theorem join_loop {l : List (List Int)} {a1 : Int} (hl : l.length ≤ 20) (hx : ∀ x ∈ l, x.length ≤ 2147483647) (hr : ∀ x ∈ l, ∀ y ∈ x, -32768 ≤ y ∧ y ≤ 32767) : ∀ (d j : Nat), j + d = l.length → (l.take j).flatten.length ≤ j * 2147483647 → (∀ i (h : i < l.length), i < j → ∀ y ∈ l[i], 0 ≤ y ∧ y ≤ a1) →
    ∃ r : List Int × Bool, Evt (fun k => laws_joined.l0 k a1 (l.take j).flatten l (l.length : Int) j) r ∧ (r.2 = true → r.1 = l.flatten ∧ l.flatten.length ≤ 2000 ∧ ∀ x ∈ l, ∀ y ∈ x, 0 ≤ y ∧ y ≤ a1)
  | 0, j, hj, ho, hd => by
    have c1 : ¬ (j : Int) < (l.length : Int) := by omega
    have e : (l.take j).flatten = l.flatten := by rw [List.take_of_length_le (by omega)]
    rw [e]
    by_cases hp : (l.flatten.length : Int) > 0
    · refine ⟨(l.flatten, decide ((l.flatten.length : Int) ≤ 2000)), Evt.succ _ (fun k => ?_) (Evt.const _), fun h => ⟨rfl, ?_, fun x hx => ?_⟩⟩
      · simp only [laws_joined.l0]
        rw [if_neg c1, if_pos hp]
      · have := of_decide_eq_true h
        omega
      · obtain ⟨i, hi, rfl⟩ := List.getElem_of_mem hx
        exact hd i hi (by omega)
    · refine ⟨(l.flatten, false), Evt.succ _ (fun k => ?_) (Evt.const _), fun h => by cases h⟩
      simp only [laws_joined.l0]
      rw [if_neg c1, if_neg hp]
  | d + 1, j, hj, ho, hd => by
    have hjl : j < l.length := by omega
    have c1 : (j : Int) < (l.length : Int) := by omega
    have e3 : wrap64 ((j : Int) + 1) = ((j + 1 : Nat) : Int) := w64M (x := j + 1) (by omega)
    have hlj := hx _ (List.getElem_mem hjl)
    have step : ∀ r, Evt (fun k => laws_joined.l1 k a1 (l.take j).flatten l (l.length : Int) j l[j] (l[j].length : Int) ((0 : Nat) : Int)) r → Evt (fun k => laws_joined.l0 k a1 (l.take j).flatten l (l.length : Int) j) r := fun r h => by
      refine Evt.succ _ (fun k => ?_) h
      simp only [laws_joined.l0]
      rw [if_pos c1, if_pos (Int.natCast_nonneg j), if_pos c1, rdL hjl]
      rfl
    rcases join_row (l := l) (a1 := a1) (j := j) hlj (hr _ (List.getElem_mem hjl)) l[j].length 0 (l.take j).flatten (Nat.zero_add _) (by omega) with h | ⟨h2, h3⟩
    · exact ⟨_, step _ h, fun h => by cases h⟩
    · rw [List.drop_zero] at h2 h3
      obtain ⟨r, hr1, hr2⟩ := join_loop hl hx hr d (j + 1) (by omega) (by rw [take_flat hjl, List.length_append]; omega) (fun i hi hij => by
        by_cases e : i = j
        · subst e; exact h2
        · exact hd i hi (by omega))
      refine ⟨r, step r (h3 r ?_), hr2⟩
      rw [e3, ← take_flat hjl]
      exact hr1
theorem join_is {l : List (List Int)} (a1 : Int) (hx : ∀ x ∈ l, x.length ≤ 2147483647) (hr : ∀ x ∈ l, ∀ y ∈ x, -32768 ≤ y ∧ y ≤ 32767) : ∃ r : List Int × Bool, Evt (fun k => laws_joined.f k l a1) r ∧ (r.2 = true → r.1 = l.flatten ∧ l.flatten.length ≤ 2000 ∧ l.length ≤ 20 ∧ 1 ≤ a1 ∧ a1 ≤ 16384 ∧ ∀ x ∈ l, ∀ y ∈ x, 0 ≤ y ∧ y ≤ a1) := by
  have hF : Evt (fun k => laws_joined.j0 k l a1 ([] : List Int) true) (([] : List Int), false) := by
    refine Evt.succ _ (fun k => ?_) (Evt.const _)
    simp only [laws_joined.j0]
    rw [if_pos trivial]
  unfold laws_joined.f
  by_cases h1 : a1 < 1
  · exact ⟨_, Evt.congr (fun k => if_pos h1) hF, fun h => by cases h⟩
  by_cases h2 : a1 > 16384
  · exact ⟨_, Evt.congr (fun k => (if_neg h1).trans (if_pos h2)) hF, fun h => by cases h⟩
  by_cases h3 : (l.length : Int) > 20
  · refine ⟨_, Evt.congr (fun k => (if_neg h1).trans ((if_neg h2).trans ?_)) hF, fun h => by cases h⟩
    rw [decide_eq_true h3]
  obtain ⟨r, e1, e2⟩ := join_loop (l := l) (a1 := a1) (by omega) hx hr l.length 0 (Nat.zero_add _) (by simp) (fun i _ h => absurd h (Nat.not_lt_zero i))
  refine ⟨r, Evt.congr (g := fun k => laws_joined.j0 k l a1 ([] : List Int) false) (fun k => (if_neg h1).trans ((if_neg h2).trans ?_)) (Evt.succ _ (fun k => ?_) e1), fun h => ?_⟩
  · rw [decide_eq_false h3]
  · simp only [laws_joined.j0]
    rw [if_neg (by decide)]
    rfl
  · obtain ⟨f1, f2, f3⟩ := e2 h
    exact ⟨f1, f2, by omega, by omega, by omega, f3⟩
theorem bitLenAux_gt : ∀ (f x k : Nat), k < Lib.bitLenAux f x → 0 < x / 2 ^ k
  | 0, _, _, h => absurd h (Nat.not_lt_zero _)
  | f + 1, x, k, h => by
    unfold Lib.bitLenAux at h
    by_cases h0 : x = 0
    · rw [if_pos h0] at h; exact absurd h (Nat.not_lt_zero _)
    · rw [if_neg h0] at h
      cases k with
      | zero => rw [Nat.pow_zero, Nat.div_one]; omega
      | succ k =>
        rw [Nat.pow_succ, Nat.mul_comm, ← Nat.div_div_eq_div_mul]
        exact bitLenAux_gt f (x / 2) k (by omega)
theorem shr_is {x n : Nat} (hn : n ≤ 15) : shr .i64 (x : Int) (n : Int) = ((x / 2 ^ n : Nat) : Int) := by
  unfold shr
  rw [Int.toNat_natCast, show min n IntKind.i64.bits = n from Nat.min_eq_left (Nat.le_trans hn (by decide))]
  simp
theorem width_loop {g : Nat} (h1 : 1 ≤ g) (h2 : g ≤ 16384) : ∀ (d n : Nat), n + d = Lib.bitLen g → Evt (fun k => spec_WidthOf.l0 k (g : Int) (n : Int)) ((Lib.bitLen g : Nat) : Int)
  | 0, n, h => by
    obtain ⟨-, b2, b3⟩ := bitLen_is h1 h2
    have e : n = Lib.bitLen g := by omega
    have hz : g / 2 ^ n = 0 := by rw [e]; exact Nat.div_eq_of_lt b3
    refine Evt.succ _ (fun k => ?_) (Evt.const _)
    simp only [spec_WidthOf.l0]
    rw [if_pos (Int.natCast_nonneg n), shr_is (by omega), hz, if_neg (by decide), e]
  | d + 1, n, h => by
    obtain ⟨-, b2, b3⟩ := bitLen_is h1 h2
    have hp : 0 < g / 2 ^ n := bitLenAux_gt 64 g n (show n < Lib.bitLen g by omega)
    have hp2 : ((g / 2 ^ n : Nat) : Int) > 0 := by omega
    have e3 : wrap64 ((n : Int) + 1) = ((n + 1 : Nat) : Int) := w64M (x := n + 1) (by omega)
    refine Evt.succ _ (fun k => ?_) (width_loop h1 h2 d (n + 1) (by omega))
    simp only [spec_WidthOf.l0]
    rw [if_pos (Int.natCast_nonneg n), shr_is (by omega), if_pos hp2, e3]
/-- The law, in plain words. -/
theorem pure (a0 : Int) (l : List (List Int)) (hr : ∀ x ∈ l, ∀ y ∈ x, -32768 ≤ y ∧ y ≤ 32767) : ∃ k, laws_FnLevelsWritten.f k a0 l = some true := by
  have hlev : Evt (fun k => (laws_levels.f k).bind fun t154 => (some t154)) true := Evt.bind levels_true (Evt.const true)
  have key : Evt (fun k => laws_FnLevelsWritten.f k a0 l) true := by
    unfold laws_FnLevelsWritten.f
    obtain ⟨b, z1, z2⟩ := zz_fits l
    refine Evt.bind z1 ?_
    cases b with
    | false => exact Evt.congr (fun k => if_neg (by decide)) (Evt.const true)
    | true =>
      refine Evt.congr (fun k => if_pos rfl) ?_
      obtain ⟨-, z4⟩ := z2 rfl
      obtain ⟨⟨out, is⟩, j1, j2⟩ := join_is a0 z4 hr
      refine Evt.bind j1 ?_
      cases is with
      | false => exact Evt.congr (fun k => if_neg (show ¬ (false = true) by decide)) hlev
      | true =>
        obtain ⟨f1, f2, f3, f4, f5, f6⟩ := j2 rfl
        simp only at f1
        subst f1
        obtain ⟨g, rfl⟩ := Int.eq_ofNat_of_zero_le (show 0 ≤ a0 by omega)
        have hg1 : 1 ≤ g := by omega
        have hg2 : g ≤ 16384 := by omega
        obtain ⟨b1, b2, -⟩ := bitLen_is hg1 hg2
        refine Evt.congr (fun k => if_pos rfl) ?_
        refine Evt.congr (g := fun k => (spec_WidthOf.f k g).bind fun t159 => ((spec_TakeRuns.f k (Pk.lvWritten (Lib.bitLen g) (nats l)) t159 (l.flatten.length : Int)).bind fun bt160 => (if true = true then (if bt160.2 = true then ((laws_sameNumbers.f k bt160.1 l.flatten).bind fun t164 => (if t164 = true then ((laws_levels.f k).bind fun t165 => (some t165)) else (some false))) else (some false)) else (some false)))) (fun k => ?_) ?_
        · rw [lvF_some hg1 hg2 (by omega) (by omega) f6, Option.bind_some]
        · refine Evt.bind (a := ((Lib.bitLen g : Nat) : Int)) (width_loop hg1 hg2 (Lib.bitLen g) 0 (Nat.zero_add _)) ?_
          refine Evt.bind (there_back b1 (by omega) (by omega) (fun x hx y hy => ⟨(f6 x hx y hy).1, le_lt hg1 hg2 (f6 x hx y hy).2⟩)) ?_
          refine Evt.congr (fun k => (if_pos rfl).trans (if_pos rfl)) ?_
          refine Evt.bind (same_self (l := l.flatten) (by omega)) ?_
          exact Evt.congr (fun k => if_pos rfl) hlev
  obtain ⟨K, hK⟩ := key
  exact ⟨K, hK K (Nat.le_refl K)⟩

end Go.Proofs.Ytmlfgolmdeignaa.Pure
