/- Bits are packed to bytes. -/
import Derived.Test.YtogbpljnekgfkaaGreatDoorC0
namespace Go.Proofs.YtogbpljnekgfkaaGreatDoor.Cm
open Go.RowKit Go.IntWalk Go.Proofs.YtogbpljnekgfkaaGreatDoorW.PrintWords Go.Proofs.YtogbpljnekgfkaaGreatDoorW.PrintLast Go.Proofs.YtogbpljnekgfkaaGreatDoorW.PrintMore
attribute [local go_sem] max2_int min2_int max_two min_two max_three min_three max_four min_four
set_option linter.unusedVariables false
set_option linter.unusedSimpArgs false
/-- A Bool as the program's numbers have it. -/
def bU (b : Bool) : Int := if b = true then 1 else 0
def rowU (T : List Bool) : Array Value := (T.map fun b => Value.int .u32 (bU b)).toArray
theorem rowU_get {T : List Bool} {i : Nat} (h : i < T.length) : (rowU T)[i]? = some (.int .u32 (bU (T.getD i false))) := by
  simp [rowU, h]
/-- Eight bits as a byte. -/
def pk8 (b0 b1 b2 b3 b4 b5 b6 b7 : Bool) : Int := bU b0 + 2 * (bU b1 + 2 * (bU b2 + 2 * (bU b3 + 2 * (bU b4 + 2 * (bU b5 + 2 * (bU b6 + 2 * bU b7))))))
theorem pk8_range : ∀ (b0 b1 b2 b3 b4 b5 b6 b7 : Bool), 0 ≤ pk8 b0 b1 b2 b3 b4 b5 b6 b7 ∧ pk8 b0 b1 b2 b3 b4 b5 b6 b7 < 256 := by decide +kernel
theorem pk8_bit : ∀ (b0 b1 b2 b3 b4 b5 b6 b7 : Bool) (i : Fin 8), ((pk8 b0 b1 b2 b3 b4 b5 b6 b7).toNat / 2 ^ i.val % 2 == 1) = [b0, b1, b2, b3, b4, b5, b6, b7].getD i.val false := by decide +kernel
theorem byte_ext : ∀ (x : Fin 256), x.val = (((((((x.val / 2 ^ 7 % 2) * 2 + x.val / 2 ^ 6 % 2) * 2 + x.val / 2 ^ 5 % 2) * 2 + x.val / 2 ^ 4 % 2) * 2 + x.val / 2 ^ 3 % 2) * 2 + x.val / 2 ^ 2 % 2) * 2 + x.val / 2 ^ 1 % 2) * 2 + x.val / 2 ^ 0 % 2 := by decide +kernel
theorem bool_bit {a b : Nat} (h : (a % 2 == 1) = (b % 2 == 1)) : a % 2 = b % 2 := by
  have ha := Nat.mod_two_eq_zero_or_one a
  have hb := Nat.mod_two_eq_zero_or_one b
  rcases ha with ha | ha <;> rcases hb with hb | hb <;> rw [ha, hb] at h ⊢ <;> cases h
theorem bytes_ext {A B : List Int} (hA : Bytes A) (hB : Bytes B) (hl : A.length = B.length) (h : ∀ q, bit A q = bit B q) : A = B := by
  refine List.ext_getElem hl fun k h1 h2 => ?_
  obtain ⟨x, hx⟩ := byte_fin hA k
  obtain ⟨y, hy⟩ := byte_fin hB k
  have ea : A.getD k 0 = A[k] := by rw [List.getD_eq_getElem?_getD, List.getElem?_eq_getElem h1]; rfl
  have eb : B.getD k 0 = B[k] := by rw [List.getD_eq_getElem?_getD, List.getElem?_eq_getElem h2]; rfl
  rw [← ea, ← eb, hx, hy]
  have key : ∀ i, i < 8 → x.val / 2 ^ i % 2 = y.val / 2 ^ i % 2 := fun i hi => by
    have := h (8 * k + i)
    unfold bit at this
    rw [show (8 * k + i) / 8 = k by omega, show (8 * k + i) % 8 = i by omega, hx, hy] at this
    exact bool_bit this
  have : x.val = y.val := by
    rw [byte_ext x, byte_ext y, key 0 (by decide), key 1 (by decide), key 2 (by decide), key 3 (by decide), key 4 (by decide), key 5 (by decide), key 6 (by decide), key 7 (by decide)]
  rw [this]
theorem bytes_set {D : List Int} (h : Bytes D) (k : Nat) {v : Int} (h0 : 0 ≤ v) (h1 : v < 256) : Bytes (D.set k v) := fun x hx => by
  rcases List.mem_or_eq_of_mem_set hx with hx | rfl
  · exact h x hx
  · exact ⟨h0, h1⟩
theorem set8 {D : List Int} (h : Bytes D) {k : Nat} (hk : k < D.length) (b0 b1 b2 b3 b4 b5 b6 b7 : Bool) : setBits D (8 * k) [b0, b1, b2, b3, b4, b5, b6, b7] = D.set k (pk8 b0 b1 b2 b3 b4 b5 b6 b7) := by
  obtain ⟨r0, r1⟩ := pk8_range b0 b1 b2 b3 b4 b5 b6 b7
  refine bytes_ext (setBits_bytes _ _ h) (bytes_set h k r0 r1) ((setBits_len _ _ _).trans List.length_set.symm) fun q => ?_
  rw [bit_setBits _ _ h (by simp only [List.length_cons, List.length_nil]; omega)]
  simp only [List.length_cons, List.length_nil]
  unfold bit
  by_cases hq : q / 8 = k
  · rw [if_pos (by omega), hq, List.getD_eq_getElem?_getD (l := D.set k _), List.getElem?_set_self hk, Option.getD_some]
    have := pk8_bit b0 b1 b2 b3 b4 b5 b6 b7 ⟨q % 8, Nat.mod_lt _ (by decide)⟩
    rw [this, show q - 8 * k = q % 8 by omega]
  · rw [if_neg (by omega), List.getD_eq_getElem?_getD (l := D.set k _), List.getElem?_set_ne (by omega), ← List.getD_eq_getElem?_getD]
theorem take8 {bs : List Bool} {i : Nat} (h : i + 8 ≤ bs.length) : bs.take (i + 8) = bs.take i ++ [bs.getD i false, bs.getD (i + 1) false, bs.getD (i + 2) false, bs.getD (i + 3) false, bs.getD (i + 4) false, bs.getD (i + 5) false, bs.getD (i + 6) false, bs.getD (i + 7) false] := by
  have g : ∀ j (hj : j < bs.length), bs.take (j + 1) = bs.take j ++ [bs.getD j false] := fun j hj => by
    rw [List.take_succ_eq_append_getElem hj, List.getD_eq_getElem?_getD, List.getElem?_eq_getElem hj]
    rfl
  rw [g (i + 7) (by omega), g (i + 6) (by omega), g (i + 5) (by omega), g (i + 4) (by omega), g (i + 3) (by omega), g (i + 2) (by omega), g (i + 1) (by omega), g i (by omega)]
  simp only [List.append_assoc, List.cons_append, List.nil_append]
theorem pack_step {D : List Int} (h : Bytes D) {o d : Nat} {bs : List Bool} (hl : 8 * d + 8 ≤ bs.length) (hk : o + d < D.length) {i : Nat} (hi : i = 8 * d) :
    setBits D (8 * o) (bs.take (8 * (d + 1))) = (setBits D (8 * o) (bs.take (8 * d))).set (o + d) (pk8 (bs.getD i false) (bs.getD (i + 1) false) (bs.getD (i + 2) false) (bs.getD (i + 3) false) (bs.getD (i + 4) false) (bs.getD (i + 5) false) (bs.getD (i + 6) false) (bs.getD (i + 7) false)) := by
  subst hi
  rw [show 8 * (d + 1) = 8 * d + 8 by omega, take8 hl, setBits_append, List.length_take, Nat.min_eq_left (by omega), show 8 * o + 8 * d = 8 * (o + d) by omega]
  exact set8 (setBits_bytes _ _ h) (by rw [setBits_len]; exact hk) _ _ _ _ _ _ _ _
theorem pk_expr : ∀ (b0 b1 b2 b3 b4 b5 b6 b7 : Bool), IntKind.u8.wrap (bits .or .u32 (bits .or .u32 (bits .or .u32 (bits .or .u32 (bits .or .u32 (bits .or .u32 (bits .or .u32 (bU b0) (IntKind.u32.wrap (bU b1 * 2))) (IntKind.u32.wrap (bU b2 * 4))) (IntKind.u32.wrap (bU b3 * 8))) (IntKind.u32.wrap (bU b4 * 16))) (IntKind.u32.wrap (bU b5 * 32))) (IntKind.u32.wrap (bU b6 * 64))) (IntKind.u32.wrap (bU b7 * 128))) = pk8 b0 b1 b2 b3 b4 b5 b6 b7 := by decide +kernel
theorem i32 {i d n : Nat} (h : i = 8 * d) (hd : d < 4) (hn : n = 32) : i + 8 ≤ n := by omega
theorem hmds {m c d M C : Nat} (h4 : 4 ≤ m) (hd : d < 4) (hmc : m ≤ c) (h1 : M + d = m) (h2 : C + d = c) : (0 : Int) < (M : Int) ∧ (1 : Int) ≤ (M : Int) ∧ (M : Int) ≤ (C : Int) := by omega
theorem h32' {i n : Nat} (h : i + 8 ≤ n) (hn : n = 32) : (i : Int) < 32 := by omega
theorem h32n {i d : Nat} (h : i = 8 * d) (hd : ¬ d < 4) : ¬ (i : Int) < 32 := by omega
theorem len4 {n d : Nat} (h : n = 32) (hd : ¬ d < 4) : n ≤ 8 * d := by omega
theorem nx {i q n j : Nat} (h : q = i + j) (hb : i + 8 ≤ n) (hj : j < 8) (hn : n = 32) : IntKind.i64.wrap ((i : Int) + (j : Int)) = (q : Int) ∧ (q : Int) < 32 ∧ q < n := by
  rw [IntKind.wrap_i64]
  omega
set_option maxHeartbeats 64000000 in
set_option maxRecDepth 100000 in
/-- Thirty-two bits are laid as four bytes. -/
theorem packBits (ob o m c : Nat) (X : Array Value) (D : List Int) (bs : List Bool) (w : World) (hd : w.heap[ob]? = some (.cells (rowX X D) 5 (0, 0))) (hb : Bytes D) (hbs : bs.length = 32) (hm4 : 4 ≤ m) (hmc : m ≤ c) (hc : c ≤ 9223372036854775807) (hm : o + m ≤ D.length) :
    Calls Tryz.prog 91 #[.agg (rowU bs), .slice (some ⟨ob, o, none⟩) m c] w fun e w' => e = .returned (.tuple #[]) ∧ w'.heap[ob]? = some (.cells (rowX X (setBits D (8 * o) bs)) 5 (0, 0)) ∧ Kept w w' (fun k => k = ob) ∧ Below ob w w' := by
  obtain ⟨t, ht⟩ : ∃ t, t = w.heap.size := ⟨_, rfl⟩
  have hob := blk_lt hd
  have A0 := Aside0.mk (show (w.alloc (.cells (rowU bs) 181 (0, 0))).heap[ob]? = some (.cells (rowX X D) 5 (0, 0)) from blk_alloc hd _)
  have A1 := Aside0.mk (show (w.alloc (.cells (rowU bs) 181 (0, 0))).heap[t]? = some (.cells (rowU bs) 181 (0, 0)) from blk_at ht)
  have A2 := Aside0.mk (show Kept w (w.alloc (.cells (rowU bs) 181 (0, 0))) (fun k => k = ob) from Kept.alloc (kept_refl' w _) _)
  have A3 := Aside0.mk (show Below ob w (w.alloc (.cells (rowU bs) 181 (0, 0))) from (Below.refl ob w).alloc (by omega) _)
  have HB := Aside0.mk hb
  have HL := Aside0.mk hbs
  have HM := Aside0.mk hm
  have hne : t ≠ ob := by omega
  clear hd hob hb hbs hm
  go_enter Tryz.func91, Tryz.ntmps91
  go_wp2
  rw [← ht]
  clear ht
  go_loopg [1, 4] 4 (fun kq v1 v4 w' => ∃ d o' i M C : Nat, v4 = .int .i64 (i : Int) ∧ Aside0 (i = 8 * d) ∧ v1 = .slice (some ⟨ob, o', none⟩) M C ∧ Aside0 (M + d = m ∧ C + d = c) ∧ kq + d = 4 ∧ (d < 4 → o' = o + d) ∧ Aside0 (w'.heap[ob]? = some (.cells (rowX X (setBits D (8 * o) (bs.take (8 * d)))) 5 (0, 0))) ∧ Aside0 (w'.heap[t]? = some (.cells (rowU bs) 181 (0, 0))) ∧ Aside0 (Kept w w' (fun k => k = ob)) ∧ Aside0 (Below ob w w'))
  case atStart => exact ⟨0, o, 0, m, c, rfl, ⟨rfl⟩, rfl, ⟨rfl, rfl⟩, rfl, fun _ => rfl, A0, A1, A2, A3⟩
  case round =>
    obtain ⟨d, o', i, M, C, rfl, HI, rfl, HMC, hk, ho, B0, B1, B2, B3⟩ := hrel
    by_cases hd : d < 4
    · obtain rfl := ho hd
      have hlen : o + d < (setBits D (8 * o) (bs.take (8 * d))).length := by rw [setBits_len]; have := HM.out; omega
      have hi32 : i + 8 ≤ bs.length := i32 HI.out hd HL.out
      obtain ⟨w0, hu0⟩ : ∃ u, u = bU (bs.getD i false) := ⟨_, rfl⟩
      have x0 : wr.cell? ⟨t, i, none⟩ = some (.int .u32 w0) := by rw [hu0]; exact (cell_of_row' B1.out _).trans (rowU_get (Nat.lt_of_lt_of_le (Nat.lt_add_of_pos_right (by decide)) hi32))
      obtain ⟨q1, hq1⟩ : ∃ q : Nat, q = i + 1 := ⟨_, rfl⟩
      obtain ⟨e1', l1, z1⟩ := nx hq1 hi32 (by decide) HL.out
      have e1 : IntKind.i64.wrap ((i : Int) + 1) = (q1 : Int) := e1'
      clear e1'
      obtain ⟨w1, hu1⟩ : ∃ u, u = bU (bs.getD q1 false) := ⟨_, rfl⟩
      have x1 : wr.cell? ⟨t, q1, none⟩ = some (.int .u32 w1) := by rw [hu1]; exact (cell_of_row' B1.out _).trans (rowU_get z1)
      clear z1
      obtain ⟨q2, hq2⟩ : ∃ q : Nat, q = i + 2 := ⟨_, rfl⟩
      obtain ⟨e2', l2, z2⟩ := nx hq2 hi32 (by decide) HL.out
      have e2 : IntKind.i64.wrap ((i : Int) + 2) = (q2 : Int) := e2'
      clear e2'
      obtain ⟨w2, hu2⟩ : ∃ u, u = bU (bs.getD q2 false) := ⟨_, rfl⟩
      have x2 : wr.cell? ⟨t, q2, none⟩ = some (.int .u32 w2) := by rw [hu2]; exact (cell_of_row' B1.out _).trans (rowU_get z2)
      clear z2
      obtain ⟨q3, hq3⟩ : ∃ q : Nat, q = i + 3 := ⟨_, rfl⟩
      obtain ⟨e3', l3, z3⟩ := nx hq3 hi32 (by decide) HL.out
      have e3 : IntKind.i64.wrap ((i : Int) + 3) = (q3 : Int) := e3'
      clear e3'
      obtain ⟨w3, hu3⟩ : ∃ u, u = bU (bs.getD q3 false) := ⟨_, rfl⟩
      have x3 : wr.cell? ⟨t, q3, none⟩ = some (.int .u32 w3) := by rw [hu3]; exact (cell_of_row' B1.out _).trans (rowU_get z3)
      clear z3
      obtain ⟨q4, hq4⟩ : ∃ q : Nat, q = i + 4 := ⟨_, rfl⟩
      obtain ⟨e4', l4, z4⟩ := nx hq4 hi32 (by decide) HL.out
      have e4 : IntKind.i64.wrap ((i : Int) + 4) = (q4 : Int) := e4'
      clear e4'
      obtain ⟨w4, hu4⟩ : ∃ u, u = bU (bs.getD q4 false) := ⟨_, rfl⟩
      have x4 : wr.cell? ⟨t, q4, none⟩ = some (.int .u32 w4) := by rw [hu4]; exact (cell_of_row' B1.out _).trans (rowU_get z4)
      clear z4
      obtain ⟨q5, hq5⟩ : ∃ q : Nat, q = i + 5 := ⟨_, rfl⟩
      obtain ⟨e5', l5, z5⟩ := nx hq5 hi32 (by decide) HL.out
      have e5 : IntKind.i64.wrap ((i : Int) + 5) = (q5 : Int) := e5'
      clear e5'
      obtain ⟨w5, hu5⟩ : ∃ u, u = bU (bs.getD q5 false) := ⟨_, rfl⟩
      have x5 : wr.cell? ⟨t, q5, none⟩ = some (.int .u32 w5) := by rw [hu5]; exact (cell_of_row' B1.out _).trans (rowU_get z5)
      clear z5
      obtain ⟨q6, hq6⟩ : ∃ q : Nat, q = i + 6 := ⟨_, rfl⟩
      obtain ⟨e6', l6, z6⟩ := nx hq6 hi32 (by decide) HL.out
      have e6 : IntKind.i64.wrap ((i : Int) + 6) = (q6 : Int) := e6'
      clear e6'
      obtain ⟨w6, hu6⟩ : ∃ u, u = bU (bs.getD q6 false) := ⟨_, rfl⟩
      have x6 : wr.cell? ⟨t, q6, none⟩ = some (.int .u32 w6) := by rw [hu6]; exact (cell_of_row' B1.out _).trans (rowU_get z6)
      clear z6
      obtain ⟨q7, hq7⟩ : ∃ q : Nat, q = i + 7 := ⟨_, rfl⟩
      obtain ⟨e7', l7, z7⟩ := nx hq7 hi32 (by decide) HL.out
      have e7 : IntKind.i64.wrap ((i : Int) + 7) = (q7 : Int) := e7'
      clear e7'
      obtain ⟨w7, hu7⟩ : ∃ u, u = bU (bs.getD q7 false) := ⟨_, rfl⟩
      have x7 : wr.cell? ⟨t, q7, none⟩ = some (.int .u32 w7) := by rw [hu7]; exact (cell_of_row' B1.out _).trans (rowU_get z7)
      clear z7
      obtain ⟨y, hy⟩ : ∃ y, y = (setBits D (8 * o) (bs.take (8 * d))).getD (o + d) 0 := ⟨_, rfl⟩
      have y0 : wr.cell? ⟨ob, o + d, none⟩ = some (.int .u8 y) := by rw [hy]; exact (cell_of_row' B0.out _).trans (rowX_get hlen)
      have y1 := blk_frozen' B0.out (o + d)
      obtain ⟨hmd, hmd1, hmd2⟩ := hmds hm4 hd hmc HMC.out.1 HMC.out.2
      have hM0 : 0 < M := Int.ofNat_lt.1 hmd
      have hM1 : ¬ M = 0 := Nat.ne_of_gt hM0
      have h32 : (i : Int) < 32 := h32' hi32 HL.out
      have S0 := Aside0.mk hlen
      have HE := Aside0.mk ho
      have V0 := Aside0.mk hu0
      have V1 := Aside0.mk hu1
      have V2 := Aside0.mk hu2
      have V3 := Aside0.mk hu3
      have V4 := Aside0.mk hu4
      have V5 := Aside0.mk hu5
      have V6 := Aside0.mk hu6
      have V7 := Aside0.mk hu7
      have Q1 := Aside0.mk hq1
      have Q2 := Aside0.mk hq2
      have Q3 := Aside0.mk hq3
      have Q4 := Aside0.mk hq4
      have Q5 := Aside0.mk hq5
      have Q6 := Aside0.mk hq6
      have Q7 := Aside0.mk hq7
      clear hlen hy ho hi32 hu0 hu1 hu2 hu3 hu4 hu5 hu6 hu7 hq1 hq2 hq3 hq4 hq5 hq6 hq7
      go_upto_region 4 with fail
      go_still_tail 48, (by kernel_rfl)
      change wpList _ _ _ _ _ wr.drew
      go_wp2
      all_goals (
        have P0 := rowX_put (w := wr.drew) B0.out (o + d) (pk8 (bs.getD i false) (bs.getD q1 false) (bs.getD q2 false) (bs.getD q3 false) (bs.getD q4 false) (bs.getD q5 false) (bs.getD q6 false) (bs.getD q7 false)) S0.out
        rw [Q1.out, Q2.out, Q3.out, Q4.out, Q5.out, Q6.out, Q7.out, ← pack_step HB.out (by rw [HL.out]; omega) (by have := HM.out; omega) HI.out, ← pk_expr, ← Q1.out, ← Q2.out, ← Q3.out, ← Q4.out, ← Q5.out, ← Q6.out, ← Q7.out, ← V0.out, ← V1.out, ← V2.out, ← V3.out, ← V4.out, ← V5.out, ← V6.out, ← V7.out] at P0
        have P1 := Aside0.mk P0
        have HX := Aside0.mk (show ∀ v, Kept w (wr.setCell ⟨ob, o + d, none⟩ v) (fun k => k = ob) from fun v => Kept.setCell B2.out (Or.inl rfl) v)
        have HY := Aside0.mk (show ∀ v, Below ob w (wr.setCell ⟨ob, o + d, none⟩ v) from fun v => B3.out.setCell (p := ⟨ob, o + d, none⟩) (Nat.le_refl ob) v)
        have HT := Aside0.mk (show ∀ v, (wr.setCell ⟨ob, o + d, none⟩ v).heap[t]? = some (.cells (rowU bs) 181 (0, 0)) from fun v => blk_far (p := ⟨ob, o + d, none⟩) B1.out hne v)
        clear P0
        go_roundg (gk - 1)
        case measure => omega
        case rel => exact ⟨d + 1, _, i + 8, _, _, rfl, ⟨by have := HI.out; omega⟩, rfl, ⟨by have := HMC.out; omega⟩, by omega, fun h => by have := HMC.out; omega, P1, ⟨HT.out _⟩, ⟨HX.out _⟩, ⟨(HY.out _).drew⟩⟩)
    · have h32 : ¬ (i : Int) < 32 := h32n HI.out hd
      have B4 := Aside0.mk (show wr.heap[ob]? = some (.cells (rowX X (setBits D (8 * o) bs)) 5 (0, 0)) by
        have h := B0.out
        rw [List.take_of_length_le (len4 HL.out hd)] at h
        exact h)
      clear B0 ho
      go_wp2
      go_end0
      exact ⟨rfl, B4.out, B2.out, B3.out⟩

end Go.Proofs.YtogbpljnekgfkaaGreatDoor.Cm
