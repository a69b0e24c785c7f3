/- readLEU32; the kinds of a cut. A dictionary in memory, loaded. loadDictionary. The head of a dictionary. SizeBytes, NewMetadata. -/
import Derived.Test.YtobhegbhljbjhaaDoorKa
import Derived.Test.YtobhegbhljbjhaaDoorShelfL
import Derived.Laws.CopyRow
import Derived.Laws.CopyOwn
import Derived.Laws.EntriesVeiled
import Derived.StillTailTactics
import Derived.Test.YtobhegbhljbjhaaDoorProg
import Derived.Below
import Derived.Deep.Draws
import Derived.Deep.AppendLies
import Derived.Maps.AppendAt
import Derived.OwnWalk
import Derived.Laws.BytesArg
import Derived.Laws.MakeOwn
import Derived.Laws.OwnMore
import Derived.Deep.OwnRows
import Derived.Tactics
import Derived.Lib.ConvBytes
import Derived.Laws.Slices
import Derived.WalkKit
import Derived.KernelRfl
import Derived.RowKit3
import Derived.Deep.LoopGhost
import Derived.Deep.QuietTactic
import Derived.BigQuiet
import Derived.WideLaws
import Derived.Deep.DeepCutAuto
import Derived.Deep.CutBlock
import Derived.Deep.RegionHeld3
import Derived.Laws.Rows
import Derived.Lib.AppendStr
import Derived.ArgAppend
import Derived.Laws.IdiomCopy
import Derived.OrdersHeld
import Derived.Laws.BitsLemmas
import Derived.RowKit
import Derived.Test.YtobhegbhljbjhaaDoorWWords
import Derived.Test.YtobhegbhljbjhaaDoorWLast
import Derived.Test.YtobhegbhljbjhaaDoorWTab
import Derived.Test.YtobhegbhljbjhaaDoorWFour
import Derived.Test.YtobhegbhljbjhaaDoorWQPut
import Derived.Test.YtobhegbhljbjhaaDoorWApart
import Derived.Test.YtobhegbhljbjhaaDoorWArr
import Derived.Test.YtobhegbhljbjhaaDoorWZeros
import Derived.Test.YtobhegbhljbjhaaDoorWFoot
import Derived.Test.YtobhegbhljbjhaaDoorWKept
import Derived.Test.YtobhegbhljbjhaaDoorWShare
import Derived.Test.YtobhegbhljbjhaaDoorWN
import Derived.Test.YtobhegbhljbjhaaDoorWFootNe
import Derived.Test.YtobhegbhljbjhaaDoorWAt
import Derived.Test.YtobhegbhljbjhaaDoorWEqStruct
import Derived.Test.YtobhegbhljbjhaaDoorWRepsOne
import Derived.Test.YtobhegbhljbjhaaDoorWInv
import Derived.Test.YtobhegbhljbjhaaDoorWInvWords
import Derived.Test.YtobhegbhljbjhaaDoorWGuard
import Derived.Test.YtobhegbhljbjhaaDoorWNEv
import Derived.Test.YtobhegbhljbjhaaDoorWMore
namespace Go.Proofs.YtobhegbhljbjhaaDoor.Vk
set_option linter.unusedVariables false
set_option linter.unusedSimpArgs false
open Go.RowKit Go.IntWalk Go.Proofs.YtobhegbhljbjhaaDoorW.PrintWords Go.Proofs.YtobhegbhljbjhaaDoorW.PrintLast Go.Proofs.YtobhegbhljbjhaaDoorW.PrintMore
attribute [local go_sem] max2_int min2_int max_two min_two max_three min_three max_four min_four
/-! ## readLEU32 -/
theorem infoU8 : (Tryd.prog.info? 5).map (fun i => (i.zero, i.size, i.bytes)) = some (some (.int .u8 0), 1, 1) := by kernel_rfl
theorem low_pad (m v : Nat) (h4 : m ≤ 4) (hv : v < 256 ^ m) : low m v ++ List.replicate (4 - m) 0 = low 4 v := by
  have hz : ∀ i, m ≤ i → v / 256 ^ i = 0 := fun i hi => Nat.div_eq_of_lt (Nat.lt_of_lt_of_le hv (Nat.pow_le_pow_right (by omega) hi))
  unfold low
  apply List.ext_getElem
  · simp
    omega
  · intro i h1 h2
    rw [List.getElem_append]
    split
    · simp
    · rename_i hi
      simp at hi
      have hzi : v / 256 ^ i % 256 = 0 := by rw [hz i (by omega)]
      simp only [List.getElem_replicate, List.getElem_map, List.getElem_range, hzi]
      rfl
theorem le_low (v : Nat) (hv : v < 4294967296) : Lib.leNat [UInt8.ofNat (v % 256), UInt8.ofNat (v / 256 % 256), UInt8.ofNat (v / 65536 % 256), UInt8.ofNat (v / 16777216 % 256)] = v := by
  have e : ∀ x : Nat, (UInt8.ofNat (x % 256)).toNat = x % 256 := fun x => by simp
  simp only [Lib.leNat, e]
  omega
def cells4 (v : Nat) : Array Value := #[.int .u8 ((v % 256 : Nat) : Int), .int .u8 ((v / 256 % 256 : Nat) : Int), .int .u8 ((v / 65536 % 256 : Nat) : Int), .int .u8 ((v / 16777216 % 256 : Nat) : Int)]
theorem low_cells (m v : Nat) (h4 : m ≤ 4) (hv : v < 256 ^ m) : ((low m v).map (Value.int .u8) ++ List.replicate (4 - m) (Value.int .u8 0)).toArray = cells4 v := by
  have h := congrArg (fun l => (List.map (Value.int .u8) l).toArray) (low_pad m v h4 hv)
  simp only [List.map_append, List.map_replicate] at h
  rw [h]
  unfold low cells4
  simp [List.range_succ]
theorem assert55 (a b : Value) (w : World) : Calls Tryd.prog 55 #[a, b] w fun e w' => e = .returned (.tuple #[]) ∧ w = w' := by
  go_enter Tryd.func55, Tryd.ntmps55
  apply wp_skip
  simp [bodyPost, results, Tryd.results55, go_sem]
set_option maxRecDepth 100000 in
theorem read46 (A : Option Addr) (m c v : Nat) (w : World) (hC : (Kd.int .u8).C w A m (low m v)) (h1 : 1 ≤ m) (h4 : m ≤ 4) (hc : m ≤ c) (hv : v < 256 ^ m) :
    Calls Tryd.prog 46 #[.slice A m c] w fun e w' => e = .returned (.int .u32 (v : Int)) ∧ Below w.heap.size w w' := by
  have hv4 : v < 4294967296 := Nat.lt_of_lt_of_le hv (Nat.pow_le_pow_right (n := 256) (by omega) h4)
  obtain ⟨ad, rfl, _⟩ := Kd.at_int hC 0 (by omega) (by omega)
  have hsrc : ∀ j, j < m → w.cell? (ad.add j) = some (.int .u8 ((low m v).getD j 0)) := by
    intro j hj
    obtain ⟨ad', e1, h1⟩ := Kd.at_int hC (j : Int) (by omega) (by omega)
    injection e1 with e1
    subst e1
    exact h1
  have hlen : (low m v).length = m := low_len _ _
  have HS := Aside0.mk hsrc
  have HV := Aside0.mk hv
  have h4i : (m : Int) ≤ 4 := by omega
  have h1i : (m : Int) ≥ 1 := by omega
  have hcp := run_copy_row (P := Tryd.prog) (w.alloc (.cells #[.int .u8 0, .int .u8 0, .int .u8 0, .int .u8 0] 106 (0, 0))) 34 34 3 5 w.heap.size 0 4 4 ad m c #[.int .u8 0, .int .u8 0, .int .u8 0, .int .u8 0] 106 ((low m v).map (Value.int .u8)) Tryd.underlying34 (by kernel_rfl) (blk_new w _) (by rw [List.length_map, hlen]; unfold Nat.min; omega) (fun j u hu => by
    rw [List.getElem?_map] at hu
    obtain ⟨x, hx, rfl⟩ := Option.map_eq_some_iff.1 hu
    have hlt := (List.getElem?_eq_some_iff.1 hx).1
    have hc := hsrc j (by omega)
    rw [List.getD_eq_getElem?_getD, hx] at hc
    exact pw_cell_below (below_alloc (Below.refl _ _) _) hc) (by rw [List.length_map, hlen]; simp; omega) (fun u hu => by
    obtain ⟨x, _, rfl⟩ := List.mem_map.1 hu
    rfl)
  have hrow : (List.take 0 (#[Value.int .u8 0, .int .u8 0, .int .u8 0, .int .u8 0] : Array Value).toList ++ (low m v).map (Value.int .u8) ++ List.drop (0 + ((low m v).map (Value.int .u8)).length) (#[Value.int .u8 0, .int .u8 0, .int .u8 0, .int .u8 0] : Array Value).toList).toArray = cells4 v := by
    rw [← low_cells m v h4 hv, List.take_zero, List.nil_append, List.length_map, hlen, Nat.zero_add]
    congr 2
    show List.drop m (List.replicate 4 (Value.int .u8 0)) = _
    rw [List.drop_replicate]
  rw [hrow] at hcp
  have B1 := setRow_heap (w.alloc (.cells #[.int .u8 0, .int .u8 0, .int .u8 0, .int .u8 0] 106 (0, 0))) w.heap.size _ (cells4 v) 106 (0, 0) (blk_new w _)
  have L1 := below_setRow (B := w.heap.size) (g := w.heap.size) (below_alloc (Below.refl w.heap.size w) (.cells #[.int .u8 0, .int .u8 0, .int .u8 0, .int .u8 0] 106 (0, 0))) (Nat.le_refl _) (cells4 v)
  obtain ⟨W, hW⟩ : ∃ W, W = (w.alloc (.cells #[.int .u8 0, .int .u8 0, .int .u8 0, .int .u8 0] 106 (0, 0))).setRow w.heap.size (cells4 v) := ⟨_, rfl⟩
  rw [← hW] at hcp B1 L1
  have HL := Aside0.mk (fun q : Nat => Tryd.binary_LE_Uint32 w.heap.size 0 4 4 (UInt8.ofNat (v % 256)) (UInt8.ofNat (v / 256 % 256)) (UInt8.ofNat (v / 65536 % 256)) (UInt8.ofNat (v / 16777216 % 256)) (W.drewN q) (Nat.le_refl _) ((blk_cell B1 0).trans (by simp [cells4])) ((blk_cell B1 1).trans (by simp [cells4])) ((blk_cell B1 2).trans (by simp [cells4])) ((blk_cell B1 3).trans (by simp [cells4])))
  rw [le_low v hv4] at HL
  have HB := Aside0.mk B1
  have HLB := Aside0.mk L1
  clear hC hsrc hv hW hrow B1 L1
  go_enter Tryd.func46, Tryd.ntmps46
  go_wp2_with (go_at_call 55; refine Calls.mono (assert55 _ _ _) ?_; rintro e w1 ⟨rfl, rfl⟩)
  go_region_with (go_at_call 56; refine Calls.mono (HL.out _) ?_; rintro r w9 ⟨rfl, hb⟩; have HB9 := Aside0.mk hb; clear hb)
  all_goals
    go_wp2
    go_ret
    exact ⟨rfl, (pw_below_drewN HLB.out _).trans (HB9.out.mono HLB.out.size)⟩
/-! ## A dictionary in memory, loaded -/
def offK (K : List ByteArray) (j : Nat) : Nat := ((K.take j).map ByteArray.size).sum
theorem offK_zero (K : List ByteArray) : offK K 0 = 0 := rfl
theorem offK_succ (K : List ByteArray) (j : Nat) (h : j < K.length) : offK K (j + 1) = offK K j + K[j].size := by
  unfold offK
  rw [List.take_add_one, List.getElem?_eq_getElem h, List.map_append, List.sum_append]
  simp only [Option.toList_some, List.map_cons, List.map_nil, List.sum_cons, List.sum_nil, Nat.add_zero]
theorem offK_le (K : List ByteArray) (j m : Nat) : offK K j ≤ offK K (j + m) := by
  unfold offK
  rw [List.take_add, List.map_append, List.sum_append]
  omega
theorem offK_last (K : List ByteArray) (j : Nat) : offK K j ≤ offK K K.length := by
  rcases Nat.le_total j K.length with h | h
  · rw [show K.length = j + (K.length - j) by omega]
    exact offK_le K j _
  · unfold offK
    rw [List.take_of_length_le h, List.take_of_length_le (Nat.le_refl _)]
    exact Nat.le_refl _
def hdN (s5 : Bool) (size : Nat) : Nat := 1 + (if s5 then 16 else 0) + 64 * (size - 1)
/-- What bytes of a dictionary are known. -/
structure MD (D : List Int) (s5 : Bool) (size : Nat) (K : List ByteArray) : Prop where
  s1 : 1 ≤ size
  s4 : size ≤ 4
  few : K.length ≤ 49
  len : D.length = 1 + size * (K.length + 2) + offK K K.length
  big : D.length ≤ 20000
  hd : D[0]? = some ((hdN s5 size : Nat) : Int)
  cnt : (D.drop 1).take size = low size K.length
  off : ∀ j, j ≤ K.length → (D.drop (1 + size * (1 + j))).take size = low size (offK K j)
  text : ∀ i (h : i < K.length), (D.drop (1 + size * (K.length + 2) + offK K i)).take K[i].size = bytesOf K[i]
  cntB : K.length < 256 ^ size
  totB : offK K K.length < 256 ^ size
/-- Keys that lie in memory, as rows of bytes. -/
def KeysIn (w : World) (v : Value) (K : List ByteArray) : Prop := ∃ (B : Option Addr) (cB : Nat), v = .slice B K.length cB ∧ K.length ≤ cB ∧ (Kd.slice 5 (Kd.int .u8)).C w B K.length (K.map bytesOf)
theorem KeysIn.below {w W : World} {v : Value} {K : List ByteArray} (h : KeysIn w v K) (hb : Below w.heap.size w W) : KeysIn W v K := by
  obtain ⟨B, cB, h1, h2, h3⟩ := h
  exact ⟨B, cB, h1, h2, Kd.C_below h3 hb⟩
set_option maxRecDepth 100000 in
/-- A cut of a row of bytes, whatever kinds its ends have. -/
theorem cutk (kl kh : IntKind) (w : World) (A : Option Addr) (n c : Nat) (D : List Int) (hC : (Kd.int .u8).C w A n D) (hc : n ≤ c) (p m : Nat) (hl : p + m ≤ n) (hn : n ≤ 1000000000) (lo hi : Int) (elo : lo = (p : Int)) (ehi : hi = (p : Int) + (m : Int)) :
    ∃ (A2 : Option Addr) (c2 : Nat), (∀ W : World, (Instr.slice 34 (.slice A n c) (some (.int kl lo)) (some (.int kh hi)) none).run Tryd.prog W = .ok (.slice A2 m c2) W) ∧ m ≤ c2 ∧ ∀ W : World, (Kd.int .u8).C W A n D → (Kd.int .u8).C W A2 m ((D.drop p).take m) := by
  obtain ⟨i5, hi5, hz5⟩ := Option.map_eq_some_iff.1 infoU8
  have hsz : i5.size = 1 := by injection hz5 with _ h; injection h
  have hDl : D.length = n := hC.1
  subst hDl elo ehi
  have h1 := fun W => cut_mid (P := Tryd.prog) 34 5 kl kh Tryd.underlying34 hi5 1 hsz A D.length c (p : Int) ((p : Int) + (m : Int)) (by omega) (by omega) (by omega) hc W
  have h2 := fun (W : World) (hW : (Kd.int .u8).C W A D.length D) => Kd.C_mid (lo := p) (hi := p + m) hW (by omega) hl hc
  have e1 : (D.take (p + m)).drop p = (D.drop p).take m := by rw [List.drop_take]; congr 1; omega
  have e2 : ((D.drop p).take m).length = m := by rw [List.length_take, List.length_drop]; omega
  simp only [e1, e2] at h2
  refine ⟨_, c - p, fun W => ?_, by omega, h2⟩
  rw [h1 W, show ((p : Int) + (m : Int)).toNat = p + m by omega, Int.toNat_natCast, show p + m - p = m by omega]
  rfl
def Filled (A : Option Addr) (n : Nat) (D : List Int) (K : List ByteArray) (cs : List Value) (i : Nat) : Prop := ∀ j, j < i → ∃ (h : j < K.length) (Aj : Option Addr) (cj : Nat), cs[j]? = some (.slice Aj K[j].size cj) ∧ K[j].size ≤ cj ∧ ∀ W : World, (Kd.int .u8).C W A n D → (Kd.int .u8).C W Aj K[j].size (bytesOf K[j])
/-- The keys' row, made since: it reads as the keys wherever the bytes read. -/
def Keyed (base : Nat) (A : Option Addr) (n : Nat) (D : List Int) (K : List ByteArray) (v : Value) (w : World) : Prop :=
  (K = [] ∧ v = .slice none 0 0) ∨ ∃ (bk : Nat) (cs : List Value), v = .slice (some ⟨bk, 0, none⟩) K.length K.length ∧ base ≤ bk ∧ w.heap[bk]? = some (.cells cs.toArray 34 (0, 0)) ∧ cs.length = K.length ∧ Filled A n D K cs K.length
theorem Keyed.kept {base : Nat} {A : Option Addr} {n : Nat} {D : List Int} {K : List ByteArray} {v : Value} {w W : World} (h : Keyed base A n D K v w) {S : Nat → Prop} (hk : Kept w W S) (hS : ∀ k, base ≤ k → k < w.heap.size → ¬ S k) : Keyed base A n D K v W := by
  rcases h with h | ⟨bk, cs, h1, h2, h3, h4, h5⟩
  · exact .inl h
  · exact .inr ⟨bk, cs, h1, h2, blk_kept h3 hk (hS bk h2 (blk_lt h3)), h4, h5⟩
theorem Keyed.below {base : Nat} {A : Option Addr} {n : Nat} {D : List Int} {K : List ByteArray} {v : Value} {w W : World} (h : Keyed base A n D K v w) (hb : Below w.heap.size w W) : Keyed base A n D K v W :=
  h.kept (Kept.of_below hb (fun _ => False)) fun _ _ _ h => h
theorem Keyed.lower {base base' : Nat} {A : Option Addr} {n : Nat} {D : List Int} {K : List ByteArray} {v : Value} {w : World} (h : Keyed base A n D K v w) (hl : base' ≤ base) : Keyed base' A n D K v w := by
  rcases h with h | ⟨bk, cs, h1, h2, h3, h4, h5⟩
  · exact .inl h
  · exact .inr ⟨bk, cs, h1, Nat.le_trans hl h2, h3, h4, h5⟩
theorem Keyed.form {base : Nat} {A : Option Addr} {n : Nat} {D : List Int} {K : List ByteArray} {v : Value} {w : World} (h : Keyed base A n D K v w) : ∃ B c, v = .slice B K.length c := by
  rcases h with ⟨rfl, rfl⟩ | ⟨bk, cs, rfl, _⟩
  · exact ⟨_, _, rfl⟩
  · exact ⟨_, _, rfl⟩
theorem Keyed.reads {base : Nat} {A : Option Addr} {n : Nat} {D : List Int} {K : List ByteArray} {v : Value} {w : World} (h : Keyed base A n D K v w) (hC : (Kd.int .u8).C w A n D) (hf : K.length ≤ 49) : KeysIn w v K := by
  rcases h with ⟨rfl, rfl⟩ | ⟨bk, cs, rfl, _, hK, hl, hF⟩
  · exact ⟨none, 0, rfl, Nat.le_refl _, rfl, by decide, fun h => absurd h (by decide)⟩
  · refine ⟨some ⟨bk, 0, none⟩, K.length, rfl, Nat.le_refl _, by rw [List.length_map], by omega, fun _ => ⟨⟨bk, 0, none⟩, rfl, fun j p hj => ?_⟩⟩
    rw [List.getElem?_map] at hj
    obtain ⟨x, hx, rfl⟩ := Option.map_eq_some_iff.1 hj
    have hjl := (List.getElem?_eq_some_iff.1 hx).1
    obtain ⟨h1, Aj, cj, h2, h3, h4⟩ := hF j hjl
    have hxe : x = K[j] := by rw [List.getElem?_eq_getElem hjl] at hx; exact (Option.some.inj hx).symm
    subst hxe
    refine ⟨[.slice Aj K[j].size cj], rfl, ⟨Aj, cj, by rw [bytesOf_length], by rw [bytesOf_length]; exact h3, by rw [bytesOf_length]; exact h4 w hC⟩, fun k u hu => ?_⟩
    obtain rfl : k = 0 := by have := (List.getElem?_eq_some_iff.1 hu).1; simp at this; omega
    obtain rfl : Value.slice Aj K[j].size cj = u := by simpa using hu
    have hcl := blk_cell hK j
    rw [List.getElem?_toArray, h2] at hcl
    rw [← hcl, show (Kd.slice 5 (Kd.int .u8)).sz = 1 from rfl, Nat.mul_one, Nat.add_zero]
    congr 1
    by_cases hj0 : j = 0
    · subst hj0; rfl
    · simp [Addr.add, hj0]
theorem mk63 (n : Nat) (hn : n ≤ 49) (W : World) : (Instr.makeSlice 63 (.int .u32 n) (.int .u32 n)).run Tryd.prog W = .ok (.slice (some ⟨W.heap.size, 0, none⟩) n n) (W.alloc (.cells (Array.replicate n (Value.slice none 0 0)) 34 (0, 0))) := by
  have h : (Tryd.prog.info? 34).map (fun i => (i.zero, i.size, i.bytes)) = some (some (.slice none 0 0), 1, 24) := by kernel_rfl
  cases hi : Tryd.prog.info? 34 with
  | none => rw [hi] at h; cases h
  | some i =>
    rw [hi] at h
    simp only [Option.map_some, Option.some.injEq, Prod.mk.injEq] at h
    obtain ⟨hz, hs, hb⟩ := h
    have := run_makeSlice (P := Tryd.prog) W 63 34 i (.slice none 0 0) Tryd.underlying63 hi hz .u32 .u32 n n (by omega) (by omega) (by rw [hs]; omega) (by rw [hb]; omega) (by omega)
    rw [this, hs, Int.toNat_natCast]
    have e : madeCells (Value.slice none 0 0).cells (n * 1) = Array.replicate n (Value.slice none 0 0) := by
      rw [Nat.mul_one]
      refine Array.ext (by simp [size_madeCells]) fun i h1 h2 => ?_
      simp [madeCells, Value.cells, Nat.mod_one]
    rw [e]
/-! ## loadDictionary -/
theorem wu64 (x : Int) (h0 : 0 ≤ x) (h : x ≤ 1000000) : IntKind.u64.wrap x = x := by
  simp only [IntKind.wrap, IntKind.bits, IntKind.signed]
  simp
  omega
set_option maxHeartbeats 16000000 in
set_option maxRecDepth 100000 in
theorem load45 (g : Nat) (A : Option Addr) (n c : Nat) (D : List Int) (s5 : Bool) (size : Nat) (K : List ByteArray) (hM : MD D s5 size K) (w0 w : World) (hC : (Kd.int .u8).C w0 A n D) (hc : n ≤ c) (hB : Below w0.heap.size w0 w)
    (hg : w.heap[g]? = some (.cells #[.slice A n c, .slice none 0 0] 65 (0, 0))) (hgB : w0.heap.size ≤ g) :
    Calls Tryd.prog 45 #[.pointer (some ⟨g, 0, none⟩), .int .u8 (size : Int)] w fun e w' => e = .returned .nilIface ∧ ∃ v, w'.heap[g]? = some (.cells #[.slice A n c, v] 65 (0, 0)) ∧ Keyed w.heap.size A n D K v w' ∧ Below w0.heap.size w0 w' ∧ Kept w w' (fun k => k = g) := by
  have hnl : n = 1 + size * (K.length + 2) + offK K K.length := by rw [← hM.len]; exact hC.1.symm
  have hn9 : n ≤ 20000 := by have := hM.big; rw [hC.1] at this; exact this
  have s1 := hM.s1
  have s4 := hM.s4
  have few := hM.few
  have hmul : size * (K.length + 2) = size * K.length + size + size := by rw [Nat.mul_add]; omega
  obtain ⟨S, hS⟩ : ∃ S : Int, S = ((size : Nat) : Int) := ⟨_, rfl⟩
  obtain ⟨N, hN⟩ : ∃ N : Int, N = ((K.length : Nat) : Int) := ⟨_, rfl⟩
  have S1 : 1 ≤ S := by omega
  have S4 : S ≤ 4 := by omega
  have N0 : 0 ≤ N := by omega
  have N49 : N ≤ 49 := by omega
  -- the first cut
  obtain ⟨A1, c1, hs1, hc1, hC1⟩ := cutk .i64 .u8 w0 A n c D hC hc 1 size (by omega) (by omega) 1 (1 + S) (by omega) (by omega)
  rw [hM.cnt] at hC1
  have R1 := Aside0.mk (fun W (hW : Below w0.heap.size w0 W) => read46 A1 size c1 K.length W (hC1 W (Kd.C_below hC hW)) s1 s4 hc1 hM.cntB)
  rw [← hN] at R1
  have HM := Aside0.mk hM
  have HC := Aside0.mk hC
  have HB := Aside0.mk hB
  have HG := Aside0.mk hg
  have c0 : w.cell? ⟨g, 0, none⟩ = some (.slice A n c) := (blk_cell hg 0).trans rfl
  have n3 : (3 : Int) ≤ (n : Int) := by omega
  have nS : S + 2 ≤ (n : Int) := by omega
  have HNL := Aside0.mk hnl
  have HMU := Aside0.mk hmul
  have HS := Aside0.mk hS
  have HN := Aside0.mk hN
  rw [← hS]
  clear hM hC hB hg hC1 hnl hmul hS hN
  go_enter Tryd.func45, Tryd.ntmps45
  go_upto_region 4 with (go_at_call 46; refine Calls.mono (R1.out _ HB.out) ?_; rintro e w1 ⟨rfl, b1⟩)
  have G1 := Aside0.mk (blk_below HG.out b1)
  have B1 := Aside0.mk (HB.out.trans (b1.mono HB.out.size))
  have P1 := Aside0.mk ((Kept.refl w (fun k => k = g)).below b1)
  clear b1
  by_cases hK : K.length = 0
  · have hN0 : N = 0 := by rw [HN.out, hK]; rfl
    subst hN0
    have d1 := blk_frozen G1.out 1
    have d0 : w1.cell? ⟨g, 1, none⟩ = some (.slice none 0 0) := (blk_cell G1.out 1).trans rfl
    go_wp2
    go_ret
    refine ⟨rfl, .slice none 0 0, blk_put G1.out 1 _ rfl, ?_, B1.out.setCell hgB _, P1.out.setCell (.inl rfl) _⟩
    obtain rfl : K = [] := List.eq_nil_of_length_eq_zero hK
    exact .inl ⟨rfl, rfl⟩
  · have hN1 : 1 ≤ N := by rw [HN.out]; omega
    obtain ⟨P, hP⟩ : ∃ P : Int, (N + 2) * S = P := ⟨_, rfl⟩
    have hPn : P = ((size * (K.length + 2) : Nat) : Int) := by
      rw [← hP, HN.out, HS.out, Int.mul_comm]
      push_cast
      rfl
    have P0 : 0 ≤ P ∧ P ≤ 204 := by
      have h1 : size * (K.length + 2) ≤ 4 * 51 := Nat.mul_le_mul s4 (by omega)
      omega
    have Pn : 1 + P ≤ (n : Int) := by have := HNL.out; omega
    have PSS : S + S + 1 ≤ (n : Int) := by have := HNL.out; have := HMU.out; have := HS.out; omega
    have HPN := Aside0.mk hPn
    clear hPn
    have d0 : w1.cell? ⟨g, 0, none⟩ = some (.slice A n c) := (blk_cell G1.out 0).trans rfl
    go_upto_region 11 with fail
    obtain ⟨A2, c2, hs2, hc2, hC2⟩ := cutk .u8 .u8 w0 A n c D HC.out hc (1 + size * (1 + 0)) size (by have := HNL.out; have := HMU.out; omega) (by omega) (1 + S) (1 + S + S) (by have := HS.out; omega) (by have := HS.out; omega)
    rw [HM.out.off 0 (by omega), offK_zero] at hC2
    have R2 := Aside0.mk (fun W (hW : Below w0.heap.size w0 W) => read46 A2 size c2 0 W (hC2 W (Kd.C_below HC.out hW)) s1 s4 hc2 (Nat.pow_pos (by omega)))
    clear hC2
    go_upto_region 14 with (go_at_call 46; refine Calls.mono (R2.out _ B1.out) ?_; rintro e w2 ⟨rfl, b2⟩)
    have G2 := Aside0.mk (blk_below G1.out b2)
    have B2 := Aside0.mk (B1.out.trans (b2.mono B1.out.size))
    have P2 := Aside0.mk (P1.out.below b2)
    have hw2 : w.heap.size ≤ w2.heap.size := P2.out.1
    clear b2 d0
    have hmk := mk63 K.length few w2
    rw [← HN.out] at hmk
    obtain ⟨bk, hbk⟩ : ∃ bk, bk = w2.heap.size := ⟨_, rfl⟩
    obtain ⟨W3, hW3⟩ : ∃ W3, W3 = w2.alloc (.cells (Array.replicate K.length (Value.slice none 0 0)) 34 (0, 0)) := ⟨_, rfl⟩
    rw [← hW3, ← hbk] at hmk
    have G3 := Aside0.mk (show W3.heap[g]? = some (.cells #[.slice A n c, .slice none 0 0] 65 (0, 0)) from by rw [hW3]; exact blk_alloc G2.out _)
    have K3 := Aside0.mk (show W3.heap[bk]? = some (.cells (Array.replicate K.length (Value.slice none 0 0)) 34 (0, 0)) from by rw [hW3, hbk]; exact blk_new w2 _)
    have B3 := Aside0.mk (show Below w0.heap.size w0 W3 from by rw [hW3]; exact below_alloc B2.out _)
    have P3 := Aside0.mk (show Kept w W3 (fun k => k = g) from by rw [hW3]; exact P2.out.alloc _)
    have hbw : w.heap.size ≤ bk := by omega
    have hbg : bk ≠ g := by have := blk_lt G2.out; omega
    have hbB : w0.heap.size ≤ bk := by rw [hbk]; exact B2.out.size
    clear hW3 hbk
    have t1 := (blk_cell G3.out 1).trans (show (#[.slice A n c, .slice none 0 0] : Array Value)[1]? = some (.slice none 0 0) from rfl)
    have f1 := blk_frozen G3.out 1
    go_upto_region 16 with fail
    have G4 := Aside0.mk (blk_put G3.out 1 (.slice (some ⟨bk, 0, none⟩) K.length K.length) rfl)
    have K4 := Aside0.mk (blk_far (p := ⟨g, 1, none⟩) K3.out hbg (.slice (some ⟨bk, 0, none⟩) K.length K.length))
    have B4 := Aside0.mk (B3.out.setCell hgB (p := ⟨g, 1, none⟩) (.slice (some ⟨bk, 0, none⟩) K.length K.length))
    have P4 := Aside0.mk (P3.out.setCell (p := ⟨g, 1, none⟩) (.inl rfl) (.slice (some ⟨bk, 0, none⟩) K.length K.length))
    clear t1 f1 hmk
    generalize W3.setCell { block := g, off := 1 } (Value.slice (some { block := bk, off := 0 }) K.length K.length) = W4 at G4 K4 B4 P4 ⊢
    clear G1 B1 G2 B2 G3 K3 B3 P1 P2 P3 hw2 R1 R2 HB HG c0 hs1 hs2 hc1 hc2
    go_wp2
    go_loopg [7, 9, 72] K.length (fun kq v7 v9 v72 w' => ∃ (i : Nat) (O P7 I : Int) (cs : List Value), v7 = .int .u8 P7 ∧ v9 = .int .u32 O ∧ v72 = .int .u32 I ∧ Aside0 (I = (i : Int) ∧ O = ((offK K i : Nat) : Int) ∧ P7 = ((1 + size * (1 + i) : Nat) : Int)) ∧ Aside0 (kq + i = K.length) ∧ Aside0 (cs.length = K.length ∧ Filled A n D K cs i) ∧ Aside0 (w'.heap[bk]? = some (.cells cs.toArray 34 (0, 0))) ∧ Aside0 (w'.heap[g]? = some (.cells #[.slice A n c, .slice (some ⟨bk, 0, none⟩) K.length K.length] 65 (0, 0))) ∧ Aside0 (Below w0.heap.size w0 w') ∧ Aside0 (Kept w w' (fun k => k = g)))
    case atStart =>
      refine ⟨0, 0, 1 + S, 0, List.replicate K.length (Value.slice none 0 0), rfl, rfl, rfl, ⟨rfl, rfl, by have := HS.out; omega⟩, ⟨by omega⟩, ⟨by simp, fun j hj => absurd hj (by omega)⟩, ⟨?_⟩, G4, B4, P4⟩
      rw [List.toArray_replicate]
      exact K4.out
    case round =>
      clear G4 K4 B4 P4 W4
      obtain ⟨i, O, P7, I, cs, rfl, rfl, rfl, HI, HJ, HCS, HK, HG, HB, HP⟩ := hrel
      by_cases hi : i < K.length
      · have hIN : I < N := by have := HI.out.1; have := HN.out; omega
        have hI0 : 0 ≤ I := by have := HI.out.1; omega
        have hO0 : 0 ≤ O := by have := HI.out.2.1; omega
        have hmi : size * (1 + i) + size = size * (1 + (i + 1)) := by rw [← Nat.mul_succ]; rfl
        have hml : size * (1 + (i + 1)) ≤ size * (K.length + 1) := Nat.mul_le_mul_left _ (by omega)
        have hm5 : size * (K.length + 1) ≤ 4 * 50 := Nat.mul_le_mul s4 (by omega)
        have hm6 : size * (K.length + 1) + size = size * (K.length + 2) := by rw [← Nat.mul_succ]
        have hP7 : 0 ≤ P7 ∧ P7 + S + S ≤ 210 := by have := HI.out.2.2; have := HS.out; omega
        have hpe : P7 + S = ((1 + size * (1 + (i + 1)) : Nat) : Int) := by have := HI.out.2.2; have := HS.out; omega
        obtain ⟨A3, c3, hs3, hc3, hC3⟩ := cutk .u8 .u8 w0 A n c D HC.out hc (1 + size * (1 + (i + 1))) size (by have := HNL.out; omega) (by omega) (P7 + S) (P7 + S + S) hpe (by rw [hpe, HS.out])
        rw [HM.out.off (i + 1) (by omega)] at hC3
        obtain ⟨E, hE⟩ : ∃ E : Int, E = ((offK K (i + 1) : Nat) : Int) := ⟨_, rfl⟩
        have R3 := Aside0.mk (fun W (hW : Below w0.heap.size w0 W) => read46 A3 size c3 (offK K (i + 1)) W (hC3 W (Kd.C_below HC.out hW)) s1 s4 hc3 (Nat.lt_of_le_of_lt (offK_last K _) HM.out.totB))
        rw [← hE] at R3
        have hOE : O ≤ E := by have := offK_succ K i hi; have := HI.out.2.1; omega
        have hPE : 1 + P + E ≤ (n : Int) := by have := offK_last K (i + 1); have := HNL.out; have := HPN.out; omega
        obtain ⟨A4, c4, hs4, hc4, hC4⟩ := cutk .u64 .u64 w0 A n c D HC.out hc (1 + size * (K.length + 2) + offK K i) K[i].size (by have := offK_last K (i + 1); have := offK_succ K i hi; have := HNL.out; omega) (by omega) (1 + P + O) (1 + P + E) (by have := HI.out.2.1; have := HPN.out; omega) (by have := HI.out.2.1; have := HPN.out; have := offK_succ K i hi; omega)
        rw [HM.out.text i hi] at hC4
        have HE := Aside0.mk hE
        have HC4 := Aside0.mk hC4
        have d0 := (blk_cell HG.out 0).trans (show (#[.slice A n c, .slice (some ⟨bk, 0, none⟩) K.length K.length] : Array Value)[0]? = some (.slice A n c) from rfl)
        have HPE := Aside0.mk hpe
        clear hmi hml hm5 hm6 hpe hE hC3 hC4
        go_upto_region 21 with (go_at_call 46; refine Calls.mono (R3.out _ HB.out) ?_; rintro e w5 ⟨rfl, b5⟩)
        have G5 := Aside0.mk (blk_below HG.out b5)
        have K5 := Aside0.mk (blk_below HK.out b5)
        have B5 := Aside0.mk (HB.out.trans (b5.mono HB.out.size))
        have P5 := Aside0.mk (HP.out.below b5)
        clear b5 d0
        have hics : i < cs.length := by have := HCS.out.1; omega
        have hIt : I.toNat = i := by have := HI.out.1; omega
        have d0 := (blk_cell G5.out 0).trans (show (#[.slice A n c, .slice (some ⟨bk, 0, none⟩) K.length K.length] : Array Value)[0]? = some (.slice A n c) from rfl)
        have d1 := (blk_cell G5.out 1).trans (show (#[.slice A n c, .slice (some ⟨bk, 0, none⟩) K.length K.length] : Array Value)[1]? = some (.slice (some ⟨bk, 0, none⟩) K.length K.length) from rfl)
        have d2 : w5.cell? { block := bk, off := I.toNat } = some cs[i] := by
          rw [hIt, blk_cell K5.out i]
          simp [hics]
        have f2 : w5.frozen? { block := bk, off := I.toNat } = false := blk_frozen K5.out _
        have hIK : I < (K.length : Int) := by have := HN.out; omega
        have HIT := Aside0.mk hIt
        clear hIt
        go_upto_region 25 with fail
        have e1 := wu64 O hO0 (by omega)
        have e2 := wu64 E (by omega) (by omega)
        have e3 := wu64 (1 + P + O) (by omega) (by omega)
        have e4 := wu64 (1 + P + E) (by omega) (by omega)
        go_still_tail 19, (by kernel_rfl)
        clear e1 e2 e3 e4
        change wpList _ _ _ _ _ w5.drew
        have G6 := Aside0.mk (show w5.drew.heap[g]? = some (.cells #[.slice A n c, .slice (some ⟨bk, 0, none⟩) K.length K.length] 65 (0, 0)) from G5.out)
        have K6 := Aside0.mk (show w5.drew.heap[bk]? = some (.cells cs.toArray 34 (0, 0)) from K5.out)
        have B6 := Aside0.mk (show Below w0.heap.size w0 w5.drew from pw_below_drewN B5.out 1)
        have P6 := Aside0.mk (show Kept w w5.drew (fun k => k = g) from P5.out)
        have d4 : w5.drew.cell? { block := bk, off := I.toNat } = some cs[i] := d2
        have f4 : w5.drew.frozen? { block := bk, off := I.toNat } = false := f2
        clear d0 d1 d2 f2 G5 K5 B5 P5
        generalize w5.drew = w6 at G6 K6 B6 P6 d4 f4 ⊢
        go_wp2
        go_roundg (gk - 1)
        case measure => have := HJ.out; omega
        case rel =>
          refine ⟨i + 1, E, P7 + S, I + 1, cs.set i (.slice A4 K[i].size c4), by go_num, by go_num, by go_num, ⟨by have := HI.out.1; omega, HE.out, HPE.out⟩, ⟨by have := HJ.out; omega⟩, ⟨by rw [List.length_set]; exact HCS.out.1, ?_⟩, ⟨?_⟩, ⟨?_⟩, ⟨B6.out.setCell hbB _⟩, ⟨P6.out.setCell (.inr hbw) _⟩⟩
          · intro j hj
            rcases Nat.lt_or_ge j i with h | h
            · obtain ⟨h1, Aj, cj, h2, h3, h4⟩ := HCS.out.2 j h
              exact ⟨h1, Aj, cj, by rw [List.getElem?_set_ne (by omega)]; exact h2, h3, h4⟩
            · obtain rfl : j = i := by omega
              exact ⟨hi, A4, c4, by rw [List.getElem?_set_self hics], hc4, HC4.out⟩
          · rw [HIT.out]
            exact blk_put K6.out i _ (by simp)
          · exact blk_far (p := { block := bk, off := I.toNat }) G6.out (fun h => hbg h.symm) _
      · have hIN : ¬ I < N := by have := HI.out.1; have := HN.out; omega
        go_wp2
        go_ret
        have hiK : i = K.length := by have := HJ.out; omega
        have hf := HCS.out.2
        rw [hiK] at hf
        exact ⟨rfl, _, HG.out, .inr ⟨bk, cs, rfl, hbw, HK.out, HCS.out.1, hf⟩, HB.out, HP.out⟩
/-! ## A dictionary's head -/
theorem str_bytes0 (s : ByteArray) : strOfNums (bytesOf s) = s := by
  unfold strOfNums bytesOf
  rw [List.map_map]
  have e : (s.data.toList.map ((fun n : Int => UInt8.ofNat n.toNat) ∘ fun b => (b.toNat : Int))) = s.data.toList := by
    conv => rhs; rw [← List.map_id s.data.toList]
    apply List.map_congr_left
    intro b _
    simp
  rw [e]
theorem hd_cases {s5 : Bool} {size : Nat} (h1 : 1 ≤ size) (h4 : size ≤ 4) (P : Int → Prop) (h : ∀ (a : Bool) (k : Fin 4), P ((hdN a (k.val + 1) : Nat) : Int)) : P ((hdN s5 size : Nat) : Int) := by
  have := h s5 ⟨size - 1, by omega⟩
  rw [show size - 1 + 1 = size by omega] at this
  exact this
theorem hd_and15 {s5 : Bool} {size : Nat} (h1 : 1 ≤ size) (h4 : size ≤ 4) : Go.bits .and .u8 ((hdN s5 size : Nat) : Int) 15 = 1 :=
  hd_cases h1 h4 (fun x => Go.bits .and .u8 x 15 = 1) (by decide +kernel)
theorem hd_size {s5 : Bool} {size : Nat} (h1 : 1 ≤ size) (h4 : size ≤ 4) : (Go.bits .and .u8 (((hdN s5 size : Nat) : Int) / 64) 3 + 1) % 256 = ((size : Nat) : Int) := by
  have h : ∀ (a : Bool) (k : Fin 4), (Go.bits .and .u8 (((hdN a (k.val + 1) : Nat) : Int) / 64) 3 + 1) % 256 = ((k.val + 1 : Nat) : Int) := by decide +kernel
  have := h s5 ⟨size - 1, by omega⟩
  rw [show size - 1 + 1 = size by omega] at this
  exact this
theorem hd_sorted {s5 : Bool} {size : Nat} (h1 : 1 ≤ size) (h4 : size ≤ 4) : (Go.bits .and .u8 ((hdN s5 size : Nat) : Int) 16 != 0) = s5 := by
  have h : ∀ (a : Bool) (k : Fin 4), (Go.bits .and .u8 ((hdN a (k.val + 1) : Nat) : Int) 16 != 0) = a := by decide +kernel
  have := h s5 ⟨size - 1, by omega⟩
  rw [show size - 1 + 1 = size by omega] at this
  exact this
theorem MD.head {D : List Int} {s5 : Bool} {size : Nat} {K : List ByteArray} (h : MD D s5 size K) {w : World} {A : Option Addr} {n : Nat} (hC : (Kd.int .u8).C w A n D) : ∃ ad, A = some ad ∧ w.cell? ad = some (.int .u8 ((hdN s5 size : Nat) : Int)) := by
  have hn : 0 < n := by have := hC.1; have := h.len; omega
  obtain ⟨ad, e, hx⟩ := Kd.at_int hC 0 (by omega) (by omega)
  refine ⟨ad, e, ?_⟩
  have hr : rd D 0 = ((hdN s5 size : Nat) : Int) := by
    unfold rd
    rw [Int.toNat_zero, List.getD_eq_getElem?_getD, h.hd]
    rfl
  rw [hr] at hx
  exact hx
set_option maxRecDepth 100000 in
theorem version32 (A : Option Addr) (n c : Nat) (D : List Int) (s5 : Bool) (size : Nat) (K : List ByteArray) (hM : MD D s5 size K) (v : Value) (hv : ∃ B k c, v = .slice B k c) (w : World) (hC : (Kd.int .u8).C w A n D) :
    Calls Tryd.prog 32 #[.agg #[.slice A n c, v]] w fun e w' => e = .returned (.int .u8 1) ∧ Below w.heap.size w w' := by
  obtain ⟨ad, rfl, hx⟩ := hM.head hC
  obtain ⟨B, k, cB, rfl⟩ := hv
  obtain ⟨H, hH⟩ : ∃ H : Int, H = ((hdN s5 size : Nat) : Int) := ⟨_, rfl⟩
  have hb := hd_and15 (s5 := s5) hM.s1 hM.s4
  rw [← hH] at hx hb
  have hn : (0 : Int) < (n : Int) := by have := hC.1; have := hM.len; omega
  clear hM hC hH
  go_enter Tryd.func32, Tryd.ntmps32
  go_wp2_with ((with_reducible refine gate_dst (N := 1) rfl ?_); refine box_event ?hg (N := 1) ?hd (cs := #[.slice (some ad) n c, .slice B k cB]) (t := 65) ?hr ?_; (case hd => rfl); (case hg => rfl); (case hr => first | (go_simp; done) | (go_simp; rfl)); intro gb hg w3 hbox hb3; have q0 := (blk_cell hbox 0).trans (show _ = some (.slice (some ad) n c) from rfl); have q1 := pw_cell_below hb3 hx; have HB := Aside0.mk hb3; clear hb3 hbox hg)
  go_ret
  exact ⟨rfl, HB.out⟩
set_option maxRecDepth 100000 in
theorem offset33 (A : Option Addr) (n c : Nat) (D : List Int) (s5 : Bool) (size : Nat) (K : List ByteArray) (hM : MD D s5 size K) (v : Value) (hv : ∃ B k c, v = .slice B k c) (w : World) (hC : (Kd.int .u8).C w A n D) :
    Calls Tryd.prog 33 #[.agg #[.slice A n c, v]] w fun e w' => e = .returned (.int .u8 (size : Int)) ∧ Below w.heap.size w w' := by
  obtain ⟨ad, rfl, hx⟩ := hM.head hC
  obtain ⟨B, k, cB, rfl⟩ := hv
  obtain ⟨H, hH⟩ : ∃ H : Int, H = ((hdN s5 size : Nat) : Int) := ⟨_, rfl⟩
  have hb := hd_size (s5 := s5) hM.s1 hM.s4
  rw [← hH] at hx hb
  have hn : (0 : Int) < (n : Int) := by have := hC.1; have := hM.len; omega
  clear hM hC hH
  go_enter Tryd.func33, Tryd.ntmps33
  go_wp2_with ((with_reducible refine gate_dst (N := 1) rfl ?_); refine box_event ?hg (N := 1) ?hd (cs := #[.slice (some ad) n c, .slice B k cB]) (t := 65) ?hr ?_; (case hd => rfl); (case hg => rfl); (case hr => first | (go_simp; done) | (go_simp; rfl)); intro gb hg w3 hbox hb3; have q0 := (blk_cell hbox 0).trans (show _ = some (.slice (some ad) n c) from rfl); have q1 := pw_cell_below hb3 hx; have HB := Aside0.mk hb3; clear hb3 hbox hg)
  go_ret
  exact ⟨by first | rfl | (rw [hb]; rfl), HB.out⟩
set_option maxRecDepth 100000 in
theorem sorted34 (A : Option Addr) (n c : Nat) (D : List Int) (s5 : Bool) (size : Nat) (K : List ByteArray) (hM : MD D s5 size K) (v : Value) (hv : ∃ B k c, v = .slice B k c) (w : World) (hC : (Kd.int .u8).C w A n D) :
    Calls Tryd.prog 34 #[.agg #[.slice A n c, v]] w fun e w' => e = .returned (.bool s5) ∧ Below w.heap.size w w' := by
  obtain ⟨ad, rfl, hx⟩ := hM.head hC
  obtain ⟨B, k, cB, rfl⟩ := hv
  obtain ⟨H, hH⟩ : ∃ H : Int, H = ((hdN s5 size : Nat) : Int) := ⟨_, rfl⟩
  have hb := hd_sorted (s5 := s5) hM.s1 hM.s4
  rw [← hH] at hx hb
  have hn : (0 : Int) < (n : Int) := by have := hC.1; have := hM.len; omega
  clear hM hC hH
  go_enter Tryd.func34, Tryd.ntmps34
  go_wp2_with ((with_reducible refine gate_dst (N := 1) rfl ?_); refine box_event ?hg (N := 1) ?hd (cs := #[.slice (some ad) n c, .slice B k cB]) (t := 65) ?hr ?_; (case hd => rfl); (case hg => rfl); (case hr => first | (go_simp; done) | (go_simp; rfl)); intro gb hg w3 hbox hb3; have q0 := (blk_cell hbox 0).trans (show _ = some (.slice (some ad) n c) from rfl); have q1 := pw_cell_below hb3 hx; have HB := Aside0.mk hb3; clear hb3 hbox hg)
  go_ret
  exact ⟨by first | rfl | (rw [hb]; rfl), HB.out⟩
set_option maxRecDepth 100000 in
theorem count30 (a v : Value) (K : List ByteArray) (hf : K.length ≤ 49) (ha : ∃ B k c, a = .slice B k c) (w : World) (hK : KeysIn w v K) :
    Calls Tryd.prog 30 #[.agg #[a, v]] w fun e w' => e = .returned (.int .u32 (K.length : Int)) ∧ Below w.heap.size w w' := by
  obtain ⟨A, n, c, rfl⟩ := ha
  obtain ⟨B, cB, rfl, _, _⟩ := hK
  obtain ⟨N, hN⟩ : ∃ N : Int, N = ((K.length : Nat) : Int) := ⟨_, rfl⟩
  have N0 : 0 ≤ (K.length : Int) ∧ (K.length : Int) ≤ 49 := by omega
  go_enter Tryd.func30, Tryd.ntmps30
  go_wp2_with ((with_reducible refine gate_dst (N := 1) rfl ?_); refine box_event ?hg (N := 1) ?hd (cs := #[.slice A n c, .slice B K.length cB]) (t := 65) ?hr ?_; (case hd => rfl); (case hg => rfl); (case hr => first | (go_simp; done) | (go_simp; rfl)); intro gb hg w3 hbox hb3; have q0 := (blk_cell hbox 1).trans (show _ = some (.slice B K.length cB) from rfl); have HB := Aside0.mk hb3; clear hb3 hbox hg)
  go_ret
  exact ⟨rfl, HB.out⟩
set_option maxRecDepth 100000 in
theorem keyAt31 (a v : Value) (K : List ByteArray) (hf : K.length ≤ 49) (ha : ∃ B k c, a = .slice B k c) (w : World) (hK : KeysIn w v K) (i : Nat) (hi : i < K.length) :
    Calls Tryd.prog 31 #[.agg #[a, v], .int .u32 (i : Int)] w fun e w' => e = .returned (.tuple #[.string K[i], .nilIface]) ∧ Below w.heap.size w w' := by
  obtain ⟨A, n, c, rfl⟩ := ha
  obtain ⟨B, cB, rfl, _, hC⟩ := hK
  have N0 : 0 ≤ (K.length : Int) ∧ (K.length : Int) ≤ 49 := by omega
  have hiI : (i : Int) < (K.length : Int) := by omega
  obtain ⟨ad, rfl, hcell⟩ := hC.2.2 (by omega)
  obtain ⟨cs, hl, ⟨A1, c1, rfl, hl1, hC1⟩, hx⟩ := hcell i (bytesOf K[i]) (by rw [List.getElem?_map, List.getElem?_eq_getElem hi]; rfl)
  have hx0 := hx 0 _ rfl
  rw [show (Kd.slice 5 (Kd.int .u8)).sz = 1 from rfl, Nat.mul_one, Nat.add_zero] at hx0
  rw [bytesOf_length] at hx0 hC1
  have hcv : ∀ W, Below w.heap.size w W → (convert 34 9 (.slice A1 K[i].size c1)).run Tryd.prog W = .ok (.string K[i]) W := fun W hW => by
    have := Kd.C_string (c := c1) Tryd.underlying34 Tryd.underlying5 Tryd.underlying9 (Kd.C_below hC1 hW)
    rw [str_bytes0] at this
    exact this
  have HCV := Aside0.mk hcv
  obtain ⟨s, hs⟩ : ∃ s, s = K[i] := ⟨_, rfl⟩
  rw [← hs] at HCV hx0 ⊢
  clear hx hcv hC hC1 hl hcell hl1 hs
  go_enter Tryd.func31, Tryd.ntmps31
  go_wp2_with ((with_reducible refine gate_dst (N := 2) rfl ?_); refine box_event ?hg (N := 2) ?hd (cs := #[.slice A n c, .slice (some ad) K.length cB]) (t := 65) ?hr ?_; (case hd => rfl); (case hg => rfl); (case hr => first | (go_simp; done) | (go_simp; rfl)); intro gb hg w3 hbox hb3; have q0 := (blk_cell hbox 1).trans (show _ = some (.slice (some ad) K.length cB) from rfl); have q1 := pw_cell_below hb3 hx0; have q2 := HCV.out _ hb3; have HB := Aside0.mk hb3; clear hb3 hbox hg)
  go_ret2
  exact ⟨rfl, HB.out⟩
/-! ## SizeBytes, NewMetadata -/
theorem wu32 (x : Int) (h0 : 0 ≤ x) (h : x ≤ 1000000) : IntKind.u32.wrap x = x := by
  simp only [IntKind.wrap, IntKind.bits, IntKind.signed]
  simp
  omega
set_option maxHeartbeats 8000000 in
set_option maxRecDepth 100000 in
theorem size35 (A : Option Addr) (n c : Nat) (D : List Int) (s5 : Bool) (size : Nat) (K : List ByteArray) (hM : MD D s5 size K) (v : Value) (hv : ∃ B k c, v = .slice B k c) (w : World) (hC : (Kd.int .u8).C w A n D) (hc : n ≤ c) :
    Calls Tryd.prog 35 #[.agg #[.slice A n c, v]] w fun e w' => e = .returned (.int .i64 (n : Int)) ∧ Below w.heap.size w w' := by
  have hnl : n = 1 + size * (K.length + 2) + offK K K.length := by rw [← hM.len]; exact hC.1.symm
  have hn9 : n ≤ 20000 := by have := hM.big; rw [hC.1] at this; exact this
  have s1 := hM.s1
  have s4 := hM.s4
  have few := hM.few
  have hmul : size * (K.length + 2) = size * (1 + K.length) + size := by rw [← Nat.mul_succ]; congr 1; omega
  have hm5 : size * (1 + K.length) ≤ 4 * 50 := Nat.mul_le_mul s4 (by omega)
  have hm6 : size ≤ size * (1 + K.length) := Nat.le_mul_of_pos_right _ (by omega)
  obtain ⟨S, hS⟩ : ∃ S : Int, S = ((size : Nat) : Int) := ⟨_, rfl⟩
  obtain ⟨N, hN⟩ : ∃ N : Int, N = ((K.length : Nat) : Int) := ⟨_, rfl⟩
  obtain ⟨T, hT⟩ : ∃ T : Int, T = ((offK K K.length : Nat) : Int) := ⟨_, rfl⟩
  obtain ⟨Q, hQ⟩ : ∃ Q : Int, S * (1 + N) = Q := ⟨_, rfl⟩
  have hQn : Q = ((size * (1 + K.length) : Nat) : Int) := by rw [← hQ, hN, hS]; push_cast; rfl
  have b1 : 1 ≤ S ∧ S ≤ 4 := by omega
  have b2 : 0 ≤ N ∧ N ≤ 49 := by omega
  have b3 : 0 ≤ Q ∧ Q ≤ 200 := by omega
  have b4 : 0 ≤ T ∧ 1 + Q + S + T = (n : Int) := by omega
  have b5 : 1 + S ≤ (n : Int) ∧ (n : Int) ≤ 20000 := by omega
  have HC := Aside0.mk hC
  obtain ⟨A1, c1, hs1, hc1, hC1⟩ := cutk .i64 .u32 w A n c D hC hc 1 size (by omega) (by omega) 1 (1 + S) (by omega) (by omega)
  rw [hM.cnt] at hC1
  have R1 := Aside0.mk (fun W (hW : Below w.heap.size w W) => read46 A1 size c1 K.length W (hC1 W (Kd.C_below HC.out hW)) s1 s4 hc1 hM.cntB)
  rw [← hN] at R1
  obtain ⟨A2, c2, hs2, hc2, hC2⟩ := cutk .u32 .u32 w A n c D hC hc (1 + size * (1 + K.length)) size (by omega) (by omega) (1 + Q) (1 + Q + S) (by omega) (by omega)
  rw [hM.off K.length (Nat.le_refl _)] at hC2
  have R2 := Aside0.mk (fun W (hW : Below w.heap.size w W) => read46 A2 size c2 (offK K K.length) W (hC2 W (Kd.C_below HC.out hW)) s1 s4 hc2 hM.totB)
  rw [← hT] at R2
  have R3 := Aside0.mk (fun W (hW : Below w.heap.size w W) => offset33 A n c D s5 size K hM v hv W (Kd.C_below hC hW))
  rw [← hS] at R3
  obtain ⟨B, k, cB, rfl⟩ := hv
  clear hM hC hC1 hC2 hnl hmul hm5 hm6 hQn hT hN hS
  go_enter Tryd.func35, Tryd.ntmps35
  go_upto_region 2 with (first | ((with_reducible refine gate_dst (N := 1) rfl ?_); refine box_event ?hg (N := 1) ?hd (cs := #[.slice A n c, .slice B k cB]) (t := 65) ?hr ?_; (case hd => rfl); (case hg => rfl); (case hr => first | (go_simp; done) | (go_simp; rfl)); intro gb hg w3 hbox hb3; have BK := Aside0.mk hbox; have q0 := (blk_cell hbox 0).trans (show _ = some (.slice A n c) from rfl); have q1 := (blk_cell hbox 1).trans (show _ = some (.slice B k cB) from rfl); have HB := Aside0.mk hb3; clear hb3 hbox hg) | (go_at_call 33; refine Calls.mono (R3.out _ HB.out) ?_; rintro e w4 ⟨rfl, b4⟩; have BK4 := Aside0.mk (blk_below BK.out b4); have HB4 := Aside0.mk (HB.out.trans (b4.mono HB.out.size)); clear b4))
  clear q0 q1 BK HB
  have q0 := (blk_cell BK4.out 0).trans (show (#[.slice A n c, .slice B k cB] : Array Value)[0]? = some (.slice A n c) from rfl)
  go_upto_region 5 with (go_at_call 46; refine Calls.mono (R1.out _ HB4.out) ?_; rintro e w5 ⟨rfl, b5⟩; have BK5 := Aside0.mk (blk_below BK4.out b5); have HB5 := Aside0.mk (HB4.out.trans (b5.mono HB4.out.size)); clear b5)
  clear q0
  have q0 := (blk_cell BK5.out 0).trans (show (#[.slice A n c, .slice B k cB] : Array Value)[0]? = some (.slice A n c) from rfl)
  go_wp2_with (go_at_call 46; refine Calls.mono (R2.out _ HB5.out) ?_; rintro e w6 ⟨rfl, b6⟩; have HB6 := Aside0.mk (HB5.out.trans (b6.mono HB5.out.size)); clear b6)
  go_ret
  exact ⟨by first | rfl | (rw [b4.2]; rfl) | (rw [← b4.2]; rfl), HB6.out⟩
set_option maxRecDepth 100000 in
theorem new28 (A : Option Addr) (n c : Nat) (D : List Int) (s5 : Bool) (size : Nat) (K : List ByteArray) (hM : MD D s5 size K) (w : World) (hC : (Kd.int .u8).C w A n D) (hc : n ≤ c) :
    Calls Tryd.prog 28 #[.slice A n c] w fun e w' => ∃ v, e = .returned (.tuple #[.agg #[.slice A n c, v], .nilIface]) ∧ Keyed w.heap.size A n D K v w' ∧ Below w.heap.size w w' := by
  have n3 : (3 : Int) ≤ (n : Int) := by
    have h1 := hM.len
    have h2 := hC.1
    have h3 : 1 * 2 ≤ size * (K.length + 2) := Nat.mul_le_mul hM.s1 (by omega)
    omega
  have R2 := Aside0.mk (fun W (hW : Below w.heap.size w W) => version32 A n c D s5 size K hM (.slice none 0 0) ⟨_, _, _, rfl⟩ W (Kd.C_below hC hW))
  have R3 := Aside0.mk (fun W (hW : Below w.heap.size w W) => offset33 A n c D s5 size K hM (.slice none 0 0) ⟨_, _, _, rfl⟩ W (Kd.C_below hC hW))
  have R4 := Aside0.mk (fun g W (hW : Below w.heap.size w W) hg hgB => load45 g A n c D s5 size K hM w W hC hc hW hg hgB)
  clear hM hC
  go_enter Tryd.func28, Tryd.ntmps28
  go_upto_region 2 with fail
  obtain ⟨W1, hW1⟩ : ∃ W1, W1 = ((w.alloc (Obj.cells #[Value.slice none 0 0, Value.slice none 0 0] 65)).alloc (Obj.cells #[Value.slice A n c, Value.slice none 0 0] 65)) := ⟨_, rfl⟩
  obtain ⟨g, hg⟩ : ∃ g, g = w.heap.size + 1 := ⟨_, rfl⟩
  obtain ⟨r, hr⟩ : ∃ r, r = w.heap.size := ⟨_, rfl⟩
  have X1 := Aside0.mk (show W1.heap[r]? = some (.cells #[.slice none 0 0, .slice none 0 0] 65 (0, 0)) from by rw [hW1, hr]; exact blk_alloc (blk_new w _) _)
  have Y1 := Aside0.mk (show W1.heap[g]? = some (.cells #[.slice A n c, .slice none 0 0] 65 (0, 0)) from by rw [hW1, hg]; have h := blk_new (w.alloc (Obj.cells #[Value.slice none 0 0, Value.slice none 0 0] 65)) (Obj.cells #[Value.slice A n c, Value.slice none 0 0] 65 (0, 0)); rw [World.size_alloc] at h; exact h)
  have B1 := Aside0.mk (show Below w.heap.size w W1 from by rw [hW1]; exact below_alloc (below_alloc (Below.refl _ _) _) _)
  have hgr : g ≠ r := by omega
  have hgB : w.heap.size ≤ g := by omega
  have hrB : w.heap.size ≤ r := by omega
  rw [← hW1, ← hg, ← hr]
  clear hW1 hg hr
  have t0 := (blk_cell Y1.out 0).trans (show (#[.slice A n c, .slice none 0 0] : Array Value)[0]? = some (.slice A n c) from rfl)
  have t1 := (blk_cell Y1.out 1).trans (show (#[.slice A n c, .slice none 0 0] : Array Value)[1]? = some (.slice none 0 0) from rfl)
  go_upto_region 6 with (go_at_call 32; refine Calls.mono (R2.out _ B1.out) ?_; rintro e w2 ⟨rfl, b⟩; have X2 := Aside0.mk (blk_below X1.out b); have Y2 := Aside0.mk (blk_below Y1.out b); have B2 := Aside0.mk (B1.out.trans (b.mono B1.out.size)); clear b)
  clear t0 t1 X1 Y1 B1
  have t0 := (blk_cell Y2.out 0).trans (show (#[.slice A n c, .slice none 0 0] : Array Value)[0]? = some (.slice A n c) from rfl)
  have t1 := (blk_cell Y2.out 1).trans (show (#[.slice A n c, .slice none 0 0] : Array Value)[1]? = some (.slice none 0 0) from rfl)
  go_upto_region 7 with (go_at_call 33; refine Calls.mono (R3.out _ B2.out) ?_; rintro e w3 ⟨rfl, b⟩; have X3 := Aside0.mk (blk_below X2.out b); have Y3 := Aside0.mk (blk_below Y2.out b); have B3 := Aside0.mk (B2.out.trans (b.mono B2.out.size)); clear b)
  clear t0 t1 X2 Y2 B2
  have L4 := Aside0.mk (R4.out g w3 B3.out Y3.out hgB)
  go_upto_region 8 with (go_at_call 45; refine Calls.mono L4.out ?_; rintro e w4 ⟨rfl, v, q1, q2, q3, q4⟩; have Y4 := Aside0.mk q1; have X4 := Aside0.mk ((q4.2 r (blk_lt X3.out) (fun h => hgr h.symm)).trans X3.out); have K4 := Aside0.mk q2; have B4 := Aside0.mk q3; clear q1 q2 q3 q4)
  have LT3 := Aside0.mk (blk_lt X3.out)
  have SZ3 := Aside0.mk B3.out.size
  clear L4 X3 Y3 B3
  have t0 := (blk_cell Y4.out 0).trans (show (#[.slice A n c, v] : Array Value)[0]? = some (.slice A n c) from rfl)
  have t1 := (blk_cell Y4.out 1).trans (show (#[.slice A n c, v] : Array Value)[1]? = some v from rfl)
  have x0 := (blk_cell X4.out 0).trans (show (#[.slice none 0 0, .slice none 0 0] : Array Value)[0]? = some (.slice none 0 0) from rfl)
  have x1 := (blk_cell X4.out 1).trans (show (#[.slice none 0 0, .slice none 0 0] : Array Value)[1]? = some (.slice none 0 0) from rfl)
  have f0 := blk_frozen X4.out 0
  have f1 := blk_frozen X4.out 1
  obtain ⟨B, cB, rfl⟩ := K4.out.form
  go_wp2
  have X5 := blk_put (blk_put X4.out 0 (.slice A n c) rfl) 1 (.slice B K.length cB) rfl
  have Y5 := Aside0.mk (blk_far (p := ⟨r, 1, none⟩) (blk_far (p := ⟨r, 0, none⟩) Y4.out hgr (.slice A n c)) hgr (.slice B K.length cB))
  have B5 := Aside0.mk (Below.setCell (p := ⟨r, 1, none⟩) (Below.setCell (p := ⟨r, 0, none⟩) B4.out hrB (.slice A n c)) hrB (.slice B K.length cB))
  have hkk : Kept w4 ((w4.setCell { block := r, off := 0 } (Value.slice A n c)).setCell { block := r, off := 1 } (Value.slice B K.length cB)) (fun k => k = r) := Kept.setCell (S := fun k => k = r) (p := { block := r, off := 1 }) (Kept.setCell (S := fun k => k = r) (p := { block := r, off := 0 }) (Kept.refl w4 (fun k => k = r)) (Or.inl rfl) (Value.slice A n c)) (Or.inl rfl) (Value.slice B K.length cB)
  have K5 : Keyed w.heap.size A n D K (.slice B K.length cB) ((w4.setCell { block := r, off := 0 } (Value.slice A n c)).setCell { block := r, off := 1 } (Value.slice B K.length cB)) := (Keyed.kept (S := fun k => k = r) K4.out hkk (fun k hk _ he => by have := LT3.out; omega)).lower SZ3.out
  have HK := Aside0.mk K5
  have e0 := (blk_cell X5 0).trans (show _ = some (.slice A n c) from rfl)
  have e1 := (blk_cell X5 1).trans (show _ = some (.slice B K.length cB) from rfl)
  clear t0 t1 x0 x1 f0 f1 X4 Y4 K4 B4 K5 hkk
  generalize (w4.setCell { block := r, off := 0 } (Value.slice A n c)).setCell { block := r, off := 1 } (Value.slice B K.length cB) = w5 at *
  simp [bodyPost, results, Tryd.results28, go_sem, e0, e1]
  exact ⟨HK.out, B5.out⟩

end Go.Proofs.YtobhegbhljbjhaaDoor.Vk
