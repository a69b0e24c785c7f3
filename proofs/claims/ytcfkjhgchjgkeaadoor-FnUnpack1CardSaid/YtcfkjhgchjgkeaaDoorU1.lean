/- What impl.Unpack1 answers for 4 bytes: the 32 numbers that its code shifts out of the words. -/
import Derived.Test.YtcfkjhgchjgkeaaDoorUa
namespace Go.Proofs.YtcfkjhgchjgkeaaDoor.U
open Go.RowKit Go.IntWalk Go.Proofs.YtcfkjhgchjgkeaaDoorW.PrintWords Go.Proofs.YtcfkjhgchjgkeaaDoorW.PrintLast Go.Proofs.YtcfkjhgchjgkeaaDoorW.PrintMore
attribute [local go_sem] max2_int min2_int max_two min_two max_three min_three max_four min_four
set_option linter.unusedVariables false
set_option linter.unusedSimpArgs false

def u1at (V : Int) (L : List Int) : Nat → List Int
  | 0 => L
  | i + 1 => (u1at V L i).set i (bits .and .u32 (V / 2 ^ i) 1)
theorem u1at_len (V : Int) (L : List Int) (i : Nat) : (u1at V L i).length = L.length := by
  induction i with
  | zero => rfl
  | succ i ih => simp only [u1at, List.length_set, ih]
def un1f (V : Nat → Int) (L : List Int) : List Int := u1at (V 0) L 32
theorem un1_len (V : Nat → Int) (L : List Int) (h : L.length = 32) : (un1f V L).length = 32 := by
  unfold un1f
  rw [u1at_len, h]

set_option maxHeartbeats 64000000 in
set_option maxRecDepth 100000 in
theorem un1 {g o c0 : Nat} {A0 : Addr} {l : List Int} {B : Nat} (w : World) (L : List Int) (pr : Int) (hc : Cx g o w.heap.size c0 A0 l w B) (hL : L.length = 32) (hl : l.length = 4)
    (hg : w.heap[g]? = some (.cells #[.slice (some A0) l.length c0, .int .i64 0, .int .i64 pr] 43 (0, 0))) (ho : w.heap[o]? = some (.cells (rowU L) 30 (0, 0))) :
    Calls Tryd.prog 32 #[.iface 34 (.pointer (some ⟨g, 0, none⟩)), .slice (some ⟨o, 0, none⟩) 32 32] w fun e w' => e = .returned (.tuple #[]) ∧ ∃ j V L', St g o w.heap.size c0 A0 l w B j V L' w' ∧ L' = un1f (wordOf l) L := by
  have C := Aside0.mk hc
  have S0 := Aside0.mk (show ∀ o', o' = Obj.cells #[.int .u32 0] 30 (0, 0) → St g o w.heap.size c0 A0 l w B 0 0 L (w.alloc o') from fun o' h => by
    subst h
    exact ⟨⟨pr, blk_alloc hg _⟩, blk_new w _, blk_alloc ho _, (Below.refl B w).alloc hc.bw _, Kept.alloc (Kept.refl w _) _⟩)
  replace S0 := Aside0.mk (S0.out _ rfl)
  have N0 := Aside0.mk hL
  have HLEN := Aside0.mk hl
  clear hc hL hl hg ho
  go_enter Tryd.func32, Tryd.ntmps32
  go_wp2_with (go_at_call 40; refine Calls.mono (St.read C.out S0.out (by rw [HLEN.out]; decide)) ?_; rintro e w1 ⟨rfl, hs⟩; obtain ⟨L1, V1, hs2, he⟩ := St.name hs; have S1 := Aside0.mk hs2; have E1 := he; clear hs hs2 he; have N1 := Aside0.mk (show L1.length = 32 by rw [E1.out.1]; exact N0.out))
  go_loopg [11] 32 (fun kq v11 w' => ∃ (i : Nat), v11 = .int .i64 i ∧ Aside0 (kq + i = 32) ∧ Aside0 (St g o w.heap.size c0 A0 l w B 1 V1 (u1at V1 L1 i) w'))
  case atStart => exact ⟨0, rfl, ⟨by omega⟩, S1⟩
  case round =>
    obtain ⟨i, rfl, HM, S2⟩ := hrel
    by_cases hi : i < 32
    · have qc := S2.out.qc
      have oc := S2.out.oc (by rw [u1at_len]; exact N1.out) i hi
      have of := S2.out.of i
      have h1 : (0 : Int) ≤ (i : Int) := by omega
      have h2 : ¬ ((i : Int) < 0) := by omega
      have h3 : (i : Int) < 32 := by omega
      have h4 : decide ((i : Int) < 32) = true := by simp [h3]
      go_wp2
      go_roundg (gk - 1)
      case measure => have := HM.out; omega
      case rel => exact ⟨i + 1, rfl, ⟨by have := HM.out; omega⟩, ⟨S2.out.store C.out⟩⟩
    · have h3 : ¬ (i : Int) < 32 := by omega
      have : i = 32 := by have := HM.out; omega
      subst this
      go_wp2
      refine ⟨rfl, .tuple #[], by simp [results, Tryd.results32, go_sem], rfl, 1, V1, ?_⟩
      have e : un1f (wordOf l) L = u1at V1 L1 32 := by
        unfold un1f
        rw [E1.out.1, E1.out.2]
      rw [e]
      exact S2.out

theorem up1 {g o c0 : Nat} {A0 : Addr} {l : List Int} {B : Nat} (w : World) (L : List Int) (pr : Int) (hc : Cx g o w.heap.size c0 A0 l w B) (hL : L.length = 32) (hl : l.length = 4)
    (hg : w.heap[g]? = some (.cells #[.slice (some A0) l.length c0, .int .i64 0, .int .i64 pr] 43 (0, 0))) (ho : w.heap[o]? = some (.cells (rowU L) 30 (0, 0))) :
    Calls Tryd.prog 22 #[.iface 34 (.pointer (some ⟨g, 0, none⟩)), .slice (some ⟨o, 0, none⟩) 32 32] w fun e w' => e = .returned (.tuple #[]) ∧ ∃ j V L', St g o w.heap.size c0 A0 l w B j V L' w' ∧ L' = un1f (wordOf l) L := by
  have U := Aside0.mk (un1 w L pr hc hL hl hg ho)
  clear hc hL hl hg ho
  go_enter Tryd.func22, Tryd.ntmps22
  go_wp2_with (go_at_call 32; refine Calls.mono (U.out) ?_; rintro e w1 ⟨rfl, hs⟩; have HS := Aside0.mk hs; clear hs)
  exact ⟨rfl, .tuple #[], by simp [results, Tryd.results22, go_sem], rfl, HS.out⟩

set_option maxHeartbeats 8000000 in
set_option maxRecDepth 100000 in
theorem impl1 (A0' : Option Addr) (c0 : Nat) (l0 : List Int) (w : World) (hr0 : Kd.C (Kd.int .u8) w A0' l0.length l0) (hc0 : l0.length ≤ c0) (hl : l0.length = 4) (hb : ∀ j : Nat, j < l0.length → 0 ≤ rd l0 (j : Int) ∧ rd l0 (j : Int) < 256) :
    Calls Tryd.prog 11 #[.slice A0' l0.length c0] w fun e w' => ∃ v : Value, e = .returned (.tuple #[v, .bool true]) ∧ Kd.R (Kd.int .u32) 30 w' w.heap.size (fun _ => True) v (un1f (wordOf l0) (List.replicate 32 0)) ∧ Below w.heap.size w w' := by
  obtain ⟨ad, e0, _⟩ := Kd.at_int hr0 0 (by omega) (by rw [hl]; decide)
  subst e0
  have hsrc : ∀ j : Nat, j < l0.length → w.cell? (ad.add j) = some (.int .u8 (rd l0 (j : Int))) := by
    intro j hj
    obtain ⟨ad', e1, h1⟩ := Kd.at_int hr0 (j : Int) (by omega) (by omega)
    injection e1 with e1
    subst e1
    rw [Int.toNat_natCast] at h1
    exact h1
  have hadw : ad.block < w.heap.size := by
    have := World.block_lt_of_cell? w _ (hsrc 0 (by omega))
    rw [add_block] at this
    exact this
  have HSRC := Aside0.mk hsrc
  have HADW := Aside0.mk hadw
  have HR0 := Aside0.mk hr0
  have HC0 := Aside0.mk hc0
  have HN := Aside0.mk hl
  have HBY := Aside0.mk hb
  clear hr0 hc0 hl hb hsrc hadw
  have hmk := mk32
  go_enter_defers Tryd.func11, Tryd.ntmps11
  go_wp2_with (go_at_call 23; skip)
  obtain ⟨W3, hW3⟩ : ∃ W3, W3 = (((w.alloc (Obj.cells #[Value.slice (some ⟨w.heap.size + 1 + 1, 0, none⟩) 32 32] 23 (0, 0))).alloc (Obj.cells #[Value.bool false] 4 (0, 0))).alloc (Obj.cells (rowU [0, 0, 0, 0, 0, 0, 0, 0, 0, 0, 0, 0, 0, 0, 0, 0, 0, 0, 0, 0, 0, 0, 0, 0, 0, 0, 0, 0, 0, 0, 0, 0]) 30 (0, 0))) := ⟨_, rfl⟩
  have A3 : W3.heap[w.heap.size]? = some (.cells #[Value.slice (some ⟨w.heap.size + 1 + 1, 0, none⟩) 32 32] 23 (0, 0)) := by rw [hW3]; exact blk_alloc (blk_alloc (blk_new w _) _) _
  have B3 : W3.heap[w.heap.size + 1]? = some (.cells #[Value.bool false] 4 (0, 0)) := by
    rw [hW3]
    have h := blk_new (w.alloc (Obj.cells #[Value.slice (some ⟨w.heap.size + 1 + 1, 0, none⟩) 32 32] 23 (0, 0))) (Obj.cells #[Value.bool false] 4 (0, 0))
    rw [World.size_alloc] at h
    exact blk_alloc h _
  have O3 : W3.heap[w.heap.size + 1 + 1]? = some (.cells (rowU (List.replicate 32 0)) 30 (0, 0)) := by
    rw [show List.replicate 32 (0 : Int) = [0, 0, 0, 0, 0, 0, 0, 0, 0, 0, 0, 0, 0, 0, 0, 0, 0, 0, 0, 0, 0, 0, 0, 0, 0, 0, 0, 0, 0, 0, 0, 0] from rfl]
    rw [hW3]
    have h := blk_new ((w.alloc (Obj.cells #[Value.slice (some ⟨w.heap.size + 1 + 1, 0, none⟩) 32 32] 23 (0, 0))).alloc (Obj.cells #[Value.bool false] 4 (0, 0))) (Obj.cells (rowU [0, 0, 0, 0, 0, 0, 0, 0, 0, 0, 0, 0, 0, 0, 0, 0, 0, 0, 0, 0, 0, 0, 0, 0, 0, 0, 0, 0, 0, 0, 0, 0]) 30 (0, 0))
    rw [World.size_alloc, World.size_alloc] at h
    exact h
  have L3 : Below w.heap.size w W3 := by rw [hW3]; exact below_alloc (below_alloc (below_alloc (Below.refl _ _) _) _) _
  have Z3 : W3.heap.size = w.heap.size + 3 := by rw [hW3, World.size_alloc, World.size_alloc, World.size_alloc]
  rw [← hW3]
  clear hW3
  have a0 : W3.cell? ⟨w.heap.size, 0, none⟩ = some (Value.slice (some ⟨w.heap.size + 1 + 1, 0, none⟩) 32 32) := (cell_of_row' A3 0).trans rfl
  have A3' := Aside0.mk A3
  have B3' := Aside0.mk B3
  have O3' := Aside0.mk O3
  have L3' := Aside0.mk L3
  have Z3' := Aside0.mk Z3
  clear A3 B3 O3 L3 Z3
  have R23 := Aside0.mk (show ∀ q, Calls Tryd.prog 23 #[.slice (some ad) l0.length c0] (W3.drewN q) fun e w' => e = .returned (.pointer (some ⟨W3.heap.size, 0, none⟩)) ∧ w'.heap[W3.heap.size]? = some (.cells #[.slice (some ad) l0.length c0, .int .i64 0, .int .i64 (-1)] 43 (0, 0)) ∧ Below W3.heap.size W3 w' from fun q => by
    refine (newReader (some ad) l0.length c0 (W3.drewN q)).mono ?_
    rintro e w' ⟨m, h1, h2⟩
    subst h2
    exact ⟨h1, blk_drewN (blk_new (W3.drewN q) _) m, pw_below_drewN (below_alloc (show Below W3.heap.size W3 (W3.drewN q) from pw_below_drewN (Below.refl _ _) q) _) m⟩)
  have R25 := Aside0.mk (show ∀ w4, w4.heap[W3.heap.size]? = some (.cells #[.slice (some ad) l0.length c0, .int .i64 0, .int .i64 (-1)] 43 (0, 0)) → Below W3.heap.size W3 w4 → ∀ q, Calls Tryd.prog 22 #[.iface 34 (.pointer (some ⟨W3.heap.size, 0, none⟩)), .slice (some ⟨w.heap.size + 1 + 1, 0, none⟩) 32 32] (w4.drewN q) fun e w' => e = .returned (.tuple #[]) ∧ Below w.heap.size w w' ∧ Kept W3 w' (fun k => k = w.heap.size + 1 + 1) ∧ w'.heap[w.heap.size + 1 + 1]? = some (.cells (rowU (un1f (wordOf l0) (List.replicate 32 0))) 30 (0, 0)) from fun w4 hG hB q => by
    have hz := Z3'.out
    have hs4 := blk_lt hG
    have hb4 : Below w.heap.size w w4 := below_then L3'.out (by omega) hB
    have C : Cx W3.heap.size (w.heap.size + 1 + 1) (w4.drewN q).heap.size c0 ad l0 (w4.drewN q) w.heap.size :=
      { go := by omega, qg := by have : (w4.drewN q).heap.size = w4.heap.size := rfl
                                 omega
        qo := by have : (w4.drewN q).heap.size = w4.heap.size := rfl
                 omega
        ag := by have := HADW.out; omega
        ao := by have := HADW.out; omega
        qw := Nat.le_refl _
        bg := by omega
        bo := by omega
        bw := hb4.size
        cap := HC0.out
        len := by rw [HN.out]; decide
        src := fun j hj => pw_cell_below hb4 (HSRC.out j hj)
        byte := HBY.out }
    refine (up1 (w4.drewN q) (List.replicate 32 0) (-1) C (by simp) HN.out (blk_drewN hG q) (blk_drewN (blk_below O3'.out hB) q)).mono ?_
    rintro e w' ⟨rfl, j, V, L', S, hL'⟩
    refine ⟨rfl, hb4.trans (show Below w.heap.size w4 w' from (show Below w.heap.size w4 (w4.drewN q) from pw_below_drewN (Below.refl _ _) q).trans S.below), ?_, by rw [← hL']; exact S.O⟩
    exact (Kept.of_below hB (fun k => k = w.heap.size + 1 + 1)).then_ (show Kept w4 w' _ from S.kept) (fun k hk => hk.elim (fun h => .inr (by omega)) (fun h => .inl h)))
  clear hmk
  refine wp_region_noPanic ?_
  go_region_with (first | (go_at_call 23; refine Calls.mono (R23.out _) ?_; rintro e w4 ⟨rfl, hg, hb⟩; have a4 : w4.cell? ⟨w.heap.size, 0, none⟩ = some (Value.slice (some ⟨w.heap.size + 1 + 1, 0, none⟩) 32 32) := (cell_of_row' (blk_below A3'.out hb) 0).trans rfl; have HG4 := Aside0.mk hg; have HC4 := Aside0.mk hb; clear hb hg) | (go_at_call 22; (first | refine Calls.mono (R25.out _ HG4.out HC4.out 0) ?_ | refine Calls.mono (R25.out _ HG4.out HC4.out _) ?_); rintro e w5 ⟨rfl, h5⟩; have H5 := Aside0.mk h5; clear h5))
  all_goals
    refine NoPanic.normal ?_
    have hz := Z3'.out
    have bA := blk_kept A3'.out H5.out.2.1 (by omega)
    have bB := blk_kept B3'.out H5.out.2.1 (by omega)
    have cA : w5.cell? ⟨w.heap.size, 0, none⟩ = some (Value.slice (some ⟨w.heap.size + 1 + 1, 0, none⟩) 32 32) := (cell_of_row' bA 0).trans rfl
    have cB : w5.cell? ⟨w.heap.size + 1, 0, none⟩ = some (Value.bool false) := (cell_of_row' bB 0).trans rfl
    have fA := blk_frozen' bA 0
    have fB := blk_frozen' bB 0
    have BA := Aside0.mk bA
    have BB := Aside0.mk bB
    clear bA bB
    go_wp2
    have hR3 := Z3'.out
    have bL := H5.out.2.2
    have hlen : (un1f (wordOf l0) (List.replicate 32 0)).length = 32 := un1_len _ _ (by simp)
    refine leaves_cons (f := 21) (args := #[.pointer (some ⟨w.heap.size, 0, none⟩), .pointer (some ⟨w.heap.size + 1, 0, none⟩)]) (by simp) (by simp [go_sem]) ?_
    refine (no_idle ⟨w.heap.size, 0, none⟩ ⟨w.heap.size + 1, 0, none⟩ _).mono ?_
    rintro e u' w'' ⟨rfl, rfl, rfl⟩
    have b1 := blk_put (cs := #[Value.slice (some ⟨w.heap.size + 1 + 1, 0, none⟩) 32 32]) BA.out 0 (Value.slice (some ⟨w.heap.size + 1 + 1, 0, none⟩) 32 32) rfl
    have b2 := blk_far (p := ⟨w.heap.size + 1, 0, none⟩) b1 (by simp only; omega) (.bool true)
    have d1 := blk_far (p := ⟨w.heap.size, 0, none⟩) BB.out (by simp only; omega) (Value.slice (some ⟨w.heap.size + 1 + 1, 0, none⟩) 32 32)
    have d2 := blk_put (cs := #[Value.bool false]) d1 0 (.bool true) rfl
    have o1 := blk_far (p := ⟨w.heap.size, 0, none⟩) bL (by simp only; omega) (Value.slice (some ⟨w.heap.size + 1 + 1, 0, none⟩) 32 32)
    have o2 := blk_far (p := ⟨w.heap.size + 1, 0, none⟩) o1 (by simp only; omega) (.bool true)
    have c3 := (cell_of_row' b2 0).trans rfl
    have d3 := (cell_of_row' d2 0).trans rfl
    have HFIN := Aside0.mk (rowR (base := w.heap.size) o2 (by omega) hlen)
    have HBEL := Aside0.mk (below_set (j := 0) (v := .bool true) (below_set (j := 0) (v := (Value.slice (some ⟨w.heap.size + 1 + 1, 0, none⟩) 32 32)) H5.out.1 (Nat.le_refl _)) (show w.heap.size ≤ w.heap.size + 1 by omega))
    clear b1 b2 d1 d2 o1 o2 hlen bL
    simp [Leaves, settle, results, Tryd.results11, go_sem, c3, d3]
    exact ⟨HFIN.out, HBEL.out⟩

end Go.Proofs.YtcfkjhgchjgkeaaDoor.U
