/- What stands below the functions impl.Unpack1 to impl.Unpack29 of this seat: the reading of four bytes, and the state of the unpacking. -/
import Derived.Test.YtcfkjhgchjgkeaaDoorProg
import Derived.Below
import Derived.Deep.Draws
import Derived.Deep.AppendLies
import Derived.Maps.AppendAt
import Derived.OwnWalk
import Derived.Laws.BytesArg
import Derived.Laws.MakeOwn
import Derived.Laws.OwnMore
import Derived.Deep.OwnRows
import Derived.Tactics
import Derived.Lib.ConvBytes
import Derived.Laws.Slices
import Derived.WalkKit
import Derived.KernelRfl
import Derived.RowKit3
import Derived.Deep.LoopGhost
import Derived.Deep.QuietTactic
import Derived.BigQuiet
import Derived.WideLaws
import Derived.Deep.DeepCutAuto
import Derived.Deep.CutBlock
import Derived.Deep.RegionHeld3
import Derived.Laws.Rows
import Derived.Lib.AppendStr
import Derived.ArgAppend
import Derived.Laws.IdiomCopy
import Derived.OrdersHeld
import Derived.Laws.BitsLemmas
import Derived.RowKit
import Derived.Outline
import Derived.IntWalk
import Derived.Deep.DeepMust
import Derived.Laws.CopyOwn
import Derived.Laws.BitsAllLaws
import Derived.Deep.RegionLaw
import Derived.StillTailTactics
import Derived.Test.YtcfkjhgchjgkeaaDoorWWords
import Derived.Test.YtcfkjhgchjgkeaaDoorWLast
import Derived.Test.YtcfkjhgchjgkeaaDoorWTab
import Derived.Test.YtcfkjhgchjgkeaaDoorWFour
import Derived.Test.YtcfkjhgchjgkeaaDoorWQPut
import Derived.Test.YtcfkjhgchjgkeaaDoorWApart
import Derived.Test.YtcfkjhgchjgkeaaDoorWArr
import Derived.Test.YtcfkjhgchjgkeaaDoorWZeros
import Derived.Test.YtcfkjhgchjgkeaaDoorWFoot
import Derived.Test.YtcfkjhgchjgkeaaDoorWKept
import Derived.Test.YtcfkjhgchjgkeaaDoorWShare
import Derived.Test.YtcfkjhgchjgkeaaDoorWN
import Derived.Test.YtcfkjhgchjgkeaaDoorWFootNe
import Derived.Test.YtcfkjhgchjgkeaaDoorWAt
import Derived.Test.YtcfkjhgchjgkeaaDoorWEqStruct
import Derived.Test.YtcfkjhgchjgkeaaDoorWRepsOne
import Derived.Test.YtcfkjhgchjgkeaaDoorWInv
import Derived.Test.YtcfkjhgchjgkeaaDoorWInvWords
import Derived.Test.YtcfkjhgchjgkeaaDoorWGuard
import Derived.Test.YtcfkjhgchjgkeaaDoorWNEv
import Derived.Test.YtcfkjhgchjgkeaaDoorWMore
namespace Go.Proofs.YtcfkjhgchjgkeaaDoor.U
open Go.RowKit Go.IntWalk Go.Proofs.YtcfkjhgchjgkeaaDoorW.PrintWords Go.Proofs.YtcfkjhgchjgkeaaDoorW.PrintLast Go.Proofs.YtcfkjhgchjgkeaaDoorW.PrintMore
attribute [local go_sem] max2_int min2_int max_two min_two max_three min_three max_four min_four
set_option linter.unusedVariables false
set_option linter.unusedSimpArgs false
theorem cell_of_row' {w : World} {g : Nat} {t : TypeId} {cs : Array Value} (h : w.heap[g]? = some (.cells cs t (0, 0))) (i : Nat) : w.cell? ⟨g, i, none⟩ = cs[i]? := by simp [World.cell?, h]
theorem blk_frozen' {w : World} {g : Nat} {t : TypeId} {cs : Array Value} (h : w.heap[g]? = some (.cells cs t (0, 0))) (i : Nat) : w.frozen? ⟨g, i, none⟩ = false := by simp [World.frozen?, h]


theorem add_block (a : Addr) (j : Nat) : (a.add j).block = a.block := by unfold Addr.add; split <;> rfl
theorem nil_ahead (a : Addr) (w : World) : (nilAhead 177 34 (.pointer (some a)) "Read").run Tryd.prog w = .ok (some false) w := by kernel_rfl
theorem method_read (a : Addr) (w : World) : (method 177 34 (.pointer (some a)) "Read").run Tryd.prog w = .ok (60, .pointer (some a)) w := by kernel_rfl
theorem read4 (g b n c0 i : Nat) (A0 : Addr) (pr : Int) (o0 o1 o2 o3 : Value) (tb : TypeId) (w : World) (cs : List Value)
    (hg : w.heap[g]? = some (.cells #[.slice (some A0) n c0, .int .i64 i, .int .i64 pr] 43 (0, 0)))
    (hb : w.heap[b]? = some (.cells #[o0, o1, o2, o3] tb (0, 0))) (hi : i + 4 ≤ n) (hc : n ≤ c0) (hn : n ≤ 1000) (hbg : b ≠ g) (hAg : A0.block ≠ g)
    (hcs : cs.length = 4) (hsrc : ∀ j v, cs[j]? = some v → w.cell? ((A0.add i).add j) = some v) (h1 : ∀ v ∈ cs, v.oneCell' = true) (B : Nat) (hBg : B ≤ g) (hBb : B ≤ b) :
    Calls Tryd.prog 60 #[.pointer (some ⟨g, 0, none⟩), .slice (some ⟨b, 0, none⟩) 4 4] w fun e w' =>
      e = .returned (.tuple #[.int .i64 4, .nilIface]) ∧ w'.heap[g]? = some (.cells #[.slice (some A0) n c0, .int .i64 ((i + 4 : Nat) : Int), .int .i64 (-1)] 43 (0, 0)) ∧ w'.heap[b]? = some (.cells cs.toArray tb (0, 0)) ∧ Below B w w' ∧ Kept w w' (fun k => k = g ∨ k = b) := by
  have g0 : w.cell? ⟨g, 0, none⟩ = some (.slice (some A0) n c0) := (cell_of_row' hg 0).trans rfl
  have g1 : w.cell? ⟨g, 1, none⟩ = some (.int .i64 i) := (cell_of_row' hg 1).trans rfl
  have g2 : w.cell? ⟨g, 2, none⟩ = some (.int .i64 pr) := (cell_of_row' hg 2).trans rfl
  have f0 := blk_frozen' hg 0
  have f1 := blk_frozen' hg 1
  have f2 := blk_frozen' hg 2
  have hin : ¬ ((n : Int) ≤ i) := by omega
  have hle : i ≤ n := by omega
  have hci : ¬ c0 = i := by omega
  have HS := Aside0.mk hsrc
  have H1 := Aside0.mk h1
  have HB := Aside0.mk hb
  have HG := Aside0.mk hg
  have HC := Aside0.mk hcs
  have HBG := Aside0.mk hbg
  have HM := Aside0.mk (show cs.length = Nat.min (n - i) 4 by rw [hcs]; unfold Nat.min; omega)
  clear hsrc h1 hb hg hcs hbg
  go_enter Tryd.func60, Tryd.ntmps60
  go_wp2
  go_quiet (fail)
  go_wp2
  obtain ⟨W3, hW3⟩ : ∃ W3, W3 = ((w.drewN nq).setCell ⟨g, 2, none⟩ (.int .i64 (-1))) := ⟨_, rfl⟩
  have G3 : W3.heap[g]? = some (.cells #[.slice (some A0) n c0, .int .i64 i, .int .i64 (-1)] 43 (0, 0)) := by rw [hW3]; exact blk_put (blk_drewN HG.out nq) 2 _ rfl
  have B3 : W3.heap[b]? = some (.cells #[o0, o1, o2, o3] tb (0, 0)) := by rw [hW3]; exact blk_far (blk_drewN HB.out nq) HBG.out _
  have L3 := Aside0.mk (show Below B w W3 by rw [hW3]; exact (show Below B w (w.drewN nq) from pw_below_drewN (Below.refl _ _) _).setCell hBg _)
  have K3 := Aside0.mk (show Kept w W3 (fun k => k = g ∨ k = b) by rw [hW3]; exact Kept.setCell (Kept.drewN (Kept.refl _ _) _) (.inl (.inl rfl)) _)
  have S3 : ∀ j v, cs[j]? = some v → W3.drew.cell? ((A0.add i).add j) = some v := by
    intro j v hv
    have := HS.out j v hv
    rw [hW3]
    exact cell_kept this (Kept.setCell (Kept.drewN (Kept.refl _ (fun k => k = g)) _) (.inl rfl) _) (by rw [add_block, add_block]; exact hAg)
  rw [← hW3]
  clear hW3
  have hcp := run_copy_row (P := Tryd.prog) W3.drew 22 22 3 5 b 0 4 4 (A0.add i) (n - i) (c0 - i) #[o0, o1, o2, o3] tb cs Tryd.underlying22 (by kernel_rfl) B3 HM.out S3 (by simp [HC.out]) H1.out
  rw [show (List.take 0 #[o0, o1, o2, o3].toList ++ cs ++ List.drop (0 + cs.length) #[o0, o1, o2, o3].toList).toArray = cs.toArray from by simp [HC.out], show goInt ((cs.length : Nat) : Int) = .int .i64 4 from by rw [HC.out]; rfl] at hcp
  obtain ⟨W4, hW4⟩ : ∃ W4, W4 = W3.drew.setRow b cs.toArray := ⟨_, rfl⟩
  have G4 : W4.heap[g]? = some (.cells #[.slice (some A0) n c0, .int .i64 i, .int .i64 (-1)] 43 (0, 0)) := by rw [hW4]; exact (setRow_other _ _ _ _ (Ne.symm HBG.out)).trans G3
  have B4 := Aside0.mk (show W4.heap[b]? = some (.cells cs.toArray tb (0, 0)) by rw [hW4]; exact setRow_heap _ _ _ _ _ _ B3)
  have L4 := Aside0.mk (show Below B w W4 by rw [hW4]; exact below_setRow L3.out.drew hBb _)
  have K4 := Aside0.mk (show Kept w W4 (fun k => k = g ∨ k = b) by
    refine K3.out.then_ (S2 := fun k => k = b) ⟨by rw [hW4]; simp [World.setRow], fun k hk hne => ?_⟩ (fun k hk => .inl (.inr hk))
    rw [hW4]
    exact setRow_other _ _ _ _ hne)
  rw [← hW4] at hcp
  clear hW4 B3 S3 g0 g1 g2 f0 f1 f2
  have g0 : W3.cell? ⟨g, 0, none⟩ = some (.slice (some A0) n c0) := (cell_of_row' G3 0).trans rfl
  have g1 : W3.cell? ⟨g, 1, none⟩ = some (.int .i64 i) := (cell_of_row' G3 1).trans rfl
  have k1 : W4.cell? ⟨g, 1, none⟩ = some (.int .i64 i) := (cell_of_row' G4 1).trans rfl
  have k2 := blk_frozen' G4 1
  have G4' := Aside0.mk G4
  clear G3 G4
  go_region
  go_wp2
  go_ret2
  exact ⟨rfl, by simpa using blk_put G4'.out 1 _ rfl, blk_far B4.out HBG.out _, L4.out.setCell hBg _, Kept.setCell K4.out (.inl (.inl rfl)) _⟩

theorem readAtLeast (g b n c0 i : Nat) (A0 : Addr) (pr : Int) (o0 o1 o2 o3 : Value) (tb : TypeId) (w : World) (cs : List Value)
    (hg : w.heap[g]? = some (.cells #[.slice (some A0) n c0, .int .i64 i, .int .i64 pr] 43 (0, 0)))
    (hb : w.heap[b]? = some (.cells #[o0, o1, o2, o3] tb (0, 0))) (hi : i + 4 ≤ n) (hc : n ≤ c0) (hn : n ≤ 1000) (hbg : b ≠ g) (hAg : A0.block ≠ g)
    (hcs : cs.length = 4) (hsrc : ∀ j v, cs[j]? = some v → w.cell? ((A0.add i).add j) = some v) (h1 : ∀ v ∈ cs, v.oneCell' = true) (B : Nat) (hBg : B ≤ g) (hBb : B ≤ b) :
    Calls Tryd.prog 43 #[.iface 34 (.pointer (some ⟨g, 0, none⟩)), .slice (some ⟨b, 0, none⟩) 4 4, .int .i64 4] w fun e w' =>
      e = .returned (.tuple #[.int .i64 4, .nilIface]) ∧ w'.heap[g]? = some (.cells #[.slice (some A0) n c0, .int .i64 ((i + 4 : Nat) : Int), .int .i64 (-1)] 43 (0, 0)) ∧ w'.heap[b]? = some (.cells cs.toArray tb (0, 0)) ∧ Below B w w' ∧ Kept w w' (fun k => k = g ∨ k = b) := by
  have HS := Aside0.mk hsrc
  have H1 := Aside0.mk h1
  have HB := Aside0.mk hb
  have HG := Aside0.mk hg
  have HC := Aside0.mk hcs
  have HBG := Aside0.mk hbg
  have HN := Aside0.mk (And.intro hi (And.intro hc hn))
  have HA := Aside0.mk hAg
  clear hsrc h1 hb hg hcs hbg hAg hi hc hn
  have R4 := Aside0.mk (show ∀ q, Calls Tryd.prog 60 #[.pointer (some ⟨g, 0, none⟩), .slice (some ⟨b, 0, none⟩) 4 4] (w.drewN q) fun e w' =>
      e = .returned (.tuple #[.int .i64 4, .nilIface]) ∧ w'.heap[g]? = some (.cells #[.slice (some A0) n c0, .int .i64 ((i + 4 : Nat) : Int), .int .i64 (-1)] 43 (0, 0)) ∧ w'.heap[b]? = some (.cells cs.toArray tb (0, 0)) ∧ Below B w w' ∧ Kept w w' (fun k => k = g ∨ k = b) from fun q =>
    (read4 g b n c0 i A0 pr o0 o1 o2 o3 tb (w.drewN q) cs (blk_drewN HG.out q) (blk_drewN HB.out q) HN.out.1 HN.out.2.1 HN.out.2.2 HBG.out HA.out HC.out (fun j v hv => HS.out j v hv) H1.out B hBg hBb).mono (fun e w' h => ⟨h.1, h.2.1, h.2.2.1, (show Below B w (w.drewN q) from pw_below_drewN (Below.refl _ _) q).trans h.2.2.2.1, h.2.2.2.2⟩))
  clear HS H1 HB HG HC HBG HN HA
  have na := nil_ahead
  have mr := method_read
  go_enter Tryd.func43, Tryd.ntmps43
  go_wp2
  go_loopg [6, 7, 8] 1 (fun kq v6 v7 v8 w' => (kq = 1 ∧ v6 = .int .i64 0 ∧ v7 = .nilIface ∧ ∃ m, w' = w.drewN m) ∨ (kq = 0 ∧ v6 = .int .i64 4 ∧ v7 = .nilIface ∧ Aside0 (w'.heap[g]? = some (.cells #[.slice (some A0) n c0, .int .i64 ((i + 4 : Nat) : Int), .int .i64 (-1)] 43 (0, 0)) ∧ w'.heap[b]? = some (.cells cs.toArray tb (0, 0)) ∧ Below B w w' ∧ Kept w w' (fun k => k = g ∨ k = b))))
  case atStart => exact .inl ⟨rfl, rfl, rfl, 0, rfl⟩
  case round =>
    rcases hrel with ⟨rfl, rfl, rfl, m, rfl⟩ | ⟨rfl, rfl, rfl, HF⟩
    · go_wp2
      go_region_with (go_at_call 60; go_loud (refine Calls.mono (R4.out _) ?_); rintro e w' ⟨rfl, hf⟩; have HF := Aside0.mk hf; clear hf)
      go_wp2
      go_roundg 0
      case measure => omega
      case rel => exact .inr ⟨rfl, rfl, rfl, HF⟩
    · go_wp2
      go_ret2
      exact ⟨rfl, HF.out⟩

theorem readFull (g b n c0 i : Nat) (A0 : Addr) (pr : Int) (o0 o1 o2 o3 : Value) (tb : TypeId) (w : World) (cs : List Value)
    (hg : w.heap[g]? = some (.cells #[.slice (some A0) n c0, .int .i64 i, .int .i64 pr] 43 (0, 0)))
    (hb : w.heap[b]? = some (.cells #[o0, o1, o2, o3] tb (0, 0))) (hi : i + 4 ≤ n) (hc : n ≤ c0) (hn : n ≤ 1000) (hbg : b ≠ g) (hAg : A0.block ≠ g)
    (hcs : cs.length = 4) (hsrc : ∀ j v, cs[j]? = some v → w.cell? ((A0.add i).add j) = some v) (h1 : ∀ v ∈ cs, v.oneCell' = true) (B : Nat) (hBg : B ≤ g) (hBb : B ≤ b) :
    Calls Tryd.prog 41 #[.iface 34 (.pointer (some ⟨g, 0, none⟩)), .slice (some ⟨b, 0, none⟩) 4 4] w fun e w' =>
      e = .returned (.tuple #[.int .i64 4, .nilIface]) ∧ w'.heap[g]? = some (.cells #[.slice (some A0) n c0, .int .i64 ((i + 4 : Nat) : Int), .int .i64 (-1)] 43 (0, 0)) ∧ w'.heap[b]? = some (.cells cs.toArray tb (0, 0)) ∧ Below B w w' ∧ Kept w w' (fun k => k = g ∨ k = b) := by
  have R4 := Aside0.mk (show ∀ q, Calls Tryd.prog 43 #[.iface 34 (.pointer (some ⟨g, 0, none⟩)), .slice (some ⟨b, 0, none⟩) 4 4, .int .i64 4] (w.drewN q) fun e w' =>
      e = .returned (.tuple #[.int .i64 4, .nilIface]) ∧ w'.heap[g]? = some (.cells #[.slice (some A0) n c0, .int .i64 ((i + 4 : Nat) : Int), .int .i64 (-1)] 43 (0, 0)) ∧ w'.heap[b]? = some (.cells cs.toArray tb (0, 0)) ∧ Below B w w' ∧ Kept w w' (fun k => k = g ∨ k = b) from fun q =>
    (readAtLeast g b n c0 i A0 pr o0 o1 o2 o3 tb (w.drewN q) cs (blk_drewN hg q) (blk_drewN hb q) hi hc hn hbg hAg hcs (fun j v hv => hsrc j v hv) h1 B hBg hBb).mono (fun e w' h => ⟨h.1, h.2.1, h.2.2.1, (show Below B w (w.drewN q) from pw_below_drewN (Below.refl _ _) q).trans h.2.2.2.1, h.2.2.2.2⟩))
  clear hsrc h1 hb hg hcs hbg hAg hi hc hn
  go_enter Tryd.func41, Tryd.ntmps41
  go_wp2_with (go_at_call 43; refine Calls.mono (R4.out 0) ?_; rintro e w' ⟨rfl, hf⟩; have HF := Aside0.mk hf; clear hf)
  go_ret2
  exact ⟨rfl, HF.out⟩

theorem or_add (x y : Int) (c k : Nat) (hc : c = 2 ^ k) (h0 : 0 ≤ x) (h1 : x < c) (h2 : 0 ≤ y) (h3 : x + y * c < 4294967296) : bits .or .u32 x (y * (c : Int)) = x + y * (c : Int) := by
  obtain ⟨a, rfl⟩ := Int.eq_ofNat_of_zero_le h0
  obtain ⟨b, rfl⟩ := Int.eq_ofNat_of_zero_le h2
  have e : ((b : Int) * (c : Int)) = ((b * c : Nat) : Int) := by simp
  rw [e] at h3 ⊢
  rw [u32_or_nat a (b * c) (by omega) (by omega), Nat.or_comm, Nat.mul_comm b c]
  subst hc
  rw [← Nat.two_pow_add_eq_or_of_lt (by omega)]
  omega
theorem uint32 (b : Nat) (v0 v1 v2 v3 : Int) (tb : TypeId) (w : World) (hb : w.heap[b]? = some (.cells #[.int .u8 v0, .int .u8 v1, .int .u8 v2, .int .u8 v3] tb (0, 0))) (h0 : 0 ≤ v0 ∧ v0 < 256) (h1 : 0 ≤ v1 ∧ v1 < 256) (h2 : 0 ≤ v2 ∧ v2 < 256) (h3 : 0 ≤ v3 ∧ v3 < 256) :
    Calls Tryd.prog 42 #[.agg #[], .slice (some ⟨b, 0, none⟩) 4 4] w fun e w' => e = .returned (.int .u32 (v0 + 256 * v1 + 65536 * v2 + 16777216 * v3)) ∧ Below w.heap.size w w' := by
  have g0 : ∀ o, (w.alloc o).cell? ⟨b, 0, none⟩ = some (.int .u8 v0) := fun o => (cell_of_row' (blk_alloc hb o) 0).trans rfl
  have g1 : ∀ o, (w.alloc o).cell? ⟨b, 1, none⟩ = some (.int .u8 v1) := fun o => (cell_of_row' (blk_alloc hb o) 1).trans rfl
  have g2 : ∀ o, (w.alloc o).cell? ⟨b, 2, none⟩ = some (.int .u8 v2) := fun o => (cell_of_row' (blk_alloc hb o) 2).trans rfl
  have g3 : ∀ o, (w.alloc o).cell? ⟨b, 3, none⟩ = some (.int .u8 v3) := fun o => (cell_of_row' (blk_alloc hb o) 3).trans rfl
  go_enter Tryd.func42, Tryd.ntmps42
  go_wp2
  go_quiet (fail)
  go_wp2
  go_ret
  have e1 : bits BinOp.or IntKind.u32 v0 (v1 * 256) = v0 + v1 * 256 := or_add v0 v1 256 8 (by decide) h0.1 h0.2 h1.1 (by omega)
  have e2 : bits BinOp.or IntKind.u32 (v0 + v1 * 256) (v2 * 65536) = (v0 + v1 * 256) + v2 * 65536 := or_add _ v2 65536 16 (by decide) (by omega) (by omega) h2.1 (by omega)
  have e3 : bits BinOp.or IntKind.u32 ((v0 + v1 * 256) + v2 * 65536) (v3 * 16777216) = ((v0 + v1 * 256) + v2 * 65536) + v3 * 16777216 := or_add _ v3 16777216 24 (by decide) (by omega) (by omega) h3.1 (by omega)
  refine ⟨?_, pw_below_drewN (below_alloc (Below.refl _ _) _) _⟩
  show Ending.returned (Value.int IntKind.u32 (bits BinOp.or IntKind.u32 (bits BinOp.or IntKind.u32 (bits BinOp.or IntKind.u32 v0 (v1 * 256)) (v2 * 65536)) (v3 * 16777216))) = _
  rw [e1, e2, e3]
  congr 2
  omega

theorem readLittle (g q n c0 i : Nat) (A0 : Addr) (pr old : Int) (v0 v1 v2 v3 : Int) (w : World)
    (hg : w.heap[g]? = some (.cells #[.slice (some A0) n c0, .int .i64 i, .int .i64 pr] 43 (0, 0)))
    (hq : w.heap[q]? = some (.cells #[.int .u32 old] 30 (0, 0))) (hi : i + 4 ≤ n) (hc : n ≤ c0) (hn : n ≤ 1000) (hqg : q ≠ g) (hAg : A0.block ≠ g)
    (hsrc : ∀ j v, [Value.int .u8 v0, .int .u8 v1, .int .u8 v2, .int .u8 v3][j]? = some v → w.cell? ((A0.add i).add j) = some v) (h0 : 0 ≤ v0 ∧ v0 < 256) (h1 : 0 ≤ v1 ∧ v1 < 256) (h2 : 0 ≤ v2 ∧ v2 < 256) (h3 : 0 ≤ v3 ∧ v3 < 256) (B : Nat) (hBg : B ≤ g) (hBq : B ≤ q) :
    Calls Tryd.prog 40 #[.iface 34 (.pointer (some ⟨g, 0, none⟩)), .pointer (some ⟨q, 0, none⟩)] w fun e w' =>
      e = .returned (.tuple #[]) ∧ w'.heap[g]? = some (.cells #[.slice (some A0) n c0, .int .i64 ((i + 4 : Nat) : Int), .int .i64 (-1)] 43 (0, 0)) ∧ w'.heap[q]? = some (.cells #[.int .u32 (v0 + 256 * v1 + 65536 * v2 + 16777216 * v3)] 30 (0, 0)) ∧ Below B w w' ∧ Kept w w' (fun k => k = g ∨ k = q) := by
  have hlg := blk_lt hg
  have hlq := blk_lt hq
  have hAl : A0.block < w.heap.size := by
    have := World.block_lt_of_cell? w _ (hsrc 0 _ rfl)
    rw [add_block, add_block] at this
    exact this
  have H1 := Aside0.mk (show ∀ v ∈ [Value.int .u8 v0, Value.int .u8 v1, Value.int .u8 v2, Value.int .u8 v3], v.oneCell' = true by simp [Value.oneCell'])
  have HSA := Aside0.mk (show ∀ o j v, [Value.int .u8 v0, Value.int .u8 v1, Value.int .u8 v2, Value.int .u8 v3][j]? = some v → (w.alloc o).cell? ((A0.add i).add j) = some v from fun o j v hv => cell_kept (S := fun _ => False) (hsrc j v hv) (Kept.alloc (Kept.refl w _) o) (fun h => h))
  have HG := Aside0.mk hg
  have HQ := Aside0.mk hq
  have HQG := Aside0.mk hqg
  have HN := Aside0.mk (And.intro hi (And.intro hc hn))
  have HA := Aside0.mk hAg
  have HL := Aside0.mk (And.intro hlg (And.intro hlq hAl))
  have HV := Aside0.mk (And.intro h0 (And.intro h1 (And.intro h2 h3)))
  clear hsrc hg hq hqg hAg hi hc hn hlg hlq hAl h0 h1 h2 h3
  go_enter Tryd.func40, Tryd.ntmps40
  go_wp2_with (go_at_call 41; refine Calls.mono (readFull g w.heap.size n c0 i A0 pr (.int .u8 0) (.int .u8 0) (.int .u8 0) (.int .u8 0) 47 _ _ (blk_alloc HG.out _) (blk_new _ _) HN.out.1 HN.out.2.1 HN.out.2.2 (by have := HL.out.1; omega) HA.out rfl (HSA.out _) H1.out B hBg (by have := HL.out.1; omega)) ?_; rintro e W1 ⟨rfl, hf⟩; have HF := Aside0.mk hf; clear hf)
  have hqs : ¬ (q = g ∨ q = w.heap.size) := by
    have := HQG.out
    have := HL.out.2.1
    omega
  have Q1 := blk_kept (blk_alloc HQ.out _) HF.out.2.2.2 hqs
  have Q1' := Aside0.mk Q1
  have U := Aside0.mk (show ∀ k, Calls Tryd.prog 42 #[.agg #[], .slice (some ⟨w.heap.size, 0, none⟩) 4 4] (W1.drewN k) fun e w' => e = .returned (.int .u32 (v0 + 256 * v1 + 65536 * v2 + 16777216 * v3)) ∧ Below W1.heap.size W1 w' from fun k =>
    (uint32 w.heap.size v0 v1 v2 v3 47 (W1.drewN k) (blk_drewN HF.out.2.1 k) HV.out.1 HV.out.2.1 HV.out.2.2.1 HV.out.2.2.2).mono (fun e w' h => ⟨h.1, (pw_below_drewN (Below.refl _ _) k).trans h.2⟩))
  clear Q1 H1 HSA
  go_region_with (go_at_call 42; refine Calls.mono (U.out _) ?_; rintro e W2 ⟨rfl, hb⟩; have q1 : W2.cell? ⟨q, 0, none⟩ = some (.int .u32 old) := (cell_of_row' (blk_below Q1'.out hb) 0).trans rfl; have q2 := blk_frozen' (blk_below Q1'.out hb) 0; have HB2 := Aside0.mk hb; clear hb)
  go_wp2
  have hgq : g ≠ q := fun h => HQG.out h.symm
  refine ⟨rfl, .tuple #[], by simp [results, Tryd.results40, go_sem], rfl, blk_far (blk_below HF.out.1 HB2.out) hgq _, blk_put (blk_below Q1'.out HB2.out) 0 _ rfl, ?_, ?_⟩
  · exact (below_then (((Below.refl B w).alloc (by have := HL.out.1; omega) _).trans HF.out.2.2.1) (by have := blk_lt HF.out.1; omega) HB2.out).setCell hBq _
  · exact Kept.setCell (((Kept.alloc (Kept.refl w _) _).then_ HF.out.2.2.2 (fun k hk => hk.elim (fun h => .inl (.inl h)) (fun h => .inr (by omega)))).below HB2.out) (.inl (.inr rfl)) _

def rowU (L : List Int) : Array Value := (L.map (Value.int .u32)).toArray
def wordOf (l : List Int) (j : Nat) : Int := rd l ((4 * j : Nat) : Int) + 256 * rd l ((4 * j + 1 : Nat) : Int) + 65536 * rd l ((4 * j + 2 : Nat) : Int) + 16777216 * rd l ((4 * j + 3 : Nat) : Int)
structure Cx (g o q c0 : Nat) (A0 : Addr) (l : List Int) (w : World) (B : Nat) : Prop where
  go : o ≠ g
  qg : q ≠ g
  qo : q ≠ o
  ag : A0.block ≠ g
  ao : A0.block ≠ o
  qw : w.heap.size ≤ q
  bg : B ≤ g
  bo : B ≤ o
  bw : B ≤ w.heap.size
  cap : l.length ≤ c0
  len : l.length ≤ 1000
  src : ∀ j : Nat, j < l.length → w.cell? (A0.add j) = some (.int .u8 (rd l (j : Int)))
  byte : ∀ j : Nat, j < l.length → 0 ≤ rd l (j : Int) ∧ rd l (j : Int) < 256
structure St (g o q c0 : Nat) (A0 : Addr) (l : List Int) (w : World) (B j : Nat) (V : Int) (L : List Int) (W : World) : Prop where
  G : ∃ pr, W.heap[g]? = some (.cells #[.slice (some A0) l.length c0, .int .i64 ((4 * j : Nat) : Int), .int .i64 pr] 43 (0, 0))
  Q : W.heap[q]? = some (.cells #[.int .u32 V] 30 (0, 0))
  O : W.heap[o]? = some (.cells (rowU L) 30 (0, 0))
  below : Below B w W
  kept : Kept w W (fun k => k = g ∨ k = o)
variable {g o q c0 : Nat} {A0 : Addr} {l : List Int} {w : World} {B : Nat}
theorem St.store (C : Cx g o q c0 A0 l w B) {j : Nat} {V : Int} {L : List Int} {W : World} (S : St g o q c0 A0 l w B j V L W) {k : Nat} {x : Int} : St g o q c0 A0 l w B j V (L.set k x) (W.setCell ⟨o, k, none⟩ (.int .u32 x)) := by
  obtain ⟨⟨pr, hG⟩, hQ, hO, hB, hK⟩ := S
  refine ⟨⟨pr, blk_far hG (Ne.symm C.go) _⟩, blk_far hQ C.qo _, blk_put hO k _ ?_, hB.setCell C.bo _, Kept.setCell hK (.inl (.inr rfl)) _⟩
  unfold rowU
  simp [List.map_set]
theorem add_add (a : Addr) (i j : Nat) : (a.add i).add j = a.add (i + j) := by
  unfold Addr.add
  by_cases hi : i = 0
  · subst hi; simp
  · by_cases hj : j = 0
    · subst hj; simp
    · simp [hi, hj, Nat.add_assoc]
theorem St.read (C : Cx g o q c0 A0 l w B) {j : Nat} {V : Int} {L : List Int} {W : World} (S : St g o q c0 A0 l w B j V L W) (hj : 4 * j + 4 ≤ l.length) :
    Calls Tryd.prog 40 #[.iface 34 (.pointer (some ⟨g, 0, none⟩)), .pointer (some ⟨q, 0, none⟩)] W fun e W' => e = .returned (.tuple #[]) ∧ St g o q c0 A0 l w B (j + 1) (wordOf l j) L W' := by
  obtain ⟨⟨pr, hG⟩, hQ, hO, hB, hK⟩ := S
  have cellsrc : ∀ i : Nat, i < l.length → W.cell? (A0.add i) = some (.int .u8 (rd l (i : Int))) := fun i hi => cell_kept (C.src i hi) hK (by rw [add_block]; exact fun h => h.elim C.ag C.ao)
  refine (readLittle g q l.length c0 (4 * j) A0 pr V _ _ _ _ W hG hQ hj C.cap C.len C.qg C.ag ?_ (C.byte (4 * j) (by omega)) (C.byte (4 * j + 1) (by omega)) (C.byte (4 * j + 2) (by omega)) (C.byte (4 * j + 3) (by omega)) B C.bg (Nat.le_trans C.bw C.qw)).mono ?_
  · intro i v hv
    rw [add_add]
    match i, hv with
    | 0, hv => cases hv; exact cellsrc (4 * j) (by omega)
    | 1, hv => cases hv; exact cellsrc (4 * j + 1) (by omega)
    | 2, hv => cases hv; exact cellsrc (4 * j + 2) (by omega)
    | 3, hv => cases hv; exact cellsrc (4 * j + 3) (by omega)
    | i + 4, hv => cases hv
  · rintro e W' ⟨rfl, h1, h2, h3, h4⟩
    refine ⟨rfl, ⟨-1, ?_⟩, h2, blk_kept hO h4 (fun h => h.elim C.go (fun h => C.qo h.symm)), hB.trans h3, hK.then_ h4 (fun k hk => hk.elim (fun h => .inl (.inl h)) (fun h => .inr (by have := C.qw; omega)))⟩
    rw [show 4 * (j + 1) = 4 * j + 4 from by omega]
    exact h1
theorem St.name {j : Nat} {V : Int} {L : List Int} {W : World} (S : St g o q c0 A0 l w B j V L W) : ∃ L' V', St g o q c0 A0 l w B j V' L' W ∧ Aside0 (L' = L ∧ V' = V) := ⟨L, V, S, ⟨rfl, rfl⟩⟩
theorem St.qc {j : Nat} {V : Int} {L : List Int} {W : World} (S : St g o q c0 A0 l w B j V L W) : W.cell? ⟨q, 0, none⟩ = some (.int .u32 V) := (cell_of_row' S.Q 0).trans rfl
theorem St.oc {j : Nat} {V : Int} {L : List Int} {W : World} (S : St g o q c0 A0 l w B j V L W) (hL : L.length = 32) (k : Nat) (hk : k < 32) : W.cell? ⟨o, k, none⟩ = some (.int .u32 (rd L (k : Int))) := by
  refine (cell_of_row' S.O k).trans ?_
  unfold rowU rd
  rw [List.getElem?_toArray, List.getElem?_map, List.getElem?_eq_getElem (by omega), Int.toNat_natCast, List.getD_eq_getElem?_getD, List.getElem?_eq_getElem (by omega)]
  rfl
theorem St.of {j : Nat} {V : Int} {L : List Int} {W : World} (S : St g o q c0 A0 l w B j V L W) (k : Nat) : W.frozen? ⟨o, k, none⟩ = false := blk_frozen' S.O k
theorem St.drew {j : Nat} {V : Int} {L : List Int} {W : World} (S : St g o q c0 A0 l w B j V L W) : St g o q c0 A0 l w B j V L W.drew := ⟨S.G, S.Q, S.O, below_drew S.below, S.kept⟩

theorem tinfo30 : (Tryd.prog.info? 30).map (fun i => (i.zero, i.size, i.bytes)) = some (some (.int .u32 0), 1, 4) := by kernel_rfl
theorem mk32 (W : World) : (Instr.makeSlice 23 (.int .i64 32) (.int .i64 32)).run Tryd.prog W = .ok (.slice (some ⟨W.heap.size, 0, none⟩) 32 32) (W.alloc (.cells (rowU (List.replicate 32 0)) 30 (0, 0))) := by
  have h := tinfo30
  cases hi : Tryd.prog.info? 30 with
  | none => rw [hi] at h; cases h
  | some i =>
    rw [hi] at h
    simp only [Option.map_some, Option.some.injEq, Prod.mk.injEq] at h
    obtain ⟨hz, hs, hb⟩ := h
    have := run_makeSlice (P := Tryd.prog) W 23 30 i (.int .u32 0) Tryd.underlying23 hi hz .i64 .i64 32 32 (by decide) (by decide) (by rw [hs]; decide) (by rw [hb]; decide) (by decide)
    rw [this, hs, show madeCells (Value.int .u32 0).cells (Int.toNat 32 * 1) = rowU (List.replicate 32 0) from by first | kernel_rfl | rfl | decide | (simp [madeCells, rowU, Value.cells]; done) | (unfold madeCells rowU; rfl)]
    rfl

theorem newReader (A0 : Option Addr) (n c0 : Nat) (w : World) : Calls Tryd.prog 23 #[.slice A0 n c0] w fun e w' => ∃ m, e = .returned (.pointer (some ⟨w.heap.size, 0, none⟩)) ∧ w' = (w.alloc (.cells #[.slice A0 n c0, .int .i64 0, .int .i64 (-1)] 43 (0, 0))).drewN m := by
  go_enter Tryd.func23, Tryd.ntmps23
  go_wp2
  go_ret
  exact ⟨0, rfl, rfl⟩

theorem rd_at {L : List Int} {j : Nat} (h : j < L.length) : L[j]? = some (rd L (j : Int)) := by
  unfold rd
  rw [Int.toNat_natCast, List.getD_eq_getElem?_getD, List.getElem?_eq_getElem h]
  rfl
/-- A block of numbers is a row of the call's own. -/
theorem rowR {w : World} {base g : Nat} {L : List Int} (h : w.heap[g]? = some (.cells (rowU L) 30 (0, 0))) (hb : base ≤ g) (hl : L.length = 32) : Kd.R (Kd.int .u32) 30 w base (fun _ => True) (.slice (some ⟨g, 0, none⟩) 32 32) L := by
  refine ⟨fun _ _ => trivial, L.map (Value.int .u32), ⟨?_, .inr ⟨g, 32, rowU L, ?_, hb, h, ?_, ?_, ?_, ?_⟩⟩, ?_, ?_⟩
  · rw [List.length_map]
    exact (Nat.mul_one _).symm
  · rw [hl]
  · omega
  · decide
  · unfold rowU
    rw [List.size_toArray, List.length_map, hl]
    rfl
  · unfold rowU
    rw [List.take_of_length_le (by simp [Kd.int, Kd.scalar])]
  · rw [List.length_map]
    exact (Nat.mul_one _).symm
  · intro j p hj
    have hlt := (List.getElem?_eq_some_iff.1 hj).1
    have hj' : (L.map (Value.int .u32))[j]? = some (.int .u32 p) := by rw [List.getElem?_map, hj]; rfl
    have hlt' : j < (L.map (Value.int .u32)).length := by rw [List.length_map]; exact hlt
    rw [List.getElem?_eq_getElem hlt'] at hj'
    injection hj' with hj'
    show Kd.M (Kd.int .u32) _ _ _ p (((L.map (Value.int .u32)).drop (j * 1)).take 1)
    rw [Nat.mul_one, List.drop_eq_getElem_cons hlt', hj']
    rfl
theorem no_idle (p q : Addr) (w : World) :
    CallsD Tryd.prog 21 #[.pointer (some p), .pointer (some q)] .returning w fun e u' w' => e = .returned (.tuple #[]) ∧ u' = .returning ∧ w' = w := by
  refine callsD_of_wpS Tryd.func21 rfl fun c₀ cs hu => ?_
  apply wpS_seq
  apply wpS_region
  simp [wpOpsS, go_sem, recoverD, hu, Tryd.ntmps21, Exit.thenS]
  refine wpS_cond (t := false) (by simp [Act.eval, Array.replicate]) ?_
  simp only [Bool.false_eq_true, if_false]
  refine wpS_of_wp (wp_skip ?_)
  cases c₀
  simp_all [bodyPostS, results, Tryd.results21]

end Go.Proofs.YtcfkjhgchjgkeaaDoor.U
