/- Small functions of the package impl. -/
import Derived.Test.YtogbpljnekgfkaaGreatDoorCk
namespace Go.Proofs.YtogbpljnekgfkaaGreatDoor.Cm
open Go.RowKit Go.IntWalk Go.Proofs.YtogbpljnekgfkaaGreatDoorW.PrintWords Go.Proofs.YtogbpljnekgfkaaGreatDoorW.PrintLast Go.Proofs.YtogbpljnekgfkaaGreatDoorW.PrintMore
attribute [local go_sem] max2_int min2_int max_two min_two max_three min_three max_four min_four
set_option linter.unusedVariables false
set_option linter.unusedSimpArgs false
theorem run_pure0 (w : World) : Sem.run Tryz.prog (pure (#[] : Array Value)) w = .ok #[] w := rfl
theorem run_store0 (a : Addr) (w : World) : Sem.run Tryz.prog (storeCells a []) w = .ok () w := rfl
attribute [local go_sem] run_pure0 run_store0
theorem copied0 (A : Option Addr) (c : Nat) (w : World) : Calls Tryz.prog 14 #[.slice A 0 c] w fun e w' => e = .returned (.slice (some ⟨w.heap.size, 0, none⟩) 0 0) ∧ w' = w.alloc (.cells #[] 5 (0, 0)) := by
  cases A with
  | none =>
    go_enter Tryz.func14, Tryz.ntmps14
    go_wp2
    all_goals (go_ret; exact ⟨rfl, rfl⟩)
  | some a =>
    go_enter Tryz.func14, Tryz.ntmps14
    go_wp2
    all_goals (go_ret; exact ⟨rfl, rfl⟩)
/-- What copied hands back: a row of its own, with room behind it. -/
def Copies : Prop := ∀ (A : Option Addr) (c : Nat) (l : List Int) (w : World), Kd.C (Kd.int .u8) w A l.length l → l.length ≤ c → l.length ≤ 100 → Calls Tryz.prog 14 #[.slice A l.length c] w fun e w' => ∃ v, e = .returned v ∧ Kd.R (Kd.int .u8) 5 w' w.heap.size (fun _ => True) v l ∧ Below w.heap.size w w'
theorem reps_u8 {P : Int → List Value → Prop} (hP : ∀ x cs, P x cs → cs = [.int .u8 x]) {xs : List Int} {inner : List Value} (hl : inner.length = xs.length) (h : ∀ j p, xs[j]? = some p → P p ((inner.drop (j * 1)).take 1)) : inner = xs.map (Value.int .u8) := by
  refine List.ext_getElem (by rw [List.length_map, hl]) fun j h1 h2 => ?_
  rw [List.length_map] at h2
  have := hP _ _ (h j _ (List.getElem?_eq_getElem h2))
  rw [Nat.mul_one, List.drop_eq_getElem_cons h1] at this
  simp only [List.take_succ_cons, List.take_zero, List.cons.injEq, and_true] at this
  rw [this, List.getElem_map]
theorem row_of_R {w : World} {base : Nat} {v : Value} {l : List Int} (h : Kd.R (Kd.int .u8) 5 w base (fun _ => True) v l) (hl : 0 < l.length) : ∃ (g cap : Nat) (X : Array Value), v = .slice (some ⟨g, 0, none⟩) l.length cap ∧ base ≤ g ∧ w.heap[g]? = some (.cells (rowX X l) 5 (0, 0)) ∧ l.length ≤ cap ∧ cap ≤ maxLen ∧ (rowX X l).size = cap := by
  obtain ⟨-, inner, ⟨h1, h2⟩, h3, h4⟩ := h
  rcases h2 with ⟨-, h2⟩ | ⟨g, cap, cur, rfl, hg, hh, r1, r2, r3, r4⟩
  · omega
  have hsz : (Kd.int .u8).sz = 1 := rfl
  rw [hsz, Nat.mul_one] at r3 h1 r4
  have hi := reps_u8 (fun x cs hx => hx) h1 h4
  have e : cur = rowX (cur.toList.drop l.length).toArray l := by
    refine Array.ext' ?_
    unfold rowX rowB
    rw [Array.toList_append, List.toList_toArray, List.toList_toArray, ← hi, ← r4, List.take_append_drop]
  refine ⟨g, cap, (cur.toList.drop l.length).toArray, rfl, hg, by rw [← e]; exact hh, r1, r2, by rw [← e]; exact r3⟩
theorem rowX_R {w : World} {base g n cap : Nat} {X : Array Value} {L : List Int} (h : w.heap[g]? = some (.cells (rowX X L) 5 (0, 0))) (hb : base ≤ g) (hl : L.length = n) (h1 : n ≤ cap) (h2 : cap ≤ maxLen) (h3 : (rowX X L).size = cap) : Kd.R (Kd.int .u8) 5 w base (fun _ => True) (.slice (some ⟨g, 0, none⟩) n cap) L := by
  refine ⟨fun _ _ => trivial, L.map (Value.int .u8), ⟨?_, .inr ⟨g, cap, rowX X L, by rw [hl], hb, h, by rw [hl]; exact h1, h2, ?_, ?_⟩⟩, ?_, ?_⟩
  · rw [List.length_map]
    exact (Nat.mul_one _).symm
  · rw [h3]
    exact (Nat.mul_one _).symm
  · unfold rowX rowB
    rw [Array.toList_append, List.toList_toArray, List.take_left' (by rw [List.length_map]; exact (Nat.mul_one _).symm)]
  · rw [List.length_map]
    exact (Nat.mul_one _).symm
  · intro j p hj
    have hlt := (List.getElem?_eq_some_iff.1 hj).1
    have hj' : (L.map (Value.int .u8))[j]? = some (.int .u8 p) := by rw [List.getElem?_map, hj]; rfl
    have hlt' : j < (L.map (Value.int .u8)).length := by rw [List.length_map]; exact hlt
    rw [List.getElem?_eq_getElem hlt'] at hj'
    injection hj' with hj'
    show Kd.M (Kd.int .u8) _ _ _ p (((L.map (Value.int .u8)).drop (j * 1)).take 1)
    rw [Nat.mul_one, List.drop_eq_getElem_cons hlt', hj']
    rfl
/-- copied: always a block. -/
theorem copied (H14 : Copies) (A : Option Addr) (c : Nat) (l : List Int) (w : World) (hr : Kd.C (Kd.int .u8) w A l.length l) (hc : l.length ≤ c) (h100 : l.length ≤ 100) :
    Calls Tryz.prog 14 #[.slice A l.length c] w fun e w' => ∃ (g cap : Nat) (X : Array Value), e = .returned (.slice (some ⟨g, 0, none⟩) l.length cap) ∧ w.heap.size ≤ g ∧ w'.heap[g]? = some (.cells (rowX X l) 5 (0, 0)) ∧ l.length ≤ cap ∧ cap ≤ maxLen ∧ (rowX X l).size = cap ∧ Below w.heap.size w w' := by
  by_cases h0 : 0 < l.length
  · refine Calls.mono (H14 A c l w hr hc h100) ?_
    rintro e w' ⟨v, rfl, hR, hB⟩
    obtain ⟨g, cap, X, rfl, h1, h2, h3, h4, h5⟩ := row_of_R hR h0
    exact ⟨g, cap, X, rfl, h1, h2, h3, h4, h5, hB⟩
  · have hl : l = [] := List.eq_nil_of_length_eq_zero (by omega)
    subst hl
    refine Calls.mono (copied0 A c w) ?_
    rintro e w' ⟨rfl, rfl⟩
    exact ⟨w.heap.size, 0, #[], rfl, Nat.le_refl _, blk_new w _, Nat.le_refl _, Nat.zero_le _, rfl, below_alloc (Below.refl _ _) _⟩
theorem no_idle13 (p q : Addr) (w : World) :
    CallsD Tryz.prog 13 #[.pointer (some p), .pointer (some q)] .returning w fun e u' w' => e = .returned (.tuple #[]) ∧ u' = .returning ∧ w' = w := by
  refine callsD_of_wpS Tryz.func13 rfl fun c₀ cs hu => ?_
  apply wpS_seq
  apply wpS_region
  simp [wpOpsS, go_sem, recoverD, hu, Tryz.ntmps13, Exit.thenS]
  refine wpS_cond (t := false) (by simp [Act.eval, Array.replicate]) ?_
  simp only [Bool.false_eq_true, if_false]
  refine wpS_of_wp (wp_skip ?_)
  cases c₀
  simp_all [bodyPostS, results, Tryz.results13]
theorem operator : ∀ (op : Nat), op < 4 → ∀ (w : World), Calls Tryz.prog 19 #[.int .i64 op] w fun e w' => e = .returned (.int .i8 op) ∧ Below w.heap.size w w'
  | 0, _, w => by
    go_enter Tryz.func19, Tryz.ntmps19
    go_wp2
    go_ret
    exact ⟨rfl, by repeat (first | exact Below.refl _ _ | apply below_alloc | apply pw_below_drewN | apply below_drew1)⟩
  | 1, _, w => by
    go_enter Tryz.func19, Tryz.ntmps19
    go_wp2
    go_ret
    exact ⟨rfl, by repeat (first | exact Below.refl _ _ | apply below_alloc | apply pw_below_drewN | apply below_drew1)⟩
  | 2, _, w => by
    go_enter Tryz.func19, Tryz.ntmps19
    go_wp2
    go_ret
    exact ⟨rfl, by repeat (first | exact Below.refl _ _ | apply below_alloc | apply pw_below_drewN | apply below_drew1)⟩
  | 3, _, w => by
    go_enter Tryz.func19, Tryz.ntmps19
    go_wp2
    go_ret
    exact ⟨rfl, by repeat (first | exact Below.refl _ _ | apply below_alloc | apply pw_below_drewN | apply below_drew1)⟩
  | _ + 4, h, _ => absurd h (by omega)
theorem info5 : (Tryz.prog.info? 5).map (fun i => (i.zero, i.size, i.bytes)) = some (some (.int .u8 0), 1, 1) := by kernel_rfl
theorem mkB (n : Nat) (hn : n ≤ 100000) (W : World) : (Instr.makeSlice 23 (.int .i64 n) (.int .i64 n)).run Tryz.prog W = .ok (.slice (some ⟨W.heap.size, 0, none⟩) n n) (W.alloc (.cells (rowB (List.replicate n 0)) 5 (0, 0))) := by
  have h := info5
  cases hi : Tryz.prog.info? 5 with
  | none => rw [hi] at h; cases h
  | some i =>
    rw [hi] at h
    simp only [Option.map_some, Option.some.injEq, Prod.mk.injEq] at h
    obtain ⟨hz, hs, hb⟩ := h
    have := run_makeSlice (P := Tryz.prog) W 23 5 i (.int .u8 0) Tryz.underlying23 hi hz .i64 .i64 n n (by omega) (by omega) (by rw [hs]; omega) (by rw [hb]; omega) (by omega)
    rw [this, hs, Int.toNat_natCast]
    have e : madeCells (Value.int .u8 0).cells (n * 1) = rowB (List.replicate n 0) := by
      rw [Nat.mul_one]
      refine Array.ext (by simp [size_madeCells, rowB]) fun i h1 h2 => ?_
      simp [madeCells, rowB, Value.cells, Nat.mod_one]
    rw [e]

end Go.Proofs.YtogbpljnekgfkaaGreatDoor.Cm
