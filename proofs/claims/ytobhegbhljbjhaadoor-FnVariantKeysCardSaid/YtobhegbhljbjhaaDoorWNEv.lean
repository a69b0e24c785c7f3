-- PRINTED BY print.sh 35421559b90ae4d0a3588c463048766b98c2df88dd9212a6774a882060cdf62d: not written by this session
import Derived.Test.YtobhegbhljbjhaaDoorWN
/-! ### 48. N's events: append, a whole row appended, zeros appended, literals, make, stores, cuts, an element taken out -/
namespace Go.Proofs.YtobhegbhljbjhaaDoorW.PrintWords
open Go.RowKit
namespace Kd
section
variable {α : Type} {d : Kd α} {e base n cap g : Nat} {ok ok' okp : Nat → Prop} {w w1 W : World} {v v1 : Value} {xs ys : List α}
/-- Element k was taken out. -/
theorem N_erased {rows : List (List Value)} {k : Nat} (h0 : ∀ k, (Value.slice (some ⟨g, 0, none⟩) n cap).ownBlock = some k → ok k) (hl : rows.length = xs.length) (hf : ∀ (j : Nat) (x : α) (c : List Value), xs[j]? = some x → rows[j]? = some c → FK d W (fun k => ok k ∧ some k ≠ (Value.slice (some ⟨g, 0, none⟩) n cap).ownBlock) x c)
    {n' : Nat} (hR : (raw d.sz).R e w1 base (fun _ => True) (.slice (some ⟨g, 0, none⟩) n' cap) (rows.eraseIdx k)) (hg : W.grownBy w1 (some g)) : N d e w1 base ok (.slice (some ⟨g, 0, none⟩) n' cap) (xs.eraseIdx k) := by
  have hgo : ∀ m, some g = (Value.slice (some ⟨g, 0, none⟩) m cap).ownBlock := fun m => by simp [Value.ownBlock]
  refine ⟨fun b hb => h0 b (by rw [← hgo] at hb ⊢; exact hb), rows.eraseIdx k, by rw [List.length_eraseIdx, List.length_eraseIdx, hl], raw_tight hR, fun j x c hx hc => ?_⟩
  rw [List.getElem?_eraseIdx] at hx hc
  have key : ∀ j', xs[j']? = some x → rows[j']? = some c → FK d w1 (fun k => ok k ∧ some k ≠ (Value.slice (some ⟨g, 0, none⟩) n' cap).ownBlock) x c := fun j' h1 h2 =>
    FK_mono (FK_step (hf j' x c h1 h2) (fun b hb hlt => hg.block b hlt (by rw [hgo n]; exact hb.2))) (fun b hb => ⟨hb.1, by rw [← hgo]; rw [← hgo] at hb; exact hb.2⟩)
  by_cases hjk : j < k
  · rw [if_pos hjk] at hx hc
    exact key _ hx hc
  · rw [if_neg hjk] at hx hc
    exact key _ hx hc
/-- What is read as_ a row, as_ rows of cells. -/
theorem reads_raw {Rr : α → List Value → Prop} {sz m : Nat} {A : Option Addr} (h : ReadsRow Rr sz W A m ys) (hR : ∀ x c, Rr x c → c.length = sz ∧ ∀ u ∈ c, u.oneCell' = true) :
    ∃ news : List (List Value), news.length = ys.length ∧ ReadsRow (fun x cs => cs = x ∧ cs.length = sz ∧ ∀ u ∈ cs, u.oneCell' = true) sz W A m news ∧ ∀ (j : Nat) (x : α) (c : List Value), ys[j]? = some x → news[j]? = some c → Rr x c := by
  rcases Nat.eq_zero_or_pos m with h0 | hp
  · have hy : ys = [] := List.eq_nil_of_length_eq_zero (h.1.trans h0)
    subst hy
    exact ⟨[], rfl, ⟨h0 ▸ rfl, h.2.1, fun hp => by omega⟩, fun j x c hx => by simp at hx⟩
  · obtain ⟨ad, rfl, _⟩ := h.2.2 hp
    obtain ⟨inner, hr, hc⟩ := ReadsRow.inner_ h
    refine ⟨chunks sz ys.length inner, chunks_length _ _ _, ⟨by rw [chunks_length]; exact h.1, h.2.1, fun _ => ⟨ad, rfl, fun j p hj => ?_⟩⟩, fun j x c hx hcc => ?_⟩
    · have hjl : j < ys.length := by have := (List.getElem?_eq_some_iff.1 hj).1; rwa [chunks_length] at this
      have hpe := chunks_get hj
      have hq := hR _ _ (hr.2 j _ (List.getElem?_eq_getElem hjl))
      rw [← hpe] at hq
      refine ⟨p, hq.1, ⟨rfl, hq⟩, fun i u hu => ?_⟩
      have hu2 : inner[j * sz + i]? = some u := by
        rw [hpe, List.getElem?_take] at hu
        split at hu
        · rw [List.getElem?_drop] at hu
          exact hu
        · cases hu
      exact hc _ u hu2
    · rw [chunks_get hcc]
      exact hr.2 j x hx
end
section
variable {P : Program} {ops : Array Oper} {rest : List Oper} {o : Oper} {a : Act} {Q : Exit → Act → World → Prop} {Kc : Act → World → Prop} {α : Type}
theorem N_delete_step (d : Kd α) {w0 W : World} (base : Nat) (hw : Region.wanted o (yielded ops a.tmps) = true) (s x : Operand) (t e : TypeId) (ho : o.op = .call { callee := .builtin .append, args := #[s, x], argTypes := #[t, t] })
    (ht : P.underlying t = some (.slice e)) (hinfo : (P.info? e).map (·.size) = some d.sz) {g n c k m c2 : Nat} {A : Option Addr} {xs : List α} {ok : Nat → Prop}
    (hs : a.eval s = .slice (some ⟨g, 0, none⟩) k c) (hx : a.eval x = .slice A m c2) (hA : A = if c = k + 1 then some ⟨g, 0, none⟩ else (some (⟨g, 0, none⟩ : Addr)).map (·.add ((k + 1) * d.sz))) (hm : m = n - (k + 1))
    (HO : N d e W base ok (.slice (some ⟨g, 0, none⟩) n c) xs) (hk : k < n) (HB : Below base w0 W) (hbase : base ≤ W.heap.size)
    (h : ∀ w1, N d e w1 base ok (.slice (some ⟨g, 0, none⟩) (n - 1) c) (xs.eraseIdx k) → Below base w0 w1 → W.grownBy w1 (some g) → Kc (a.put o.dst (.slice (some ⟨g, 0, none⟩) (n - 1) c)) w1) :
    if Region.wanted o (yielded ops a.tmps) = true then Oper.wp P o a W Kc Q else Kc (a.put o.dst undef) W := by
  obtain ⟨hown, rows, hl, hR, hf⟩ := HO
  exact R_delete_step (raw d.sz) base hw s x t e ho ht hinfo hs hx hA hm (raw_any hR) hk HB hbase (fun w1 hr hb hg => h w1 (N_erased hown hl hf hr hg) hb hg)
end
end Kd
end Go.Proofs.YtobhegbhljbjhaaDoorW.PrintWords
