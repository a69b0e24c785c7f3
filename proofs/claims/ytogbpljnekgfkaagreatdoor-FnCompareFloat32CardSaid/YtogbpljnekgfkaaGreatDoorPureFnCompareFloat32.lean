/- FnCompareFloat32: the plain law: what the comparisons answer are the bits that are due. -/
import Derived.Test.YtogbpljnekgfkaaGreatDoorMFnCompareFloat32x3
import Derived.Test.YtogbpljnekgfkaaGreatDoorWSized
theorem Go.Proofs.YtogbpljnekgfkaaGreatDoor.PrintWords.sized_ints : type_of% @Go.Proofs.YtogbpljnekgfkaaGreatDoorW.PrintWords.sized_ints := @Go.Proofs.YtogbpljnekgfkaaGreatDoorW.PrintWords.sized_ints
namespace Go.Proofs.YtogbpljnekgfkaaGreatDoor.Pure
open Go.RowKit Go.Proofs.YtogbpljnekgfkaaGreatDoor.MFnCompareFloat32 Go.Proofs.YtogbpljnekgfkaaGreatDoorW.PrintWords Go.Proofs.YtogbpljnekgfkaaGreatDoorW.PrintLast Go.Proofs.YtogbpljnekgfkaaGreatDoorW.PrintMore
set_option linter.unusedVariables false
set_option linter.unusedSimpArgs false
def Evt {β : Type} (f : Nat → Option β) (r : β) : Prop := ∃ K, ∀ k, K ≤ k → f k = some r
theorem Evt.succ {β : Type} {f : Nat → Option β} (g : Nat → Option β) {r : β} (h : ∀ k, f (k + 1) = g k) (hg : Evt g r) : Evt f r := by
  obtain ⟨K, hK⟩ := hg
  refine ⟨K + 1, fun k hk => ?_⟩
  cases k with
  | zero => omega
  | succ k => rw [h]; exact hK k (by omega)
theorem Evt.const {β : Type} (r : β) : Evt (fun _ => some r) r := ⟨0, fun _ _ => rfl⟩
theorem Evt.bind {α β : Type} {f : Nat → Option α} {g : Nat → α → Option β} {a : α} {r : β} (hf : Evt f a) (hg : Evt (fun k => g k a) r) : Evt (fun k => (f k).bind (g k)) r := by
  obtain ⟨K, hK⟩ := hf
  obtain ⟨L, hL⟩ := hg
  refine ⟨K + L, fun k hk => ?_⟩
  show (f k).bind (g k) = some r
  rw [hK k (by omega), Option.bind_some]
  exact hL k (by omega)
theorem Evt.congr {β : Type} {f g : Nat → Option β} {r : β} (h : ∀ k, f k = g k) (hg : Evt g r) : Evt f r := by
  obtain ⟨K, hK⟩ := hg
  exact ⟨K, fun k hk => (h k).trans (hK k hk)⟩
theorem rd_nat {l : List Int} {i : Nat} (h : i < l.length) : rd l (i : Int) = l[i] := by
  unfold rd
  rw [Int.toNat_natCast, List.getD_eq_getElem?_getD, List.getElem?_eq_getElem h]
  rfl
theorem w64 {x : Nat} (h : x ≤ 3000000000) : wrap64 (x : Int) = (x : Int) := by unfold wrap64; omega
/-- A word as a value of the law's. -/
def V (u : Int) : S56 := ⟨false, u, ⟨#[]⟩, []⟩
def fit (u : Int) : Bool := IntKind.u64.wrap (u * 4294967296) / 4294967296 == u
theorem fits_f (u : Int) : spec_OneFits.f 3 32 false 0 0 0 (⟨#[]⟩ : ByteArray) false ([] : List Int) ([] : List ByteArray) false u (⟨#[]⟩ : ByteArray) ([] : List S56) = some (fit u) := by
  unfold spec_OneFits.f
  rw [if_pos ⟨rfl, rfl, rfl, rfl, rfl⟩]
  rfl
theorem as_loop {l : List Int} (hl : l.length ≤ 2147483647) : ∀ (d i : Nat), i + d = l.length → (∀ j (h : j < l.length), j < i → fit l[j] = true) →
    ∃ r : List S56 × Bool, Evt (fun k => laws_asValues.l0 k ((l.take i).map V) l (l.length : Int) i 3 32 false 0 0 0 (⟨#[]⟩ : ByteArray) false ([] : List Int) ([] : List ByteArray)) r ∧ (r.2 = true → r.1 = l.map V ∧ (∀ x ∈ l, fit x = true) ∧ l.length ≤ 300)
  | 0, i, hi, hj => by
    have c1 : ¬ (i : Int) < (l.length : Int) := by omega
    have e : l.take i = l := List.take_of_length_le (by omega)
    rw [e]
    refine ⟨_, Evt.succ (fun _ => some (l.map V, decide (((l.map V).length : Int) ≤ 300))) (fun k => ?_) (Evt.const _), fun h => ⟨rfl, fun x hx => ?_, ?_⟩⟩
    · simp only [laws_asValues.l0]
      rw [if_neg c1]
    · obtain ⟨j, hjl, rfl⟩ := List.getElem_of_mem hx
      exact hj j hjl (by omega)
    · have := of_decide_eq_true h
      rw [List.length_map] at this
      omega
  | d + 1, i, hi, hj => by
    have hil : i < l.length := by omega
    have c1 : (i : Int) < (l.length : Int) := by omega
    have e3 : wrap64 ((i : Int) + 1) = ((i + 1 : Nat) : Int) := w64 (x := i + 1) (by omega)
    have hc : ((l.take i).map V).length < 2513169434916 := by rw [List.length_map, List.length_take]; omega
    cases hf : fit l[i] with
    | true =>
      obtain ⟨r, r1, r2⟩ := as_loop hl d (i + 1) (by omega) (fun j h hji => by
        by_cases e : j = i
        · subst e; exact hf
        · exact hj j h (by omega))
      refine ⟨r, Evt.succ _ (fun k => ?_) r1, r2⟩
      simp only [laws_asValues.l0]
      rw [if_pos c1, if_pos (Int.natCast_nonneg i), if_pos c1, rd_nat hil, fits_f, hf, Option.bind_some, if_pos rfl, if_pos hc, e3, List.take_succ_eq_append_getElem hil, List.map_append]
      rfl
    | false =>
      refine ⟨(([] : List S56), false), Evt.succ _ (fun k => ?_) (Evt.const _), fun h => by cases h⟩
      simp only [laws_asValues.l0]
      rw [if_pos c1, if_pos (Int.natCast_nonneg i), if_pos c1, rd_nat hil, fits_f, hf, Option.bind_some, if_neg (by decide)]
theorem as_is {l : List Int} (hl : l.length ≤ 2147483647) : ∃ r : List S56 × Bool, Evt (fun k => laws_asValues.f k 3 32 false 0 0 0 (⟨#[]⟩ : ByteArray) false ([] : List Int) ([] : List ByteArray) l) r ∧ (r.2 = true → r.1 = l.map V ∧ (∀ x ∈ l, fit x = true) ∧ l.length ≤ 300) :=
  as_loop hl l.length 0 (Nat.zero_add _) (fun j _ h => absurd h (Nat.not_lt_zero j))
open Ieee in
theorem order_nan {x y : Nat} (h : ((single.read x).isNaN || (single.read y).isNaN) = true) : single.order x y = none := by
  unfold Format.order
  cases hx : single.read x <;> cases hy : single.read y <;> simp_all [Datum.order, Datum.isNaN]
open Ieee in
theorem order_num {x y : Nat} (hx : (single.read x).isNaN = false) (hy : (single.read y).isNaN = false) : ∃ o, single.order x y = some o := by
  unfold Format.order
  cases hx' : single.read x <;> cases hy' : single.read y <;> simp_all [Datum.order, Datum.isNaN]
def px (how i : Nat) : Nat := if how = 2 then 0 else i
def py (how i : Nat) : Nat := if how = 1 then 0 else i
def ans (op : Nat) (c : Int) : Bool := match op with
  | 0 => c == 0
  | 1 => c != 0
  | 2 => decide (c > 0)
  | _ => decide (c ≥ 0)
/-- What the law says of two words. -/
def say (op : Nat) (u v : Int) : Bool := if (Cm.nanF u || Cm.nanF v) = true then (op : Int) == 1 else ans op (Cm.ordF u v)
def due (op how : Nat) (al bl : List Int) (i : Nat) : Bool := say op (al.getD (px how i) 0) (bl.getD (py how i) 0)
theorem answer_f {op : Nat} (hop : op < 4) (c : Int) : laws_answer.f (op : Int) c false = some (ans op c) := by
  unfold laws_answer.f
  rw [if_neg (by decide)]
  match op, hop with
  | 0, _ => rfl
  | 1, _ => rfl
  | 2, _ => rfl
  | 3, _ => rfl
  | _ + 4, h => exact absurd h (by omega)
theorem answer_no (op c : Int) : laws_answer.f op c true = some (op == 1) := by
  unfold laws_answer.f
  rw [if_pos rfl]
theorem place_f (how i : Nat) (hhow : how < 3) : laws_place2.f (how : Int) (i : Int) = some ((px how i : Int), (py how i : Int)) := by
  unfold laws_place2.f px py
  match how, hhow with
  | 0, _ => rfl
  | 1, _ => rfl
  | 2, _ => rfl
  | _ + 3, h => exact absurd h (by omega)
theorem rdV {l : List Int} {i : Nat} (h : i < l.length) : rd_T56 (l.map V) (i : Int) = V (l.getD i 0) := by
  unfold rd_T56
  rw [Int.toNat_natCast, List.getD_eq_getElem?_getD, List.getElem?_map, List.getElem?_eq_getElem h, List.getD_eq_getElem?_getD, List.getElem?_eq_getElem h]
  rfl
theorem due_loop {op how n : Nat} {al bl : List Int} (hop : op < 4) (hhow : how < 3) (hx : ∀ i, i < n → px how i < al.length) (hy : ∀ i, i < n → py how i < bl.length) (hn : n ≤ 300) : ∀ (d i : Nat), i + d = n →
    Evt (fun k => laws_compareDue.l0 k op how (al.map V) (bl.map V) n ((List.range i).map (due op how al bl)) i 3 32 false 0 0 0 (⟨#[]⟩ : ByteArray) false ([] : List Int) ([] : List ByteArray)) ((List.range n).map (due op how al bl))
  | 0, i, hi => by
    have c1 : ¬ (i : Int) < (n : Int) := by omega
    have e : i = n := by omega
    subst e
    refine Evt.succ _ (fun k => ?_) (Evt.const _)
    simp only [laws_compareDue.l0]
    rw [if_neg c1]
  | d + 1, i, hi => by
    have c1 : (i : Int) < (n : Int) := by omega
    have hxi := hx i (by omega)
    have hyi := hy i (by omega)
    have e3 : wrap64 ((i : Int) + 1) = ((i + 1 : Nat) : Int) := w64 (x := i + 1) (by omega)
    have cx : (px how i : Int) < ((al.map V).length : Int) := by rw [List.length_map]; omega
    have cy : (py how i : Int) < ((bl.map V).length : Int) := by rw [List.length_map]; omega
    have hc : ((List.range i).map (due op how al bl)).length < 140737488355328 := by rw [List.length_map, List.length_range]; omega
    have en : ∀ (u : Int), spec_NotNumber.f 3 32 false 0 0 0 (⟨#[]⟩ : ByteArray) false ([] : List Int) ([] : List ByteArray) (V u).f0 (V u).f1 (V u).f2 (V u).f3 = some (Cm.nanF u) := fun u => by
      unfold spec_NotNumber.f
      rw [if_pos ⟨rfl, rfl, rfl⟩]
      rfl
    have eo : ∀ (u v : Int), Cm.nanF u = false → Cm.nanF v = false → spec_Order.f 3 32 false 0 0 0 (⟨#[]⟩ : ByteArray) false ([] : List Int) ([] : List ByteArray) (V u).f0 (V u).f1 (V u).f2 (V u).f3 (V v).f0 (V v).f1 (V v).f2 (V v).f3 = some (Cm.ordF u v) := fun u v h1 h2 => by
      unfold spec_Order.f
      rw [if_pos ⟨rfl, rfl, h1, h2⟩]
      rfl
    obtain ⟨u, hu⟩ : ∃ u, u = al.getD (px how i) 0 := ⟨_, rfl⟩
    obtain ⟨v, hv⟩ : ∃ v, v = bl.getD (py how i) 0 := ⟨_, rfl⟩
    have ed : due op how al bl i = say op u v := by rw [hu, hv]; rfl
    have hr1 : rd_T56 (al.map V) (px how i : Int) = V u := by rw [rdV hxi, hu]
    have hr2 : rd_T56 (bl.map V) (py how i : Int) = V v := by rw [rdV hyi, hv]
    have hnext := due_loop hop hhow hx hy hn d (i + 1) (by omega)
    rw [List.range_succ, List.map_append, List.map_singleton, ed] at hnext
    cases n1 : Cm.nanF u with
    | true =>
      have es : say op u v = ((op : Int) == 1) := by unfold say; rw [n1, Bool.true_or, if_pos rfl]
      rw [es] at hnext
      refine Evt.succ (fun k => laws_compareDue.j1 k op how (al.map V) (bl.map V) n ((List.range i).map (due op how al bl)) i (px how i) (py how i) true 3 32 false 0 0 0 (⟨#[]⟩ : ByteArray) false ([] : List Int) ([] : List ByteArray)) (fun k => ?_) (Evt.succ _ (fun k => ?_) hnext)
      · simp only [laws_compareDue.l0]
        rw [if_pos c1, place_f how i hhow, Option.bind_some, if_pos (Int.natCast_nonneg _), if_pos cx, hr1, en, Option.bind_some, n1, if_pos rfl]
      · simp only [laws_compareDue.j1]
        rw [if_pos trivial, answer_no, Option.bind_some, if_pos hc, e3]
    | false =>
      cases n2 : Cm.nanF v with
      | true =>
        have es : say op u v = ((op : Int) == 1) := by unfold say; rw [n2, Bool.or_true, if_pos rfl]
        rw [es] at hnext
        refine Evt.succ (fun k => laws_compareDue.j1 k op how (al.map V) (bl.map V) n ((List.range i).map (due op how al bl)) i (px how i) (py how i) true 3 32 false 0 0 0 (⟨#[]⟩ : ByteArray) false ([] : List Int) ([] : List ByteArray)) (fun k => ?_) (Evt.succ _ (fun k => ?_) hnext)
        · simp only [laws_compareDue.l0]
          rw [if_pos c1, place_f how i hhow, Option.bind_some, if_pos (Int.natCast_nonneg _), if_pos cx, hr1, en, Option.bind_some, n1, if_neg (by decide), if_pos (Int.natCast_nonneg _), if_pos cy, hr2, en, Option.bind_some, n2]
        · simp only [laws_compareDue.j1]
          rw [if_pos trivial, answer_no, Option.bind_some, if_pos hc, e3]
      | false =>
        have es : say op u v = ans op (Cm.ordF u v) := by unfold say; rw [n1, n2, Bool.or_self, if_neg (by decide)]
        rw [es] at hnext
        refine Evt.succ (fun k => laws_compareDue.j1 k op how (al.map V) (bl.map V) n ((List.range i).map (due op how al bl)) i (px how i) (py how i) false 3 32 false 0 0 0 (⟨#[]⟩ : ByteArray) false ([] : List Int) ([] : List ByteArray)) (fun k => ?_) (Evt.succ _ (fun k => ?_) hnext)
        · simp only [laws_compareDue.l0]
          rw [if_pos c1, place_f how i hhow, Option.bind_some, if_pos (Int.natCast_nonneg _), if_pos cx, hr1, en, Option.bind_some, n1, if_neg (by decide), if_pos (Int.natCast_nonneg _), if_pos cy, hr2, en, Option.bind_some, n2]
        · simp only [laws_compareDue.j1]
          rw [if_neg (by decide), if_pos (Int.natCast_nonneg _), if_pos cx, if_pos (Int.natCast_nonneg _), if_pos cy, hr1, hr2, eo u v n1 n2, Option.bind_some, answer_f hop, Option.bind_some, if_pos hc, e3]
theorem due_res {op how : Nat} (hop : op < 4) (al bl : List Int) (i : Nat) : Cm.resF op how al bl i = due op how al bl i := by
  show Cm.cmpF op (al.getD (px how i) 0 % 4294967296) (bl.getD (py how i) 0 % 4294967296) = say op _ _
  generalize al.getD (px how i) 0 = u
  generalize bl.getD (py how i) 0 = v
  have hO : FloatKind.f32.format.order (u % 4294967296).toNat (v % 4294967296).toNat = Ieee.single.order (u % 4294967296).toNat (v % 4294967296).toNat := rfl
  cases hn : (Cm.nanF u || Cm.nanF v) with
  | true =>
    have ho := order_nan hn
    unfold say Cm.cmpF
    rw [hn, if_pos rfl, hO, ho]
    match op, hop with
    | 0, _ => rfl
    | 1, _ => rfl
    | 2, _ => rfl
    | 3, _ => rfl
    | _ + 4, h => exact absurd h (by omega)
  | false =>
    obtain ⟨n1, n2⟩ := Bool.or_eq_false_iff.1 hn
    obtain ⟨o, ho⟩ := order_num n1 n2
    unfold say Cm.cmpF
    rw [hn, if_neg (by decide), hO, ho, Cm.ordF_if ho.symm]
    match op, hop with
    | 0, _ => cases o <;> rfl
    | 1, _ => cases o <;> rfl
    | 2, _ => cases o <;> rfl
    | 3, _ => cases o <;> rfl
    | _ + 4, h => exact absurd h (by omega)
set_option maxRecDepth 100000 in
theorem and_bit : ∀ (x : Fin 256) (j : Fin 8), (Go.bits .and .u8 (shr .u8 (x.val : Int) (j.val : Int)) 1 == 1) = (x.val / 2 ^ j.val % 2 == 1) := by decide +kernel
theorem bit_f {l : List Int} (hb : Cm.Bytes l) {p : Nat} (hp : p < 8 * l.length) (hl : l.length ≤ 1000) : spec_Bit.f l (p : Int) = some (Cm.bit l p) := by
  have e1 : wrap64 (Int.tdiv (p : Int) 8) = ((p / 8 : Nat) : Int) := by rw [Int.tdiv_eq_ediv_of_nonneg (by omega)]; unfold wrap64; omega
  have e2 : Int.tmod (p : Int) 8 = ((p % 8 : Nat) : Int) := by rw [Int.tmod_eq_emod_of_nonneg (by omega)]; omega
  have hd : p / 8 < l.length := by omega
  obtain ⟨x, hx⟩ := Cm.byte_fin hb (p / 8)
  unfold spec_Bit.f Cm.bit
  rw [e1, e2, if_pos (Int.natCast_nonneg _), if_pos (by omega), if_pos (Int.natCast_nonneg _), show rd l ((p / 8 : Nat) : Int) = (x.val : Int) by rw [← hx]; unfold rd; rw [Int.toNat_natCast], hx]
  have := and_bit x ⟨p % 8, Nat.mod_lt _ (by decide)⟩
  rw [this]
  rfl
theorem bits_hi {ml : List Int} (hb : Cm.Bytes ml) (hl : ml.length ≤ 100) {fr n : Nat} {g : Nat → Bool} (hfn : fr + n ≤ 8 * ml.length) : ∀ (d i : Nat), i + d = n →
    Evt (fun k => laws_bitsDue.l1 k (Cm.S ml fr g n) fr ((List.range n).map g) (n : Int) i) true
  | 0, i, hi => by
    have c1 : ¬ (i : Int) < (n : Int) := by omega
    refine Evt.succ _ (fun k => ?_) (Evt.const _)
    simp only [laws_bitsDue.l1]
    rw [if_neg c1]
  | d + 1, i, hi => by
    have c1 : (i : Int) < (n : Int) := by omega
    have c2 : (i : Int) < (((List.range n).map g).length : Int) := by rw [List.length_map, List.length_range]; exact c1
    have e3 : wrap64 ((i : Int) + 1) = ((i + 1 : Nat) : Int) := w64 (x := i + 1) (by omega)
    have e4 : wrap64 ((fr : Int) + (i : Int)) = ((fr + i : Nat) : Int) := w64 (x := fr + i) (by omega)
    have e5 : rdOf false ((List.range n).map g) (i : Int) = g i := by
      unfold rdOf
      rw [Int.toNat_natCast, List.getD_eq_getElem?_getD, List.getElem?_map, List.getElem?_range (by omega)]
      rfl
    have e6 : Cm.bit (Cm.S ml fr g n) (fr + i) = g i := by
      unfold Cm.S
      rw [Cm.bit_setBits _ _ hb (by rw [List.length_map, List.length_range]; exact hfn), if_pos (by rw [List.length_map, List.length_range]; omega), show fr + i - fr = i by omega, List.getD_eq_getElem?_getD, List.getElem?_map, List.getElem?_range (by omega)]
      rfl
    refine Evt.succ _ (fun k => ?_) (bits_hi (g := g) hb hl hfn d (i + 1) (by omega))
    simp only [laws_bitsDue.l1]
    rw [if_pos c1, if_pos (Int.natCast_nonneg i), if_pos c2, e4, bit_f (Cm.S_bytes hb _ _ _) (by rw [Cm.S_len]; omega) (by rw [Cm.S_len]; omega), Option.bind_some, e5, e6, if_neg (by simp), e3]
theorem bits_lo {ml : List Int} (hb : Cm.Bytes ml) (hl : ml.length ≤ 100) {fr n : Nat} {g : Nat → Bool} (hfn : fr + n ≤ 8 * ml.length) : ∀ (d i : Nat), i + d = fr →
    Evt (fun k => laws_bitsDue.l0 k ml (Cm.S ml fr g n) fr ((List.range n).map g) i) true
  | 0, i, hi => by
    have c1 : ¬ (i : Int) < (fr : Int) := by omega
    refine Evt.succ _ (fun k => ?_) (bits_hi (g := g) hb hl hfn n 0 (Nat.zero_add _))
    simp only [laws_bitsDue.l0]
    rw [if_neg c1, List.length_map, List.length_range]
    rfl
  | d + 1, i, hi => by
    have c1 : (i : Int) < (fr : Int) := by omega
    have e3 : wrap64 ((i : Int) + 1) = ((i + 1 : Nat) : Int) := w64 (x := i + 1) (by omega)
    have e6 : Cm.bit (Cm.S ml fr g n) i = Cm.bit ml i := by
      unfold Cm.S
      rw [Cm.bit_setBits _ _ hb (by rw [List.length_map, List.length_range]; exact hfn), if_neg (by omega)]
    refine Evt.succ _ (fun k => ?_) (bits_lo (g := g) hb hl hfn d (i + 1) (by omega))
    simp only [laws_bitsDue.l0]
    rw [if_pos c1, bit_f hb (by omega) (by omega), Option.bind_some, bit_f (Cm.S_bytes hb _ _ _) (by rw [Cm.S_len]; omega) (by rw [Cm.S_len]; omega), Option.bind_some, e6, if_neg (by simp), e3]
def Rng (l : List Int) : Prop := ∀ x ∈ l, 0 ≤ x ∧ x < 18446744073709551616
theorem awake : impl_CompareFloat32.f 0 0 ([1065353216] : List Int) ([1065353216] : List Int) ([0] : List Int) 0 = some ([1], true) := by decide +kernel
theorem j2_true (k : Nat) (a0 a1 : Int) (l2 l3 l4 : List Int) (a5 : Int) (n : Int) (p q : List S56) : laws_FnCompareFloat32.j2 (k + 1) a0 a1 l2 l3 l4 a5 true n p q true = some true := by
  simp only [laws_FnCompareFloat32.j2]
  rw [if_pos trivial]
theorem j2_is {op how fr n : Nat} {al bl ml : List Int} (hop : op < 4) (hhow : how < 3) (hfr : fr ≤ 7) (ha : Rng al) (hb : Rng bl) (hm : Cm.Bytes ml) (fa : ∀ x ∈ al, fit x = true) (fb : ∀ x ∈ bl, fit x = true) (hal : al.length ≤ 300) (hbl : bl.length ≤ 300) (hml : ml.length ≤ 100)
    (h0 : how = 0 → n = al.length ∧ n = bl.length) (h1 : how = 1 → n = al.length ∧ 0 < bl.length) (h2 : how = 2 → n = bl.length ∧ 0 < al.length) (hfn : fr + n ≤ 8 * ml.length) :
    Evt (fun k => laws_FnCompareFloat32.j2 k op how al bl ml fr true n (al.map V) (bl.map V) false) true := by
  have hx : ∀ i, i < n → px how i < al.length := fun i hi => by
    unfold px
    match how, hhow with
    | 0, _ => have := h0 rfl; simp; omega
    | 1, _ => have := h1 rfl; simp; omega
    | 2, _ => have := h2 rfl; simp; omega
    | _ + 3, h => exact absurd h (by omega)
  have hy : ∀ i, i < n → py how i < bl.length := fun i hi => by
    unfold py
    match how, hhow with
    | 0, _ => have := h0 rfl; simp; omega
    | 1, _ => have := h1 rfl; simp; omega
    | 2, _ => have := h2 rfl; simp; omega
    | _ + 3, h => exact absurd h (by omega)
  have hn : n = (if (how : Int) = 2 then bl.length else al.length : Nat) := by
    match how, hhow with
    | 0, _ => rw [if_neg (by decide)]; exact (h0 rfl).1
    | 1, _ => rw [if_neg (by decide)]; exact (h1 rfl).1
    | 2, _ => rw [if_pos (by decide)]; exact (h2 rfl).1
    | _ + 3, h => exact absurd h (by omega)
  have hn300 : n ≤ 300 := by
    rw [hn]
    split <;> omega
  have hi : impl_CompareFloat32.f op how al bl ml fr = some (Cm.S ml fr (due op how al bl) n, true) := by
    unfold impl_CompareFloat32.f
    rw [if_pos ⟨by omega, by omega, by omega, by omega, by omega, by omega, hal, hbl, hml, fun e => by have := h0 (by omega); omega, fun e => (h1 (by omega)).2, fun e => (h2 (by omega)).2, by rw [← hn]; omega, hm⟩, ← hn, Int.toNat_natCast, Int.toNat_natCast, Int.toNat_natCast]
    rw [Cm.S_congr (h := due op how al bl) fun i hi => due_res hop al bl i]
  refine Evt.succ (fun k => (laws_compareDue.f k 3 32 false 0 0 0 (⟨#[]⟩ : ByteArray) false ([] : List Int) ([] : List ByteArray) op how (al.map V) (bl.map V) n).bind fun t170 => ((laws_bitsDue.f k ml (Cm.S ml fr (due op how al bl) n) fr t170).bind fun t173 => (if t173 = true then (some true) else (some false)))) (fun k => ?_) ?_
  · simp only [laws_FnCompareFloat32.j2]
    rw [if_neg (by decide), hi, Option.bind_some, if_pos rfl]
  · refine Evt.bind (g := fun k t170 => ((laws_bitsDue.f k ml (Cm.S ml fr (due op how al bl) n) fr t170).bind fun t173 => (if t173 = true then (some true) else (some false)))) (due_loop hop hhow hx hy hn300 n 0 (Nat.zero_add _)) ?_
    refine Evt.bind (g := fun _ t173 => (if t173 = true then (some true) else (some false))) (a := true) ?_ (Evt.congr (fun k => if_pos rfl) (Evt.const true))
    unfold laws_bitsDue.f
    refine Evt.congr (fun k => if_pos (by rw [Cm.S_len])) (bits_lo (g := due op how al bl) hm hml hfn fr 0 (Nat.zero_add _))
theorem j1_is {a0 a1 a5 : Int} {al bl ml : List Int} (hal : al.length ≤ 2147483647) (hbl : bl.length ≤ 2147483647) (ha : Rng al) (hb : Rng bl) (hm : Cm.Bytes ml) : Evt (fun k => laws_FnCompareFloat32.j1 k a0 a1 al bl ml a5 true) true := by
  obtain ⟨⟨p, fp⟩, p1, p2⟩ := as_is hal
  obtain ⟨⟨q, fq⟩, q1, q2⟩ := as_is hbl
  have hjt : ∀ n : Int, Evt (fun k => laws_FnCompareFloat32.j2 k a0 a1 al bl ml a5 true n p q true) true := fun n => Evt.succ (fun _ => some true) (fun k => j2_true k a0 a1 al bl ml a5 n p q) (Evt.const true)
  obtain ⟨⟨n, is⟩, hp⟩ : ∃ r, laws_pairs2.f a1 (al.length : Int) (bl.length : Int) = some r := by
    unfold laws_pairs2.f
    split
    · exact ⟨_, rfl⟩
    · split
      · exact ⟨_, rfl⟩
      · split <;> exact ⟨_, rfl⟩
  refine Evt.succ (fun k => ((laws_asValues.f k 3 32 false 0 0 0 (⟨#[]⟩ : ByteArray) false ([] : List Int) ([] : List ByteArray) al).bind fun bt157 => ((laws_asValues.f k 3 32 false 0 0 0 (⟨#[]⟩ : ByteArray) false ([] : List Int) ([] : List ByteArray) bl).bind fun bt161 => (if is = true then (if bt157.2 = true then (if bt161.2 = true then (if a0 < 0 then (laws_FnCompareFloat32.j2 k a0 a1 al bl ml a5 true n bt157.1 bt161.1 true) else (if a0 > 3 then (laws_FnCompareFloat32.j2 k a0 a1 al bl ml a5 true n bt157.1 bt161.1 true) else ((laws_room.f ml a5 n).bind fun t165 => (laws_FnCompareFloat32.j2 k a0 a1 al bl ml a5 true n bt157.1 bt161.1 (!t165))))) else (laws_FnCompareFloat32.j2 k a0 a1 al bl ml a5 true n bt157.1 bt161.1 true)) else (laws_FnCompareFloat32.j2 k a0 a1 al bl ml a5 true n bt157.1 bt161.1 true)) else (laws_FnCompareFloat32.j2 k a0 a1 al bl ml a5 true n bt157.1 bt161.1 true))))) (fun k => ?_) ?_
  · simp only [laws_FnCompareFloat32.j1]
    rw [hp, Option.bind_some]
  · refine Evt.bind p1 (Evt.bind q1 ?_)
    cases is with
    | false => exact Evt.congr (fun k => if_neg (by decide)) (hjt n)
    | true =>
      refine Evt.congr (fun k => if_pos rfl) ?_
      cases fp with
      | false => exact Evt.congr (fun k => if_neg (show ¬ (false = true) by decide)) (hjt n)
      | true =>
        refine Evt.congr (fun k => if_pos rfl) ?_
        cases fq with
        | false => exact Evt.congr (fun k => if_neg (show ¬ (false = true) by decide)) (hjt n)
        | true =>
          refine Evt.congr (fun k => if_pos rfl) ?_
          by_cases c0 : a0 < 0
          · exact Evt.congr (fun k => if_pos c0) (hjt n)
          refine Evt.congr (fun k => if_neg c0) ?_
          by_cases c3 : a0 > 3
          · exact Evt.congr (fun k => if_pos c3) (hjt n)
          refine Evt.congr (fun k => if_neg c3) ?_
          obtain ⟨e1, fa, la⟩ := p2 rfl
          obtain ⟨e2, fb, lb⟩ := q2 rfl
          simp only at e1 e2
          subst e1 e2
          obtain ⟨ro, hro⟩ : ∃ r, laws_room.f ml a5 n = some r := by
            unfold laws_room.f
            repeat (first | exact ⟨_, rfl⟩ | split)
          refine Evt.congr (g := fun k => laws_FnCompareFloat32.j2 k a0 a1 al bl ml a5 true n (al.map V) (bl.map V) (!ro)) (fun k => by rw [hro, Option.bind_some]) ?_
          cases ro with
          | false => exact hjt n
          | true =>
            have hroom : 0 ≤ a5 ∧ a5 ≤ 7 ∧ n ≤ 300 ∧ (ml.length : Int) ≤ 100 ∧ wrap64 (a5 + n) ≤ wrap64 (8 * (ml.length : Int)) := by
              unfold laws_room.f at hro
              by_cases g1 : a5 ≥ 0
              · rw [if_pos g1] at hro
                by_cases g2 : a5 ≤ 7
                · rw [if_pos g2] at hro
                  by_cases g3 : n ≤ 300
                  · rw [if_pos g3] at hro
                    by_cases g4 : (ml.length : Int) ≤ 100
                    · rw [if_pos g4] at hro
                      exact ⟨g1, g2, g3, g4, of_decide_eq_true (Option.some.inj hro)⟩
                    · rw [if_neg g4] at hro; cases hro
                  · rw [if_neg g3] at hro; cases hro
                · rw [if_neg g2] at hro; cases hro
              · rw [if_neg g1] at hro; cases hro
            obtain ⟨r1, r2, r3, r4, r5⟩ := hroom
            obtain ⟨op, rfl⟩ := Int.eq_ofNat_of_zero_le (show 0 ≤ a0 by omega)
            obtain ⟨fr, rfl⟩ := Int.eq_ofNat_of_zero_le r1
            have hpairs : ∃ how nn : Nat, a1 = (how : Int) ∧ n = (nn : Int) ∧ how < 3 ∧ (how = 0 → nn = al.length ∧ nn = bl.length) ∧ (how = 1 → nn = al.length ∧ 0 < bl.length) ∧ (how = 2 → nn = bl.length ∧ 0 < al.length) := by
              unfold laws_pairs2.f at hp
              by_cases g1 : a1 = 0
              · rw [if_pos g1] at hp
                have h1 := Prod.mk.inj (Option.some.inj hp)
                have h2 : (al.length : Int) = (bl.length : Int) := by simpa using h1.2
                exact ⟨0, al.length, by omega, h1.1.symm, by decide, fun _ => ⟨rfl, by omega⟩, fun h => by omega, fun h => by omega⟩
              rw [if_neg g1] at hp
              by_cases g2 : a1 = 1
              · rw [if_pos g2] at hp
                have h1 := Prod.mk.inj (Option.some.inj hp)
                have h2 : (bl.length : Int) > 0 := of_decide_eq_true h1.2
                exact ⟨1, al.length, by omega, h1.1.symm, by decide, fun h => by omega, fun _ => ⟨rfl, by omega⟩, fun h => by omega⟩
              rw [if_neg g2] at hp
              by_cases g3 : a1 = 2
              · rw [if_pos g3] at hp
                have h1 := Prod.mk.inj (Option.some.inj hp)
                have h2 : (al.length : Int) > 0 := of_decide_eq_true h1.2
                exact ⟨2, bl.length, by omega, h1.1.symm, by decide, fun h => by omega, fun h => by omega, fun _ => ⟨rfl, by omega⟩⟩
              rw [if_neg g3] at hp
              have h1 := Prod.mk.inj (Option.some.inj hp)
              cases h1.2
            obtain ⟨how, nn, rfl, rfl, k1, k2, k3, k4⟩ := hpairs
            have r5' : fr + nn ≤ 8 * ml.length := by
              unfold wrap64 at r5
              omega
            exact j2_is (by omega) k1 (by omega) ha hb hm fa fb la lb (by omega) k2 k3 k4 r5'
theorem j0_true (a0 a1 : Int) (l2 l3 l4 : List Int) (a5 : Int) : Evt (fun k => laws_FnCompareFloat32.j0 k a0 a1 l2 l3 l4 a5 true) true := by
  refine Evt.succ (fun _ => some true) (fun k => ?_) (Evt.const true)
  simp only [laws_FnCompareFloat32.j0]
  rw [if_pos trivial]
theorem FnCompareFloat32 : laws_FnCompareFloat32.Pure := by
  intro a0 a1 l2 l3 l4 a5 _ _ _ _ hw2 _ _ hw3 _ _ hw4 _
  have ha : Rng l2 := fun x hx => by
    have := hw2 x hx
    simp [Lit.wf, show IntKind.u64.min = 0 from by decide, show IntKind.u64.max = 18446744073709551615 from by decide] at this
    omega
  have hb : Rng l3 := fun x hx => by
    have := hw3 x hx
    simp [Lit.wf, show IntKind.u64.min = 0 from by decide, show IntKind.u64.max = 18446744073709551615 from by decide] at this
    omega
  have hm : Cm.Bytes l4 := fun x hx => by
    have := hw4 x hx
    simp [Lit.wf, show IntKind.u8.min = 0 from by decide, show IntKind.u8.max = 255 from by decide] at this
    omega
  have key : Evt (fun k => laws_FnCompareFloat32.f k a0 a1 l2 l3 l4 a5) true := by
    unfold laws_FnCompareFloat32.f
    by_cases h1 : (l2.length : Int) > 2147483647
    · exact Evt.congr (fun k => if_pos h1) (j0_true a0 a1 l2 l3 l4 a5)
    refine Evt.congr (fun k => if_neg h1) ?_
    by_cases h2 : (l3.length : Int) > 2147483647
    · exact Evt.congr (fun k => if_pos h2) (j0_true a0 a1 l2 l3 l4 a5)
    refine Evt.congr (fun k => if_neg h2) ?_
    by_cases h3 : (l4.length : Int) > 2147483647
    · exact Evt.congr (fun k => by rw [decide_eq_true h3]) (j0_true a0 a1 l2 l3 l4 a5)
    refine Evt.congr (g := fun k => laws_FnCompareFloat32.j0 k a0 a1 l2 l3 l4 a5 false) (fun k => by rw [decide_eq_false h3]) ?_
    refine Evt.succ (fun k => laws_FnCompareFloat32.j1 k a0 a1 l2 l3 l4 a5 true) (fun k => ?_) (j1_is (by omega) (by omega) ha hb hm)
    simp only [laws_FnCompareFloat32.j0]
    rw [if_neg (by decide), awake, Option.bind_some, if_pos rfl, if_pos (by decide), if_pos (by decide)]
    rfl
  obtain ⟨K, hK⟩ := key
  exact ⟨K, hK K (Nat.le_refl K)⟩

end Go.Proofs.YtogbpljnekgfkaaGreatDoor.Pure
