/- Keys, each once; the bytes of a dictionary. -/
import Derived.Test.YtobhegbhljbjhaaDoorProg
namespace Go.Proofs.YtobhegbhljbjhaaDoor.Vk
set_option linter.unusedVariables false
set_option linter.unusedSimpArgs false
/-- The number that bytes stand for, the lowest first. -/
def num : List Int → Nat
  | [] => 0
  | x :: r => x.toNat + 256 * num r
def Bytes (l : List Int) : Prop := ∀ x ∈ l, 0 ≤ x ∧ x < 256
theorem num_cons (x : Int) (r : List Int) : num (x :: r) = x.toNat + 256 * num r := rfl
theorem Bytes.tail {x : Int} {l : List Int} (h : Bytes (x :: l)) : Bytes l := fun y hy => h y (List.mem_cons_of_mem _ hy)
theorem Bytes.append {a b : List Int} (ha : Bytes a) (hb : Bytes b) : Bytes (a ++ b) := fun x hx => (List.mem_append.1 hx).elim (ha x) (hb x)
theorem Bytes.take {l : List Int} (h : Bytes l) (k : Nat) : Bytes (l.take k) := fun x hx => h x (List.mem_of_mem_take hx)
theorem Bytes.drop {l : List Int} (h : Bytes l) (k : Nat) : Bytes (l.drop k) := fun x hx => h x (List.mem_of_mem_drop hx)
theorem Bytes.zeros (n : Nat) : Bytes (List.replicate n 0) := fun x hx => by
  have := List.eq_of_mem_replicate hx
  omega
theorem num_zeros (n : Nat) : num (List.replicate n 0) = 0 := by
  induction n with
  | zero => rfl
  | succ n ih => rw [List.replicate_succ, num_cons, ih]; rfl
theorem num_append (a b : List Int) : num (a ++ b) = num a + 256 ^ a.length * num b := by
  induction a with
  | nil => simp [num]
  | cons x r ih =>
    rw [List.cons_append, num_cons, num_cons, ih, List.length_cons, Nat.pow_succ, Nat.mul_add, ← Nat.mul_assoc, Nat.mul_comm (256 ^ r.length) 256]
    omega
theorem num_lt {l : List Int} (h : Bytes l) : num l < 256 ^ l.length := by
  induction l with
  | nil => simp [num]
  | cons x r ih =>
    have hx := h x List.mem_cons_self
    have := ih h.tail
    rw [num_cons, List.length_cons, Nat.pow_succ]
    omega
theorem num_split (l : List Int) (k : Nat) (h : k ≤ l.length) : num l = num (l.take k) + 256 ^ k * num (l.drop k) := by
  have := num_append (l.take k) (l.drop k)
  rw [List.take_append_drop, List.length_take, Nat.min_eq_left h] at this
  exact this
/-- The lowest k bytes of a number. -/
def low (k v : Nat) : List Int := (List.range k).map fun i => ((v / 256 ^ i % 256 : Nat) : Int)
theorem low_len (k v : Nat) : (low k v).length = k := by simp [low]
theorem low_bytes (k v : Nat) : Bytes (low k v) := by
  intro x hx
  obtain ⟨i, _, rfl⟩ := List.mem_map.1 hx
  have := Nat.mod_lt (v / 256 ^ i) (show 0 < 256 by decide)
  omega
theorem low_succ (k v : Nat) : low (k + 1) v = ((v % 256 : Nat) : Int) :: low k (v / 256) := by
  unfold low
  rw [List.range_succ_eq_map, List.map_cons, List.map_map]
  congr 1
  · simp
  · refine List.map_congr_left fun i _ => ?_
    simp only [Function.comp]
    rw [Nat.pow_succ, Nat.mul_comm, Nat.div_div_eq_div_mul]
theorem num_low (k v : Nat) : num (low k v) = v % 256 ^ k := by
  induction k generalizing v with
  | zero => simp [low, num, Nat.mod_one]
  | succ k ih =>
    rw [low_succ, num_cons, ih, Nat.pow_succ, Nat.mul_comm (256 ^ k) 256, Nat.mod_mul, Int.toNat_natCast]
/-- Bytes laid over others from a place on. -/
def over (D : List Int) (o : Nat) (P : List Int) : List Int := D.take o ++ P ++ D.drop (o + P.length)
theorem over_len {D P : List Int} {o : Nat} (h : o + P.length ≤ D.length) : (over D o P).length = D.length := by
  unfold over
  rw [List.length_append, List.length_append, List.length_take, List.length_drop]
  omega
theorem over_bytes {D P : List Int} (o : Nat) (hD : Bytes D) (hP : Bytes P) : Bytes (over D o P) := ((hD.take o).append hP).append (hD.drop _)
/-- Where a bit writer stands: D what is written, o bytes of it full, t bits (B) not yet laid; X the number of n bits that all of them are. -/
structure Rel (D : List Int) (o t B X n : Nat) : Prop where
  bytes : Bytes D
  room : o ≤ D.length
  zero : num D < 256 ^ o
  bits : t < 64
  buf : B < 2 ^ t
  all : X = num D + 256 ^ o * B
  at_ : n = 8 * o + t
theorem p256 (o : Nat) : 256 ^ o = 2 ^ (8 * o) := by rw [Nat.pow_mul]
/-! ## Keys, each once -/
def addAll {α : Type} [DecidableEq α] : List α → List α → List α
  | [], out => out
  | k :: l, out => addAll l (if k ∈ out then out else out ++ [k])
theorem addAll_append {α : Type} [DecidableEq α] : ∀ (l m out : List α), addAll (l ++ m) out = addAll m (addAll l out)
  | [], _, _ => rfl
  | k :: l, m, out => addAll_append l m _
theorem mem_addAll {α : Type} [DecidableEq α] {x : α} : ∀ (l out : List α), x ∈ addAll l out ↔ x ∈ out ∨ x ∈ l
  | [], out => by simp [addAll]
  | k :: l, out => by
    unfold addAll
    rw [mem_addAll l]
    by_cases h : k ∈ out
    · rw [if_pos h, List.mem_cons]
      constructor
      · rintro (a | a)
        · exact .inl a
        · exact .inr (.inr a)
      · rintro (a | a | a)
        · exact .inl a
        · subst a; exact .inl h
        · exact .inr a
    · rw [if_neg h, List.mem_append, List.mem_singleton, List.mem_cons, or_assoc]
theorem addAll_nodup {α : Type} [DecidableEq α] : ∀ (l out : List α), out.Nodup → (addAll l out).Nodup
  | [], _, h => h
  | k :: l, out, h => by
    unfold addAll
    refine addAll_nodup l _ ?_
    by_cases hk : k ∈ out
    · rw [if_pos hk]; exact h
    · rw [if_neg hk]
      refine List.nodup_append.2 ⟨h, by simp, fun a ha b hb => ?_⟩
      rw [List.mem_singleton] at hb
      subst hb
      intro e
      subst e
      exact hk ha
theorem addAll_len {α : Type} [DecidableEq α] : ∀ (l a b : List α), (∀ x ∈ a, x ∈ b) → (addAll l b).length + a.length ≤ (addAll l a).length + b.length
  | [], a, b, _ => by simp [addAll]; omega
  | k :: l, a, b, h => by
    unfold addAll
    by_cases ha : k ∈ a
    · rw [if_pos ha, if_pos (h k ha)]
      exact addAll_len l a b h
    · rw [if_neg ha]
      by_cases hb : k ∈ b
      · rw [if_pos hb]
        have := addAll_len l (a ++ [k]) b (fun x hx => by
          rcases List.mem_append.1 hx with h1 | h1
          · exact h x h1
          · rw [List.mem_singleton] at h1; subst h1; exact hb)
        rw [List.length_append, List.length_singleton] at this
        omega
      · rw [if_neg hb]
        have := addAll_len l (a ++ [k]) (b ++ [k]) (fun x hx => by
          rcases List.mem_append.1 hx with h1 | h1
          · exact List.mem_append_left _ (h x h1)
          · exact List.mem_append_right _ h1)
        rw [List.length_append, List.length_append, List.length_singleton] at this
        omega
theorem addAll_ge {α : Type} [DecidableEq α] : ∀ (l out : List α), out.length ≤ (addAll l out).length
  | [], _ => Nat.le_refl _
  | k :: l, out => by
    unfold addAll
    refine Nat.le_trans ?_ (addAll_ge l _)
    split
    · exact Nat.le_refl _
    · simp
/-! ## The bytes of a dictionary -/
theorem drop_blocks {α : Type} (f : α → List Int) (sz : Nat) (hf : ∀ x, (f x).length = sz) : ∀ (l : List α) (j : Nat), (l.flatMap f).drop (sz * j) = (l.drop j).flatMap f
  | [], j => by simp
  | x :: l, 0 => by simp
  | x :: l, j + 1 => by
    rw [List.flatMap_cons, Nat.mul_succ, Nat.add_comm, ← List.drop_drop, List.drop_left' (hf x), drop_blocks f sz hf l j, List.drop_succ_cons]
theorem blocks_len {α : Type} (f : α → List Int) (sz : Nat) (hf : ∀ x, (f x).length = sz) : ∀ (l : List α), (l.flatMap f).length = sz * l.length
  | [] => by simp
  | x :: l => by rw [List.flatMap_cons, List.length_append, hf, blocks_len f sz hf l, List.length_cons, Nat.mul_succ]; omega
theorem block_at {α : Type} (f : α → List Int) (sz : Nat) (hf : ∀ x, (f x).length = sz) (l : List α) (R : List Int) (j : Nat) (h : j < l.length) : ((l.flatMap f ++ R).drop (sz * j)).take sz = f l[j] := by
  rw [List.drop_append_of_le_length (by rw [blocks_len f sz hf]; exact Nat.mul_le_mul_left _ (Nat.le_of_lt h)), drop_blocks f sz hf, List.drop_eq_getElem_cons h, List.flatMap_cons, List.append_assoc, List.take_left' (hf _)]
theorem text_at {α : Type} (f : α → List Int) (K : List α) (i : Nat) (h : i < K.length) : ((K.flatMap f).drop ((K.take i).flatMap f).length).take (f K[i]).length = f K[i] := by
  have e : K.flatMap f = (K.take i).flatMap f ++ (f K[i] ++ (K.drop (i + 1)).flatMap f) := by
    rw [← List.flatMap_cons, ← List.drop_eq_getElem_cons h, ← List.flatMap_append, List.take_append_drop]
  rw [e, List.drop_left, List.take_left]
/-- Where the keys end. -/
def offs (f : ByteArray → List Int) : List ByteArray → Nat → List Nat
  | [], _ => []
  | k :: K, a => (a + (f k).length) :: offs f K (a + (f k).length)
theorem offs_len (f : ByteArray → List Int) : ∀ (K : List ByteArray) (a : Nat), (offs f K a).length = K.length
  | [], _ => rfl
  | k :: K, a => by rw [offs, List.length_cons, offs_len f K, List.length_cons]
theorem offs_at (f : ByteArray → List Int) : ∀ (K : List ByteArray) (a i : Nat), i ≤ K.length → (a :: offs f K a).getD i 0 = a + ((K.take i).flatMap f).length
  | K, a, 0, _ => by simp
  | [], a, i + 1, h => by simp at h
  | k :: K, a, i + 1, h => by
    rw [List.getD_cons_succ, offs, offs_at f K _ i (by simpa using h), List.take_succ_cons, List.flatMap_cons, List.length_append]
    omega

end Go.Proofs.YtobhegbhljbjhaaDoor.Vk
