/- The order of keys (the bytes' lexical order), the place of a key in an ascending list, and the sorted-set functions. No Go in sight. -/
import Derived.Sort.Walk0
import Derived.Laws.StructEq
namespace Go.Proofs.Qxb6603837a
/-- a key sorts before another -/
def lt (a b : ByteArray) : Bool := Op.bytesLess a.toList b.toList
theorem toList_inj' {a b : ByteArray} (h : a.toList = b.toList) : a = b := by
  rw [ByteArray.toList_eq, ByteArray.toList_eq] at h
  cases a; cases b
  exact congrArg ByteArray.mk (Array.toList_inj.1 h)
theorem beq_iff (a b : ByteArray) : (a.toList == b.toList) = decide (a = b) := by
  by_cases h : a = b
  · subst h; simp
  · simp only [h, decide_false]
    exact beq_eq_false_iff_ne.2 fun e => h (toList_inj' e)
theorem lt_iff (a b : ByteArray) : lt a b = true ↔ a.toList < b.toList := by simp [lt, bytesLess_eq]
theorem lt_irrefl (a : ByteArray) : lt a a = false := by
  cases h : lt a a
  · rfl
  · exact absurd ((lt_iff a a).1 h) (List.lt_irrefl _)
theorem lt_trans {a b c : ByteArray} (h : lt a b = true) (k : lt b c = true) : lt a c = true := (lt_iff a c).2 (List.lt_trans ((lt_iff a b).1 h) ((lt_iff b c).1 k))
theorem lt_asymm {a b : ByteArray} (h : lt a b = true) : lt b a = false := by
  cases k : lt b a
  · rfl
  · have := lt_trans h k
    rw [lt_irrefl] at this
    cases this
theorem lt_tri {a b : ByteArray} (h : lt a b = false) (k : lt b a = false) : a = b := by
  have h1 : ¬ a.toList < b.toList := fun e => by rw [(lt_iff a b).2 e] at h; cases h
  have h2 : ¬ b.toList < a.toList := fun e => by rw [(lt_iff b a).2 e] at k; cases k
  exact toList_inj' (List.le_antisymm (List.not_lt.1 h2) (List.not_lt.1 h1))
theorem lt_of_lt_le {a b c : ByteArray} (h : lt a b = true) (k : lt c b = false) : lt a c = true := by
  cases e : lt a c
  · cases e2 : lt c a
    · have := lt_tri e e2
      subst this
      rw [h] at k; cases k
    · rw [lt_trans e2 h] at k; cases k
  · rfl
theorem lt_of_le_lt {a b c : ByteArray} (h : lt b a = false) (k : lt b c = true) : lt a c = true := by
  cases e : lt a c
  · cases e2 : lt c a
    · have := lt_tri e e2
      subst this
      rw [k] at h; cases h
    · rw [lt_trans k e2] at h; cases h
  · rfl
theorem le_trans {a b c : ByteArray} (h : lt b a = false) (k : lt c b = false) : lt c a = false := by
  cases e : lt c a
  · rfl
  · rw [lt_of_lt_le e h] at k; cases k
/-- strictly ascending -/
abbrev Asc (xs : List ByteArray) : Prop := xs.Pairwise (fun a b => lt a b = true)
/-- where k belongs: the number of leading keys below it -/
def pos (k : ByteArray) (xs : List ByteArray) : Nat := (xs.takeWhile (fun x => lt x k)).length
theorem pos_le (k : ByteArray) (xs : List ByteArray) : pos k xs ≤ xs.length := by
  unfold pos
  induction xs with
  | nil => simp
  | cons x xs ih => by_cases h : lt x k = true <;> simp [h, ih]
theorem pos_eq (k : ByteArray) : ∀ (xs : List ByteArray) (i : Nat), i ≤ xs.length → (∀ j x, xs[j]? = some x → j < i → lt x k = true) → (∀ j x, xs[j]? = some x → i ≤ j → lt x k = false) → pos k xs = i
  | [], i, h, _, _ => by simp at h; simp [pos, h]
  | x :: xs, 0, _, _, h2 => by simp [pos, h2 0 x (by simp) (by omega)]
  | x :: xs, i + 1, h, h1, h2 => by
    have ih := pos_eq k xs i (by simpa using h) (fun j y hy hj => h1 (j + 1) y (by simpa using hy) (by omega)) (fun j y hy hj => h2 (j + 1) y (by simpa using hy) (by omega))
    simp [pos, h1 0 x (by simp) (by omega)]
    exact ih
theorem pos_split (k : ByteArray) : ∀ (xs : List ByteArray), Asc xs → (∀ x ∈ xs.take (pos k xs), lt x k = true) ∧ (∀ x ∈ xs.drop (pos k xs), lt x k = false)
  | [], _ => by simp
  | x :: xs, h => by
    have ih := pos_split k xs (List.pairwise_cons.1 h).2
    by_cases hx : lt x k = true
    · have e : pos k (x :: xs) = pos k xs + 1 := by simp [pos, hx]
      rw [e]
      refine ⟨fun y hy => ?_, fun y hy => ih.2 y (by simpa using hy)⟩
      rw [List.take_succ_cons] at hy
      rcases List.mem_cons.1 hy with rfl | hy
      · exact hx
      · exact ih.1 y hy
    · have e : pos k (x :: xs) = 0 := by simp [pos, hx]
      rw [e]
      refine ⟨by simp, fun y hy => ?_⟩
      simp only [List.drop_zero] at hy
      have hxf : lt x k = false := by simpa using hx
      rcases List.mem_cons.1 hy with rfl | hy
      · exact hxf
      · exact le_trans hxf (lt_asymm ((List.pairwise_cons.1 h).1 y hy))
/-- the key there is k -/
def hit (k : ByteArray) (xs : List ByteArray) : Bool := decide (xs[pos k xs]? = some k)
/-- k is among them -/
def has (k : ByteArray) (xs : List ByteArray) : Bool := xs.any (fun x => decide (x = k))
theorem has_iff {k : ByteArray} {xs : List ByteArray} : has k xs = true ↔ k ∈ xs := by simp [has]
theorem has_false {k : ByteArray} {xs : List ByteArray} : has k xs = false ↔ k ∉ xs := by rw [← has_iff]; simp
theorem hit_iff (k : ByteArray) (xs : List ByteArray) (h : Asc xs) : hit k xs = has k xs := by
  have hs := pos_split k xs h
  by_cases hk : k ∈ xs
  · rw [has_iff.2 hk]
    rw [← List.take_append_drop (pos k xs) xs] at hk
    rcases List.mem_append.1 hk with hk | hk
    · have := hs.1 k hk
      rw [lt_irrefl] at this; cases this
    · cases hd : xs.drop (pos k xs) with
      | nil => rw [hd] at hk; cases hk
      | cons y ys =>
        have hy : xs[pos k xs]? = some y := by rw [← List.head?_drop, hd]; rfl
        have hasc : Asc (y :: ys) := by rw [← hd]; exact h.sublist (List.drop_sublist _ _)
        have : y = k := by
          rw [hd] at hk
          rcases List.mem_cons.1 hk with rfl | hk
          · rfl
          · have h1 := (List.pairwise_cons.1 hasc).1 k hk
            have h2 := hs.2 y (by rw [hd]; simp)
            rw [h1] at h2; cases h2
        simp [hit, hy, this]
  · rw [has_false.2 hk]
    cases e : hit k xs
    · rfl
    · exact absurd (List.mem_of_getElem? (by simpa [hit] using e)) hk
/-- insert into, remove from a sorted list -/
def insK (k : ByteArray) (xs : List ByteArray) : List ByteArray := if has k xs = true then xs else xs.take (pos k xs) ++ k :: xs.drop (pos k xs)
def remK (k : ByteArray) (xs : List ByteArray) : List ByteArray := xs.filter (fun x => decide (x ≠ k))
theorem pos_append {k : ByteArray} {a b : List ByteArray} (ha : ∀ x ∈ a, lt x k = true) : pos k (a ++ b) = a.length + pos k b := by
  induction a with
  | nil => simp
  | cons x a ih =>
    have := ih (fun y hy => ha y (List.mem_cons_of_mem _ hy))
    simp [pos, ha x (by simp)] at this ⊢
    omega
theorem pos_append_left {k : ByteArray} {a b : List ByteArray} (hb : ∀ x ∈ b, lt x k = false) : pos k (a ++ b) = pos k a := by
  induction a with
  | nil =>
    cases b with
    | nil => simp
    | cons y b => simp [pos, hb y (by simp)]
  | cons x a ih =>
    by_cases hx : lt x k = true
    · simp [pos, hx] at ih ⊢
      exact ih
    · simp [pos, hx]
theorem not_mem_of_lt {k : ByteArray} {a : List ByteArray} (ha : ∀ x ∈ a, lt x k = true) : k ∉ a := fun h => by
  have := ha k h
  rw [lt_irrefl] at this; cases this
theorem not_mem_of_gt {k : ByteArray} {a : List ByteArray} (ha : ∀ x ∈ a, lt k x = true) : k ∉ a := fun h => by
  have := ha k h
  rw [lt_irrefl] at this; cases this
theorem insK_mid {k : ByteArray} {a m b : List ByteArray} (ha : ∀ x ∈ a, lt x k = true) (hb : ∀ x ∈ b, lt k x = true) : insK k (a ++ m ++ b) = a ++ insK k m ++ b := by
  have h1 := not_mem_of_lt ha
  have h2 := not_mem_of_gt hb
  unfold insK
  by_cases h : k ∈ m
  · rw [if_pos (has_iff.2 (by simp [h])), if_pos (has_iff.2 h)]
  · rw [if_neg (fun e => by simpa [h1, h, h2] using has_iff.1 e), if_neg (fun e => h (has_iff.1 e))]
    have hp := pos_append_left (k := k) (a := m) (b := b) (fun x hx => lt_asymm (hb x hx))
    rw [List.append_assoc, pos_append ha, hp, List.take_append, List.drop_append]
    have hl := pos_le k m
    rw [List.take_of_length_le (by omega), List.drop_of_length_le (by omega), show a.length + pos k m - a.length = pos k m by omega, List.take_append_of_le_length hl, List.drop_append_of_le_length hl]
    simp
theorem remK_mid {k : ByteArray} {a m b : List ByteArray} (ha : ∀ x ∈ a, lt x k = true) (hb : ∀ x ∈ b, lt k x = true) : remK k (a ++ m ++ b) = a ++ remK k m ++ b := by
  have h1 := not_mem_of_lt ha
  have h2 := not_mem_of_gt hb
  unfold remK
  rw [List.filter_append, List.filter_append, List.filter_eq_self.2 (fun x hx => by simp; intro e; subst e; exact h1 hx), show List.filter (fun x => decide (x ≠ k)) b = b from List.filter_eq_self.2 (fun x hx => by simp; intro e; subst e; exact h2 hx)]
theorem remK_absent {k : ByteArray} {a : List ByteArray} (h : k ∉ a) : remK k a = a := List.filter_eq_self.2 (fun x hx => by simp; intro e; subst e; exact h hx)
theorem insK_asc {k : ByteArray} {xs : List ByteArray} (h : Asc xs) : Asc (insK k xs) := by
  unfold insK
  by_cases hk : k ∈ xs
  · rw [if_pos (has_iff.2 hk)]; exact h
  · rw [if_neg (fun e => hk (has_iff.1 e))]
    have hs := pos_split k xs h
    have hd : ∀ x ∈ xs.drop (pos k xs), lt k x = true := fun x hx => by
      cases e : lt k x
      · exact absurd (lt_tri e (hs.2 x hx) ▸ List.mem_of_mem_drop hx) hk
      · rfl
    refine List.pairwise_append.2 ⟨h.sublist (List.take_sublist _ _), List.pairwise_cons.2 ⟨hd, h.sublist (List.drop_sublist _ _)⟩, fun a ha b hb => ?_⟩
    rcases List.mem_cons.1 hb with rfl | hb
    · exact hs.1 a ha
    · exact lt_trans (hs.1 a ha) (hd b hb)
theorem mem_insK {k : ByteArray} {xs : List ByteArray} {x : ByteArray} : x ∈ insK k xs ↔ x = k ∨ x ∈ xs := by
  unfold insK
  by_cases hk : k ∈ xs
  · rw [if_pos (has_iff.2 hk)]
    refine ⟨.inr, fun h => h.elim (fun e => e ▸ hk) id⟩
  · rw [if_neg (fun e => hk (has_iff.1 e))]
    conv => rhs; rw [← List.take_append_drop (pos k xs) xs]
    simp only [List.mem_append, List.mem_cons]
    constructor
    · rintro (h | h | h)
      · exact .inr (.inl h)
      · exact .inl h
      · exact .inr (.inr h)
    · rintro (h | h | h)
      · exact .inr (.inl h)
      · exact .inl h
      · exact .inr (.inr h)
theorem remK_asc {k : ByteArray} {xs : List ByteArray} (h : Asc xs) : Asc (remK k xs) := h.sublist List.filter_sublist
theorem mem_remK {k : ByteArray} {xs : List ByteArray} {x : ByteArray} : x ∈ remK k xs ↔ x ∈ xs ∧ x ≠ k := by simp [remK]
theorem insK_length (k : ByteArray) (xs : List ByteArray) : (insK k xs).length = if has k xs = true then xs.length else xs.length + 1 := by
  unfold insK
  split
  · rfl
  · have := pos_le k xs
    simp
    omega
theorem remK_at {k : ByteArray} {xs : List ByteArray} (h : Asc xs) (hk : k ∈ xs) : pos k xs < xs.length ∧ remK k xs = xs.take (pos k xs) ++ xs.drop (pos k xs + 1) := by
  have hh := hit_iff k xs h
  rw [has_iff.2 hk] at hh
  simp only [hit, decide_eq_true_eq] at hh
  have hlt := (List.getElem?_eq_some_iff.1 hh).1
  refine ⟨hlt, ?_⟩
  have hd : xs.drop (pos k xs) = k :: xs.drop (pos k xs + 1) := by
    rw [List.drop_eq_getElem_cons hlt, (List.getElem?_eq_some_iff.1 hh).2]
  have hs := pos_split k xs h
  have hasc : Asc (k :: xs.drop (pos k xs + 1)) := by rw [← hd]; exact h.sublist (List.drop_sublist _ _)
  conv => lhs; rw [← List.take_append_drop (pos k xs) xs, hd]
  have h1 := not_mem_of_lt hs.1
  have h2 := not_mem_of_gt (List.pairwise_cons.1 hasc).1
  have e1 := remK_absent h1
  have e2 := remK_absent h2
  unfold remK at e1 e2 ⊢
  rw [List.filter_append, e1, List.filter_cons_of_neg (by simp), e2]
end Go.Proofs.Qxb6603837a
