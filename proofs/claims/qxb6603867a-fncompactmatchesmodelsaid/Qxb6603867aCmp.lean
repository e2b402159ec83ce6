/- The plain part of compact: no Go in sight. -/
import Derived.Test.Qxb6603867aFin
namespace Go.Proofs.Qxb6603867a.Plc
open Go.Proofs.Qxb6603867a.Plf
/-- the places of the live entries among the first k, in order -/
def sel (em : List Int) : Nat → List Nat
  | 0 => []
  | k + 1 => if 0 ≤ at' em k then sel em k ++ [k] else sel em k
theorem sel_len (em : List Int) : ∀ k, (sel em k).length = cnt em k
  | 0 => rfl
  | k + 1 => by
    have := sel_len em k
    rw [sel, cnt]
    split <;> simp [this]
theorem sel_more (em : List Int) (k : Nat) : ∀ m, ∃ t, sel em (k + m) = sel em k ++ t
  | 0 => ⟨[], by simp⟩
  | m + 1 => by
    obtain ⟨t, ht⟩ := sel_more em k m
    rw [← Nat.add_assoc, sel]
    split
    · exact ⟨t ++ [k + m], by rw [ht]; simp⟩
    · exact ⟨t, ht⟩
/-- the place of the p-th live entry -/
def pick (em : List Int) (n p : Nat) : Nat := (sel em n).getD p 0
theorem pick_cnt {em : List Int} {n k : Nat} (hk : k < n) (h : 0 ≤ at' em k) : pick em n (cnt em k) = k := by
  obtain ⟨t, ht⟩ := sel_more em (k + 1) (n - (k + 1))
  rw [show k + 1 + (n - (k + 1)) = n from by omega, sel, if_pos h] at ht
  unfold pick
  rw [ht, List.append_assoc, List.getD, List.getElem?_append_right (by rw [sel_len]; exact Nat.le_refl _), sel_len]
  simp
theorem cnt_onto {em : List Int} : ∀ {n p : Nat}, p < cnt em n → ∃ k, k < n ∧ 0 ≤ at' em k ∧ cnt em k = p
  | 0, p, h => absurd h (by simp [cnt])
  | n + 1, p, h => by
    rw [cnt] at h
    split at h
    · rename_i h0
      by_cases e : p < cnt em n
      · obtain ⟨k, hk, r⟩ := cnt_onto e
        exact ⟨k, by omega, r⟩
      · exact ⟨n, by omega, h0, by omega⟩
    · obtain ⟨k, hk, r⟩ := cnt_onto h
      exact ⟨k, by omega, r⟩
theorem pick_spec {em : List Int} {n p : Nat} (h : p < cnt em n) : pick em n p < n ∧ 0 ≤ at' em (pick em n p) ∧ cnt em (pick em n p) = p := by
  obtain ⟨k, hk, h0, e⟩ := cnt_onto h
  have := pick_cnt hk h0
  rw [e] at this
  rw [this]
  exact ⟨hk, h0, e⟩
theorem cnt_lt {em : List Int} {k n : Nat} (hk : k < n) (h0 : 0 ≤ at' em k) : cnt em k < cnt em n := by
  have h1 := cnt_mono em (k + 1) (n - (k + 1))
  rw [show k + 1 + (n - (k + 1)) = n from by omega, cnt, if_pos h0] at h1
  omega
structure CDom (nh ns n : Nat) (em ei er en : List Int) : Prop where
  li : ei.length = n
  lr : er.length = n
  ln : en.length = n
  it : ∀ i, i < n → 0 ≤ at' ei i ∧ at' ei i < nh
  me : ∀ i, i < n → 0 ≤ at' em i → at' em i < ns
/-- head behind k rounds of the first loop -/
def headA (hd ei : List Int) (k q : Nat) : Int := if seenB ei k q then -1 else at' hd q
theorem headA_zero (hd ei : List Int) (q : Nat) : headA hd ei 0 q = at' hd q := by simp [headA, seen_zero]
theorem headA_hit {hd ei : List Int} {k q : Nat} (h : at' ei k = (q : Int)) : headA hd ei (k + 1) q = -1 := by simp [headA, seen_succ, h]
theorem headA_miss {hd ei : List Int} {k q r : Nat} (h : at' ei k = (r : Int)) (hq : q ≠ r) : headA hd ei (k + 1) q = headA hd ei k q := by
  have : ¬ (r : Int) = (q : Int) := by omega
  simp [headA, seen_succ, h, this]
/-- a field of the entries behind k rounds of the second loop -/
def moved (em : List Int) (n k : Nat) (F : Nat → Int) (p : Nat) : Int := if p < cnt em k then F (pick em n p) else F p
theorem moved_zero (em : List Int) (n : Nat) (F : Nat → Int) (p : Nat) : moved em n 0 F p = F p := by simp [moved, cnt]
theorem moved_dead {em : List Int} {n k : Nat} {F : Nat → Int} {p : Nat} (h : at' em k < 0) : moved em n (k + 1) F p = moved em n k F p := by
  unfold moved; rw [cnt, if_neg (show ¬ (0 ≤ at' em k) by omega)]
theorem moved_at {em : List Int} {n k : Nat} {F : Nat → Int} (hk : k < n) (h : 0 ≤ at' em k) : moved em n (k + 1) F (cnt em k) = F k := by
  unfold moved; rw [cnt, if_pos h, if_pos (by omega), pick_cnt hk h]
theorem moved_other {em : List Int} {n k : Nat} {F : Nat → Int} {p : Nat} (h : 0 ≤ at' em k) (hp : p ≠ cnt em k) : moved em n (k + 1) F p = moved em n k F p := by
  unfold moved; rw [cnt, if_pos h]
  by_cases e : p < cnt em k
  · rw [if_pos e, if_pos (by omega)]
  · rw [if_neg e, if_neg (by omega)]
theorem moved_ge {em : List Int} {n k : Nat} {F : Nat → Int} {p : Nat} (hp : cnt em k ≤ p) : moved em n k F p = F p := by
  unfold moved; rw [if_neg (by omega)]
theorem moved_self {em : List Int} {n k : Nat} {F : Nat → Int} : moved em n k F k = F k := moved_ge (cnt_le em k)
theorem moved_end {em : List Int} {n : Nat} {F : Nat → Int} {p : Nat} (hp : p < cnt em n) : moved em n n F p = F (pick em n p) := by
  unfold moved; rw [if_pos hp]
/-- start behind k rounds -/
def startA (st em : List Int) (k m : Nat) : Int := if 0 ≤ at' st m ∧ at' st m < k ∧ at' em (at' st m).toNat = (m : Int) then (cnt em (at' st m).toNat : Nat) else at' st m
theorem startA_zero (st em : List Int) (m : Nat) : startA st em 0 m = at' st m := by
  unfold startA; rw [if_neg (by omega)]
theorem startA_dead {st em : List Int} {k m : Nat} (h : at' em k < 0) : startA st em (k + 1) m = startA st em k m := by
  unfold startA
  by_cases c : 0 ≤ at' st m ∧ at' st m < k ∧ at' em (at' st m).toNat = (m : Int)
  · rw [if_pos c, if_pos ⟨c.1, by omega, c.2.2⟩]
  · rw [if_neg c, if_neg]
    intro c'
    by_cases e : at' st m = k
    · rw [e, Int.toNat_natCast] at c'; omega
    · exact c ⟨c'.1, by omega, c'.2.2⟩
theorem startA_other {st em : List Int} {k m r : Nat} (h : at' em k = (r : Int)) (hm : m ≠ r) : startA st em (k + 1) m = startA st em k m := by
  unfold startA
  by_cases c : 0 ≤ at' st m ∧ at' st m < k ∧ at' em (at' st m).toNat = (m : Int)
  · rw [if_pos c, if_pos ⟨c.1, by omega, c.2.2⟩]
  · rw [if_neg c, if_neg]
    intro c'
    by_cases e : at' st m = k
    · rw [e, Int.toNat_natCast] at c'; omega
    · exact c ⟨c'.1, by omega, c'.2.2⟩
theorem startA_hit {st em : List Int} {k m : Nat} (h : at' em k = (m : Int)) (he : startA st em k m = k) : startA st em (k + 1) m = (cnt em k : Nat) := by
  unfold startA at he ⊢
  by_cases c : 0 ≤ at' st m ∧ at' st m < k ∧ at' em (at' st m).toNat = (m : Int)
  · rw [if_pos c] at he
    have := cnt_le em (at' st m).toNat
    omega
  · rw [if_neg c] at he
    rw [he, Int.toNat_natCast, if_pos ⟨by omega, by omega, h⟩]
theorem startA_miss {st em : List Int} {k m : Nat} (he : startA st em k m ≠ k) : startA st em (k + 1) m = startA st em k m := by
  unfold startA at he ⊢
  by_cases c : 0 ≤ at' st m ∧ at' st m < k ∧ at' em (at' st m).toNat = (m : Int)
  · rw [if_pos c, if_pos ⟨c.1, by omega, c.2.2⟩]
  · rw [if_neg c] at he
    rw [if_neg c, if_neg]
    intro c'
    exact c ⟨c'.1, by omega, c'.2.2⟩
/-- the last of the first b places whose item is t; d where there is none -/
def lst (J : Nat → Nat) (d : Int) (t : Nat) : Nat → Int
  | 0 => d
  | b + 1 => if J b = t then (b : Nat) else lst J d t b
def cntEq (J : Nat → Nat) (t : Nat) : Nat → Nat
  | 0 => 0
  | b + 1 => if J b = t then cntEq J t b + 1 else cntEq J t b
def cntLt (J : Nat → Nat) (t : Nat) : Nat → Nat
  | 0 => 0
  | b + 1 => if J b < t then cntLt J t b + 1 else cntLt J t b
theorem cntLt_le (J : Nat → Nat) (t : Nat) : ∀ b, cntLt J t b ≤ b
  | 0 => Nat.le_refl _
  | b + 1 => by have := cntLt_le J t b; rw [cntLt]; split <;> omega
theorem cntEq_le (J : Nat → Nat) (t : Nat) : ∀ b, cntEq J t b ≤ b
  | 0 => Nat.le_refl _
  | b + 1 => by have := cntEq_le J t b; rw [cntEq]; split <;> omega
theorem cntLt_zero (J : Nat → Nat) : ∀ b, cntLt J 0 b = 0
  | 0 => rfl
  | b + 1 => by rw [cntLt, if_neg (by omega)]; exact cntLt_zero J b
theorem cntLt_succ (J : Nat → Nat) (t : Nat) : ∀ b, cntLt J (t + 1) b = cntLt J t b + cntEq J t b
  | 0 => rfl
  | b + 1 => by
    have := cntLt_succ J t b
    rw [cntLt, cntLt, cntEq]
    by_cases e : J b = t
    · rw [if_pos (by omega), if_neg (by omega), if_pos e]; omega
    · by_cases l : J b < t
      · rw [if_pos (by omega), if_pos l, if_neg e]; omega
      · rw [if_neg (by omega), if_neg l, if_neg e]; omega
theorem cntLt_all {J : Nat → Nat} {t : Nat} : ∀ {b : Nat}, (∀ r, r < b → J r < t) → cntLt J t b = b
  | 0, _ => rfl
  | b + 1, h => by rw [cntLt, if_pos (h b (by omega)), cntLt_all (fun r hr => h r (by omega))]
theorem cntEq_none {J : Nat → Nat} {t : Nat} : ∀ {b : Nat}, (∀ r, r < b → J r ≠ t) → cntEq J t b = 0
  | 0, _ => rfl
  | b + 1, h => by rw [cntEq, if_neg (h b (by omega)), cntEq_none (fun r hr => h r (by omega))]
theorem lst_cases (J : Nat → Nat) (t : Nat) : ∀ b, (lst J (-1) t b = -1 ∧ cntEq J t b = 0) ∨ ∃ r, lst J (-1) t b = (r : Nat) ∧ r < b ∧ J r = t ∧ cntEq J t b = cntEq J t r + 1
  | 0 => .inl ⟨rfl, rfl⟩
  | b + 1 => by
    by_cases e : J b = t
    · exact .inr ⟨b, by rw [lst, if_pos e], by omega, e, by rw [cntEq, if_pos e]⟩
    · rcases lst_cases J t b with ⟨h1, h2⟩ | ⟨r, h1, h2, h3, h4⟩
      · exact .inl ⟨by rw [lst, if_neg e, h1], by rw [cntEq, if_neg e, h2]⟩
      · exact .inr ⟨r, by rw [lst, if_neg e, h1], by omega, h3, by rw [cntEq, if_neg e, h4]⟩
theorem lst_none {J : Nat → Nat} {d : Int} {t : Nat} : ∀ {b : Nat}, (∀ r, r < b → J r ≠ t) → lst J d t b = d
  | 0, _ => rfl
  | b + 1, h => by rw [lst, if_neg (h b (by omega)), lst_none (fun r hr => h r (by omega))]
theorem lst_bound (J : Nat → Nat) (d : Int) (t : Nat) (h1 : -2147483648 ≤ d) (h2 : d ≤ 2147483647) : ∀ b, b ≤ 1048576 → -2147483648 ≤ lst J d t b ∧ lst J d t b ≤ 2147483647
  | 0, _ => ⟨h1, h2⟩
  | b + 1, hb => by
    have := lst_bound J d t h1 h2 b (by omega)
    rw [lst]
    split <;> omega
end Go.Proofs.Qxb6603867a.Plc
