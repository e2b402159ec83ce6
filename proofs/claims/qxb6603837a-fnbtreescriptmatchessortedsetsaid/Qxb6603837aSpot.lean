/- The place of a key in a tree; what stands around a child and around a pair of children. No Go in sight. -/
import Derived.Test.Qxb6603837aTree
namespace Go.Proofs.Qxb6603837a
theorem lst_cases : ∀ (lo : Option ByteArray) (ks : List ByteArray), (ks = [] ∧ lst lo ks = lo) ∨ ∃ k ∈ ks, lst lo ks = some k
  | lo, [] => .inl ⟨rfl, rfl⟩
  | lo, k :: ks => by
    refine .inr ?_
    rcases lst_cases (some k) ks with ⟨_, h⟩ | ⟨k', hk, h⟩
    · exact ⟨k, by simp, h⟩
    · exact ⟨k', by simp [hk], h⟩
theorem lst_snoc : ∀ (lo : Option ByteArray) (ks : List ByteArray) (k : ByteArray), lst lo (ks ++ [k]) = some k
  | _, [], _ => rfl
  | _, k' :: ks, k => lst_snoc (some k') ks k
theorem hd_cases (hi : Option ByteArray) (ks : List ByteArray) : (ks = [] ∧ hd hi ks = hi) ∨ ∃ k ∈ ks, hd hi ks = some k := by
  cases ks with
  | nil => exact .inl ⟨rfl, rfl⟩
  | cons k ks => exact .inr ⟨k, by simp, rfl⟩
/-- the child that a key belongs to -/
def kidAt (k : ByteArray) (ks : List ByteArray) : Nat := if hit k ks then pos k ks + 1 else pos k ks
theorem kidAt_split (k : ByteArray) (ks : List ByteArray) (h : Asc ks) : kidAt k ks ≤ ks.length ∧ (∀ x ∈ ks.take (kidAt k ks), lt k x = false) ∧ (∀ x ∈ ks.drop (kidAt k ks), lt k x = true) := by
  have hs := pos_split k ks h
  have hp := pos_le k ks
  unfold kidAt
  by_cases hh : hit k ks = true
  · rw [if_pos hh]
    have hg : ks[pos k ks]? = some k := by simpa [hit] using hh
    have hlt := (List.getElem?_eq_some_iff.1 hg).1
    have hd : ks.drop (pos k ks) = k :: ks.drop (pos k ks + 1) := by rw [List.drop_eq_getElem_cons hlt, (List.getElem?_eq_some_iff.1 hg).2]
    have hasc : Asc (k :: ks.drop (pos k ks + 1)) := by rw [← hd]; exact h.sublist (List.drop_sublist _ _)
    refine ⟨hlt, fun x hx => ?_, (List.pairwise_cons.1 hasc).1⟩
    rw [List.take_add_one, hg] at hx
    rcases List.mem_append.1 hx with hx | hx
    · exact lt_asymm (hs.1 x hx)
    · simp at hx; subst hx; exact lt_irrefl _
  · rw [if_neg hh]
    refine ⟨hp, fun x hx => lt_asymm (hs.1 x hx), fun x hx => ?_⟩
    cases e : lt k x
    · have hk : k ∈ ks := lt_tri e (hs.2 x hx) ▸ List.mem_of_mem_drop hx
      rw [hit_iff k ks h, has_iff.2 hk] at hh
      exact absurd rfl hh
    · rfl
theorem Lc.below {P : TP} (hP : ∀ lo hi c xs ad, P lo hi c xs ad → Good lo hi xs) : ∀ {lo : Option ByteArray} {ks : List ByteArray} {cs : List Nat} {xs : List ByteArray} {ad : List Nat}, Lc P lo ks cs xs ad → ∀ x ∈ xs, ∃ k ∈ ks, lt x k = true
  | _, [], [], _, _, ⟨h, _⟩ => by simp [h]
  | _, [], _ :: _, _, _, h => by simp [Lc] at h
  | _, _ :: _, [], _, _, h => by simp [Lc] at h
  | _, k :: ks, c :: cs, xs, ad, h => by
    obtain ⟨x1, a1, x2, a2, rfl, rfl, hp, ht⟩ := h
    intro x hx
    rcases List.mem_append.1 hx with hx | hx
    · exact ⟨k, by simp, ((hP _ _ _ _ _ hp).bd x hx).2 k rfl⟩
    · obtain ⟨k', hk', h'⟩ := Lc.below hP ht x hx
      exact ⟨k', by simp [hk'], h'⟩
theorem Rc.above {P : TP} (hP : ∀ lo hi c xs ad, P lo hi c xs ad → Good lo hi xs) {hi : Option ByteArray} {ks : List ByteArray} {cs : List Nat} {xs : List ByteArray} {ad : List Nat} (h : Rc P hi ks cs xs ad) : ∀ x ∈ xs, ∃ k ∈ ks, lt x k = false := by
  cases ks with
  | nil =>
    cases cs with
    | nil => obtain ⟨rfl, rfl⟩ := h; simp
    | cons _ _ => exact h.elim
  | cons k ks => exact fun x hx => ⟨k, by simp, ((Ts.good hP h).1.bd x hx).1 k rfl⟩
theorem Ts.at' {P : TP} {lo hi : Option ByteArray} {ks : List ByteArray} {cs : List Nat} {xs : List ByteArray} {ad : List Nat} (h : Ts P lo hi ks cs xs ad) {i : Nat} (hi' : i ≤ ks.length) :
    ∃ c x1 xm x2 a1 am a2, cs[i]? = some c ∧ xs = x1 ++ xm ++ x2 ∧ ad = a1 ++ am ++ a2 ∧ Lc P lo (ks.take i) (cs.take i) x1 a1 ∧ P (lst lo (ks.take i)) (hd hi (ks.drop i)) c xm am ∧ Rc P hi (ks.drop i) (cs.drop (i + 1)) x2 a2 := by
  have hl := h.len
  have hlt : i < cs.length := by omega
  have e1 : ks = ks.take i ++ [] ++ ks.drop i := by simp
  have e2 : cs = cs.take i ++ [cs[i]] ++ cs.drop (i + 1) := by simp
  rw [e1, e2] at h
  obtain ⟨x1, xm, x2, a1, am, a2, rfl, rfl, h1, h2, h3⟩ := Ts.hole (by simp; omega) (by simp) h
  exact ⟨cs[i], x1, xm, x2, a1, am, a2, List.getElem?_eq_getElem hlt, rfl, rfl, h1, h2, h3⟩
theorem Ts.put {P : TP} {lo hi : Option ByteArray} {ks : List ByteArray} {cs : List Nat} {i c : Nat} {x1 xm x2 : List ByteArray} {a1 am a2 : List Nat} (hc : cs[i]? = some c)
    (h1 : Lc P lo (ks.take i) (cs.take i) x1 a1) (h2 : P (lst lo (ks.take i)) (hd hi (ks.drop i)) c xm am) (h3 : Rc P hi (ks.drop i) (cs.drop (i + 1)) x2 a2) : Ts P lo hi ks cs (x1 ++ xm ++ x2) (a1 ++ am ++ a2) := by
  have h := Ts.fill (km := []) (cm := [c]) h1 h2 h3
  have hlt := (List.getElem?_eq_some_iff.1 hc).1
  have e1 : ks.take i ++ [] ++ ks.drop i = ks := by simp
  have e2 : cs.take i ++ [c] ++ cs.drop (i + 1) = cs := by
    rw [← (List.getElem?_eq_some_iff.1 hc).2]; simp
  rwa [e1, e2] at h
/-- a key's own child: the bounds hold the key, the rest lies beside it -/
theorem key_place {P : TP} (hP : ∀ lo hi c xs ad, P lo hi c xs ad → Good lo hi xs) {lo hi : Option ByteArray} {ks : List ByteArray} {cs1 cs2 : List Nat} {x1 x2 : List ByteArray} {a1 a2 : List Nat} {k : ByteArray} (hasc : Asc ks) (hk : In lo hi k)
    (h1 : Lc P lo (ks.take (kidAt k ks)) cs1 x1 a1) (h3 : Rc P hi (ks.drop (kidAt k ks)) cs2 x2 a2) :
    In (lst lo (ks.take (kidAt k ks))) (hd hi (ks.drop (kidAt k ks))) k ∧ (∀ x ∈ x1, lt x k = true) ∧ (∀ x ∈ x2, lt k x = true) := by
  obtain ⟨_, hb, ha⟩ := kidAt_split k ks hasc
  refine ⟨⟨fun l hl => ?_, fun u hu => ?_⟩, fun x hx => ?_, fun x hx => ?_⟩
  · rcases lst_cases lo (ks.take (kidAt k ks)) with ⟨_, h⟩ | ⟨k', hk', h⟩
    · exact hk.1 l (h ▸ hl)
    · rw [h] at hl; cases hl; exact hb _ hk'
  · rcases hd_cases hi (ks.drop (kidAt k ks)) with ⟨_, h⟩ | ⟨k', hk', h⟩
    · exact hk.2 u (h ▸ hu)
    · rw [h] at hu; cases hu; exact ha _ hk'
  · obtain ⟨k', hk', h⟩ := Lc.below hP h1 x hx
    exact lt_of_lt_le h (hb k' hk')
  · obtain ⟨k', hk', h⟩ := Rc.above hP h3 x hx
    exact lt_of_lt_le (ha k' hk') h
/-- the last child on the left; the first on the right -/
theorem Lc.snoc {P : TP} : ∀ {lo : Option ByteArray} {ks : List ByteArray} {k : ByteArray} {cs : List Nat} {c : Nat} {xs : List ByteArray} {ad : List Nat}, Lc P lo (ks ++ [k]) (cs ++ [c]) xs ad →
    ∃ x1 x2 a1 a2, xs = x1 ++ x2 ∧ ad = a1 ++ a2 ∧ Lc P lo ks cs x1 a1 ∧ P (lst lo ks) (some k) c x2 a2
  | lo, [], k, [], c, xs, ad, h => by
    obtain ⟨x1, a1, x2, a2, rfl, rfl, hp, rfl, rfl⟩ := h
    exact ⟨[], x1, [], a1, by simp, by simp, ⟨rfl, rfl⟩, hp⟩
  | lo, [], k, c' :: cs, c, xs, ad, h => by
    obtain ⟨x1, a1, x2, a2, rfl, rfl, hp, h⟩ := h
    cases cs <;> simp [Lc] at h
  | lo, k' :: ks, k, [], c, xs, ad, h => by
    obtain ⟨x1, a1, x2, a2, rfl, rfl, hp, h⟩ := h
    cases ks <;> simp [Lc] at h
  | lo, k' :: ks, k, c' :: cs, c, xs, ad, h => by
    obtain ⟨x1, a1, x2, a2, rfl, rfl, hp, h⟩ := h
    obtain ⟨y1, y2, b1, b2, rfl, rfl, h1, h2⟩ := Lc.snoc h
    exact ⟨x1 ++ y1, y2, a1 ++ b1, b2, by simp, by simp, ⟨x1, a1, y1, b1, rfl, rfl, hp, h1⟩, h2⟩
theorem Rc.uncons {P : TP} {hi : Option ByteArray} {k : ByteArray} {ks : List ByteArray} {cs : List Nat} {xs : List ByteArray} {ad : List Nat} (h : Rc P hi (k :: ks) cs xs ad) :
    ∃ c cs' x1 x2 a1 a2, cs = c :: cs' ∧ xs = x1 ++ x2 ∧ ad = a1 ++ a2 ∧ P (some k) (hd hi ks) c x1 a1 ∧ Rc P hi ks cs' x2 a2 := by
  have h : Ts P (some k) hi ks cs xs ad := h
  cases ks with
  | nil =>
    match cs, h with
    | [c], h => exact ⟨c, [], xs, [], ad, [], rfl, by simp, by simp, h, rfl, rfl⟩
    | [], h => simp [Ts] at h
    | _ :: _ :: _, h => simp [Ts] at h
  | cons k' ks =>
    match cs, h with
    | [], h => simp [Ts] at h
    | c :: cs, h =>
      obtain ⟨x1, a1, x2, a2, rfl, rfl, hp, ht⟩ := h
      exact ⟨c, cs, x1, x2, a1, a2, rfl, rfl, rfl, hp, ht⟩
theorem take_snoc {α : Type} {xs : List α} {i : Nat} {x : α} (h : xs[i]? = some x) : xs.take (i + 1) = xs.take i ++ [x] := by rw [List.take_add_one, h]; rfl
theorem drop_cons' {α : Type} {xs : List α} {i : Nat} {x : α} (h : xs[i]? = some x) : xs.drop i = x :: xs.drop (i + 1) := by
  rw [List.drop_eq_getElem_cons (List.getElem?_eq_some_iff.1 h).1, (List.getElem?_eq_some_iff.1 h).2]
/-- addresses: those below N are among the elder ones; the others are new and stand once -/
structure Fr (N : Nat) (ad ad' : List Nat) : Prop where
  old : ∀ b, b < N → ad'.count b ≤ ad.count b
  new : ∀ b, N ≤ b → ad'.count b ≤ 1
theorem Fr.nodup {N : Nat} {ad ad' : List Nat} (h : Fr N ad ad') (hn : ad.Nodup) : ad'.Nodup := by
  rw [List.nodup_iff_count] at hn ⊢
  intro b
  by_cases hb : b < N
  · exact Nat.le_trans (h.old b hb) (hn b)
  · exact h.new b (by omega)
theorem Fr.mem {N : Nat} {ad ad' : List Nat} (h : Fr N ad ad') {b : Nat} (hb : b ∈ ad') : b ∈ ad ∨ N ≤ b := by
  by_cases hN : b < N
  · have := List.count_pos_iff.2 hb
    exact .inl (List.count_pos_iff.1 (Nat.lt_of_lt_of_le this (h.old b hN)))
  · exact .inr (by omega)
end Go.Proofs.Qxb6603837a
