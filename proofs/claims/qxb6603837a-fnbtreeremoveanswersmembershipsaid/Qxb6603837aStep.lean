/- What an insert, a split, a removal make of a tree. No Go in sight. -/
import Derived.Test.Qxb6603837aPair
namespace Go.Proofs.Qxb6603837a
section
variable {M M' : Mm} {h a b : Nat} {lo hi : Option ByteArray} {key : ByteArray} {xs : List ByteArray} {ad : List Nat}
theorem ins_leaf (t : T M 0 lo hi a xs ad) (hk : In lo hi key) (h1 : M' a = some ⟨insK key xs, []⟩) : T M' 0 lo hi a (insK key xs) ad := by
  obtain ⟨_, e, h3, h4⟩ := t
  refine ⟨h1, e, insK_asc h3, fun x hx => ?_⟩
  rcases mem_insK.1 hx with rfl | hx
  · exact hk
  · exact h4 x hx
theorem rem_leaf (t : T M 0 lo hi a xs ad) (h1 : M' a = some ⟨remK key xs, []⟩) : T M' 0 lo hi a (remK key xs) ad := by
  obtain ⟨_, e, h3, h4⟩ := t
  exact ⟨h1, e, remK_asc h3, fun x hx => h4 x (mem_remK.1 hx).1⟩
theorem split_leaf {m : Nat} {sep : ByteArray} (h3 : Asc xs) (h4 : ∀ x ∈ xs, In lo hi x) (hs : xs[m]? = some sep) (h1 : M' a = some ⟨xs.take m, []⟩) (h2 : M' b = some ⟨xs.drop m, []⟩) :
    T M' 0 lo (some sep) a (xs.take m) [a] ∧ T M' 0 (some sep) hi b (xs.drop m) [b] := by
  have e := drop_cons' hs
  have hasc := h3
  rw [← List.take_append_drop m xs] at hasc
  obtain ⟨p1, p2, p3⟩ := List.pairwise_append.1 hasc
  refine ⟨⟨h1, rfl, p1, fun x hx => ⟨(h4 x (List.mem_of_mem_take hx)).1, fun u hu => ?_⟩⟩, ⟨h2, rfl, p2, fun x hx => ⟨fun u hu => ?_, (h4 x (List.mem_of_mem_drop hx)).2⟩⟩⟩
  · cases hu
    exact p3 x hx _ (by rw [e]; simp)
  · cases hu
    rw [e] at p2 hx
    rcases List.mem_cons.1 hx with rfl | hx
    · exact lt_irrefl _
    · exact lt_asymm ((List.pairwise_cons.1 p2).1 x hx)
theorem split_inner {ks : List ByteArray} {cs : List Nat} {m : Nat} {sep : ByteArray} (t : Ts (Ch M h) lo hi ks cs xs ad) (hs : ks[m]? = some sep) (hf : ∀ c ∈ ad, M' c = M c)
    (h1 : M' a = some ⟨ks.take m, cs.take (m + 1)⟩) (h2 : M' b = some ⟨ks.drop (m + 1), cs.drop (m + 1)⟩) :
    ∃ x1 x2 a1 a2, xs = x1 ++ x2 ∧ ad = a1 ++ a2 ∧ T M' (h + 1) lo (some sep) a x1 (a :: a1) ∧ T M' (h + 1) (some sep) hi b x2 (b :: a2) := by
  have hl := t.len
  have hlt := (List.getElem?_eq_some_iff.1 hs).1
  have t' : Ts (Ch M' h) lo hi ks cs xs ad := Ts.turn (fun _ _ _ _ _ hs hc => Ch.frame (fun b hb => hf b (hs b hb)) hc) t
  have e1 : ks = ks.take m ++ sep :: ks.drop (m + 1) := by rw [← drop_cons' hs, List.take_append_drop]
  have e2 : cs = cs.take (m + 1) ++ cs.drop (m + 1) := (List.take_append_drop _ _).symm
  rw [e1, e2] at t'
  obtain ⟨x1, x2, a1, a2, rfl, rfl, t1, t2⟩ := Ts.cut (by simp; omega) t'
  exact ⟨x1, x2, a1, a2, rfl, rfl, ⟨_, _, _, h1, rfl, t1⟩, ⟨_, _, _, h2, rfl, t2⟩⟩
/-- a child split in two, laid into the row -/
theorem put_two {P : TP} {ks : List ByteArray} {cs : List Nat} {i c : Nat} {sep : ByteArray} {x1 y1 y2 x2 : List ByteArray} {a1 b1 b2 a2 : List Nat} (hc : cs[i]? = some c)
    (h1 : Lc P lo (ks.take i) (cs.take i) x1 a1) (h2 : P (lst lo (ks.take i)) (some sep) c y1 b1) (h2' : P (some sep) (hd hi (ks.drop i)) b y2 b2) (h3 : Rc P hi (ks.drop i) (cs.drop (i + 1)) x2 a2) :
    Ts P lo hi (ks.take i ++ sep :: ks.drop i) (cs.take (i + 1) ++ b :: cs.drop (i + 1)) (x1 ++ (y1 ++ y2) ++ x2) (a1 ++ (b1 ++ b2) ++ a2) := by
  have h := Ts.fill (km := [sep]) (cm := [c, b]) (xm := y1 ++ y2) (am := b1 ++ b2) h1 ⟨y1, b1, y2, b2, rfl, rfl, h2, h2'⟩ h3
  have e1 : ks.take i ++ [sep] ++ ks.drop i = ks.take i ++ sep :: ks.drop i := by simp
  have e2 : cs.take i ++ [c, b] ++ cs.drop (i + 1) = cs.take (i + 1) ++ b :: cs.drop (i + 1) := by rw [take_snoc hc]; simp
  rwa [e1, e2] at h
/-- a pair, laid back -/
theorem put_pair {P : TP} {ks : List ByteArray} {cs : List Nat} {j l r : Nat} {k k' : ByteArray} {x1 y1 y2 x2 : List ByteArray} {a1 b1 b2 a2 : List Nat} (hk : ks[j]? = some k) (hl : cs[j]? = some l) (hr : cs[j + 1]? = some r)
    (h1 : Lc P lo (ks.take j) (cs.take j) x1 a1) (h2 : P (lst lo (ks.take j)) (some k') l y1 b1) (h2' : P (some k') (hd hi (ks.drop (j + 1))) r y2 b2) (h3 : Rc P hi (ks.drop (j + 1)) (cs.drop (j + 2)) x2 a2) :
    Ts P lo hi (ks.set j k') cs (x1 ++ (y1 ++ y2) ++ x2) (a1 ++ (b1 ++ b2) ++ a2) := by
  have h := Ts.fill (km := [k']) (cm := [l, r]) (xm := y1 ++ y2) (am := b1 ++ b2) h1 ⟨y1, b1, y2, b2, rfl, rfl, h2, h2'⟩ h3
  have e1 : ks.take j ++ [k'] ++ ks.drop (j + 1) = ks.set j k' := by rw [List.set_eq_take_append_cons_drop, if_pos (List.getElem?_eq_some_iff.1 hk).1]; simp
  have e2 : cs.take j ++ [l, r] ++ cs.drop (j + 2) = cs := by
    conv => rhs; rw [← List.take_append_drop j cs, drop_cons' hl, drop_cons' hr]
    simp
  rwa [e1, e2] at h
/-- a pair made one -/
theorem put_one {P : TP} {ks : List ByteArray} {cs : List Nat} {j l : Nat} {x1 y1 x2 : List ByteArray} {a1 b1 a2 : List Nat} (hl : cs[j]? = some l)
    (h1 : Lc P lo (ks.take j) (cs.take j) x1 a1) (h2 : P (lst lo (ks.take j)) (hd hi (ks.drop (j + 1))) l y1 b1) (h3 : Rc P hi (ks.drop (j + 1)) (cs.drop (j + 2)) x2 a2) :
    Ts P lo hi (ks.take j ++ ks.drop (j + 1)) (cs.take (j + 1) ++ cs.drop (j + 2)) (x1 ++ y1 ++ x2) (a1 ++ b1 ++ a2) := by
  have h := Ts.fill (km := []) (cm := [l]) h1 h2 h3
  have e1 : ks.take j ++ [] ++ ks.drop (j + 1) = ks.take j ++ ks.drop (j + 1) := by simp
  have e2 : cs.take j ++ [l] ++ cs.drop (j + 2) = cs.take (j + 1) ++ cs.drop (j + 2) := by rw [take_snoc hl]
  rwa [e1, e2] at h
/-- a tree of height h holds 2^h strings at least -/
theorem Ts.count {P : TP} {q : Nat} (hP : ∀ lo hi c xs ad, P lo hi c xs ad → q ≤ xs.length) : ∀ {lo hi : Option ByteArray} {ks : List ByteArray} {cs : List Nat} {xs : List ByteArray} {ad : List Nat}, Ts P lo hi ks cs xs ad → cs.length * q ≤ xs.length
  | _, _, [], [_], _, _, h => by simpa using hP _ _ _ _ _ h
  | _, _, [], [], _, _, h => by simp [Ts] at h
  | _, _, [], _ :: _ :: _, _, _, h => by simp [Ts] at h
  | _, _, _ :: _, [], _, _, h => by simp [Ts] at h
  | _, _, k :: ks, c :: cs, xs, ad, h => by
    obtain ⟨x1, a1, x2, a2, rfl, rfl, hp, ht⟩ := h
    have h1 := hP _ _ _ _ _ hp
    have h2 := Ts.count hP ht
    simp only [List.length_cons, List.length_append, Nat.add_mul, Nat.one_mul]
    omega
theorem T.count : ∀ {h : Nat} {lo hi : Option ByteArray} {a : Nat} {xs : List ByteArray} {ad : List Nat}, T M h lo hi a xs ad → (∃ n, M a = some n ∧ 1 ≤ n.size ∧ (n.cs ≠ [] → 2 ≤ n.cs.length)) → 2 ^ h ≤ xs.length
  | 0, _, _, a, xs, _, ⟨h1, _, _, _⟩, ⟨n, hn, hz, _⟩ => by
    rw [h1] at hn
    cases hn
    simp [Nd.size] at hz
    simpa using hz
  | h + 1, _, _, a, _, _, ⟨ks, cs, ad', h1, h2, h3⟩, ⟨n, hn, _, hz⟩ => by
    rw [h1] at hn
    cases hn
    have hlen := h3.len
    have hz : 2 ≤ cs.length := hz (by intro e; subst e; simp at hlen)
    have := Ts.count (q := 2 ^ h) (fun lo hi c xs ad hc => T.count hc.1 (by
      obtain ⟨n, hn, hz1, _⟩ := hc.2
      refine ⟨n, hn, by omega, fun hne => ?_⟩
      simp [Nd.size, hne] at hz1
      omega)) h3
    have h2 : 2 * 2 ^ h ≤ cs.length * 2 ^ h := Nat.mul_le_mul_right _ hz
    rw [Nat.pow_succ]
    omega
end
end Go.Proofs.Qxb6603837a
