/- A pair of neighbours: the moves and the merge, as trees. -/
import Derived.Test.Qxb6603837aMR
import Derived.Test.Qxb6603837aML
import Derived.Test.Qxb6603837aML2
import Derived.Test.Qxb6603837aMg2
import Derived.Test.Qxb6603837aStep
namespace Go.Proofs.Qxb6603837a
open Go.RowKit
structure PairIn (M : Mm) (h a j : Nat) (n : Nd) (lo hi : Option ByteArray) (k : ByteArray) (l r : Nat) (xl xr : List ByteArray) (al ar : List Nat) : Prop where
  ha : M a = some n
  hk : n.ks[j]? = some k
  hl : n.cs[j]? = some l
  hr : n.cs[j + 1]? = some r
  hn : n.cs.length ≤ 64
  hnk : n.ks.length ≤ 64
  tl : T M h lo (some k) l xl al
  tr : T M h (some k) hi r xr ar
  nd : (a :: (al ++ ar)).Nodup
structure Moved (M M' : Mm) (h a j : Nat) (n : Nd) (lo hi : Option ByteArray) (l r : Nat) (xs : List ByteArray) (al ar : List Nat) (k' : ByteArray) (xl' xr' : List ByteArray) (al' ar' : List Nat) : Prop where
  ha : M' a = some ⟨n.ks.set j k', n.cs⟩
  tl : Ch M' h lo (some k') l xl' al'
  tr : Ch M' h (some k') hi r xr' ar'
  xs : xl' ++ xr' = xs
  ad : ∀ b, (al' ++ ar').count b = (al ++ ar).count b
  fr : ∀ b, b ≠ a → b ∉ al → b ∉ ar → M' b = M b
structure Melted (M M' : Mm) (h a j : Nat) (n : Nd) (lo hi : Option ByteArray) (l : Nat) (xs : List ByteArray) (al ar al' : List Nat) : Prop where
  ha : M' a = some ⟨n.ks.take j ++ n.ks.drop (j + 1), n.cs.take (j + 1) ++ n.cs.drop (j + 2)⟩
  tl : Ch M' h lo hi l xs al'
  ad : ∀ b, al'.count b ≤ (al ++ ar).count b
  fr : ∀ b, b ≠ a → b ∉ al → b ∉ ar → M' b = M b
section
variable {F : Nat → Prop} {M : Mm} {h a j : Nat} {n : Nd} {lo hi : Option ByteArray} {k : ByteArray} {l r : Nat} {xl xr : List ByteArray} {al ar : List Nat} {w : World}
theorem PairIn.ne (q : PairIn M h a j n lo hi k l r xl xr al ar) : a ≠ l ∧ a ≠ r ∧ l ≠ r := by
  have sl := q.tl.self
  have sr := q.tr.self
  have nd := List.nodup_cons.1 q.nd
  exact ⟨fun e => nd.1 (List.mem_append_left _ (e ▸ sl)), fun e => nd.1 (List.mem_append_right _ (e ▸ sr)), fun e => (List.nodup_append.1 nd.2).2.2 l sl r sr e⟩
theorem inner_out {gl gr : List Nat} (nd : (a :: ((l :: gl) ++ (r :: gr))).Nodup) {b : Nat} (hb : b ∈ gl ∨ b ∈ gr) : b ≠ a ∧ b ≠ l ∧ b ≠ r := by
  simp only [List.cons_append, List.nodup_cons, List.mem_cons, List.mem_append, List.nodup_append] at nd
  obtain ⟨h1, h2, h3, h4, h5⟩ := nd
  refine ⟨?_, ?_, ?_⟩ <;> intro e <;> subst e
  · exact h1 (.inr (hb.elim .inl (fun h => .inr (.inr h))))
  · exact h2 (hb.elim .inl (fun h => .inr (.inr h)))
  · rcases hb with hb | hb
    · exact h5 b hb b (.inl rfl) rfl
    · exact h4.1 hb
theorem count_pair {gl gr gl' gr' : List Nat} (e : gl' ++ gr' = gl ++ gr) (b : Nat) : ((l :: gl') ++ (r :: gr')).count b = ((l :: gl) ++ (r :: gr)).count b := by
  have := congrArg (List.count b) e
  simp only [List.count_append, List.count_cons] at this ⊢
  omega
theorem moveRight_T (p : Pool F w M) (q : PairIn M h a j n lo hi k l r xl xr al ar) (hzl : ∃ nl, M l = some nl ∧ 33 ≤ nl.size ∧ nl.size ≤ 64) (hzr : ∃ nr, M r = some nr ∧ 31 ≤ nr.size ∧ nr.size ≤ 63) :
    Calls Try.prog 52 #[ptr a, .int .i64 j] w fun e w' => e = .returned (.tuple #[]) ∧ ∃ M' k' xl' xr' al' ar', Got F w M' w' ∧ Moved M M' h a j n lo hi l r (xl ++ xr) al ar k' xl' xr' al' ar' := by
  obtain ⟨nl, hl, z1, z2⟩ := hzl
  obtain ⟨nr, hr, z3, z4⟩ := hzr
  obtain ⟨hal, har, hlr⟩ := q.ne
  have hj := (List.getElem?_eq_some_iff.1 q.hk).1
  cases h with
  | zero =>
    have tl := q.tl
    have tr := q.tr
    rw [tl.1] at hl
    cases hl
    rw [tr.1] at hr
    cases hr
    simp only [Nd.size, if_true] at z1 z2 z3 z4
    obtain ⟨m, hm⟩ : ∃ m, xl.length = m + 1 := ⟨xl.length - 1, by omega⟩
    obtain ⟨x, hx⟩ : ∃ x, xl[m]? = some x := ⟨xl[m], List.getElem?_eq_getElem (by omega)⟩
    refine (moveRight52_leaf p q.ha tl.1 tr.1 hal har hlr q.hl q.hr hj (by have := q.hn; omega) rfl hm hx (by omega) (by show 0 < xr.length; omega) (by show xr.length ≤ 900; omega)).mono ?_
    rintro e w' ⟨rfl, hg⟩
    refine ⟨rfl, _, x, xl.take m, x :: xr, al, ar, hg, ?_⟩
    have e1 := tl.2.1
    have e2 := tr.2.1
    obtain ⟨t1, t2, t3⟩ := right_leaf (M' := upd (upd (upd M r (some ⟨x :: xr, []⟩)) l (some ⟨xl.take m, []⟩)) a (some ⟨n.ks.set j x, n.cs⟩)) tl tr hm hx (by intro e; subst e; simp at z3)
      ((upd_other _ _ hal.symm).trans (upd_same _ _ _)) (((upd_other _ _ har.symm).trans (upd_other _ _ hlr.symm)).trans (upd_same _ _ _))
    refine ⟨upd_same _ _ _, ⟨t1, _, t1.1, ?_, ?_⟩, ⟨t2, _, t2.1, ?_, ?_⟩, t3, fun b => rfl, fun b h1 h2 h3 => ?_⟩
    · simp [Nd.size]; omega
    · simp [Nd.size]; omega
    · simp [Nd.size]; omega
    · simp [Nd.size]; omega
    · rw [e1] at h2
      rw [e2] at h3
      exact ((upd_other _ _ h1).trans (upd_other _ _ (by simpa using h2))).trans (upd_other _ _ (by simpa using h3))
  | succ h =>
    obtain ⟨kl, cl, gl, hl', rfl, tl⟩ := q.tl
    obtain ⟨kr, cr, gr, hr', rfl, tr⟩ := q.tr
    rw [hl'] at hl
    cases hl
    rw [hr'] at hr
    cases hr
    have ll := tl.len
    have lr := tr.len
    have nel : cl ≠ [] := by intro e; subst e; simp at ll
    have ner : cr ≠ [] := by intro e; subst e; simp at lr
    simp only [Nd.size, if_neg nel] at z1 z2
    simp only [Nd.size, if_neg ner] at z3 z4
    obtain ⟨m, hm⟩ : ∃ m, kl.length = m + 1 := ⟨kl.length - 1, by omega⟩
    obtain ⟨x, hx⟩ : ∃ x, kl[m]? = some x := ⟨kl[m], List.getElem?_eq_getElem (by omega)⟩
    obtain ⟨y, hy⟩ : ∃ y, cl[m + 1]? = some y := ⟨cl[m + 1], List.getElem?_eq_getElem (by omega)⟩
    refine (moveRight52_inner p q.ha hl' hr' hal har hlr q.hl q.hr q.hk (by have := q.hn; omega) (by show cl.length = m + 2; omega) hm hx hy (by omega) (by show 0 < kr.length; omega) (by show kr.length ≤ 900; omega) (by show 0 < cr.length; omega) (by show cr.length ≤ 900; omega)).mono ?_
    rintro e w' ⟨rfl, M', hg, u⟩
    obtain ⟨xl', xr', gl', gr', t1, t2, t3, t4⟩ := right_inner (l := l) (r := r) (M' := M') tl tr hm hx hy (fun b hb => by obtain ⟨h1, h2, h3⟩ := inner_out q.nd hb; exact u.po b h1 h2 h3) u.pl u.pr
    refine ⟨rfl, M', x, xl', xr', _, _, hg, u.pa, ⟨t1, _, u.pl, ?_⟩, ⟨t2, _, u.pr, ?_⟩, t3, count_pair t4, fun b h1 h2 h3 => u.po b h1 (fun e => h2 (by simp [e])) (fun e => h3 (by simp [e]))⟩
    · have hne : cl.take (m + 1) ≠ [] := by intro e; have := congrArg List.length e; rw [List.length_take, List.length_nil] at this; omega
      simp only [Nd.size, if_neg hne, List.length_take]
      omega
    · simp only [Nd.size, List.length_cons]
      simp
      omega
theorem moveLeft_T (p : Pool F w M) (q : PairIn M h a j n lo hi k l r xl xr al ar) (hzl : ∃ nl, M l = some nl ∧ 31 ≤ nl.size ∧ nl.size ≤ 63) (hzr : ∃ nr, M r = some nr ∧ 33 ≤ nr.size ∧ nr.size ≤ 64) :
    Calls Try.prog 53 #[ptr a, .int .i64 j] w fun e w' => e = .returned (.tuple #[]) ∧ ∃ M' k' xl' xr' al' ar', Got F w M' w' ∧ Moved M M' h a j n lo hi l r (xl ++ xr) al ar k' xl' xr' al' ar' := by
  obtain ⟨nl, hl, z1, z2⟩ := hzl
  obtain ⟨nr, hr, z3, z4⟩ := hzr
  obtain ⟨hal, har, hlr⟩ := q.ne
  have hj := (List.getElem?_eq_some_iff.1 q.hk).1
  cases h with
  | zero =>
    have tl := q.tl
    have tr := q.tr
    rw [tl.1] at hl
    cases hl
    rw [tr.1] at hr
    cases hr
    simp only [Nd.size, if_true] at z1 z2 z3 z4
    obtain ⟨x, hx⟩ : ∃ x, xr[0]? = some x := ⟨xr[0], List.getElem?_eq_getElem (by omega)⟩
    obtain ⟨z, hz⟩ : ∃ z, xr[1]? = some z := ⟨xr[1], List.getElem?_eq_getElem (by omega)⟩
    refine (moveLeft53_leaf p q.ha tl.1 tr.1 hal har hlr q.hl q.hr hj (by have := q.hn; omega) rfl (by show 0 < xl.length; omega) (by show xl.length ≤ 900; omega) hx hz (by show xr.length ≤ 900; omega)).mono ?_
    rintro e w' ⟨rfl, hg⟩
    refine ⟨rfl, _, z, xl ++ [x], xr.drop 1, al, ar, hg, ?_⟩
    have e1 := tl.2.1
    have e2 := tr.2.1
    obtain ⟨t1, t2, t3⟩ := left_leaf (M' := upd (upd (upd M l (some ⟨xl ++ [x], []⟩)) r (some ⟨xr.drop 1, []⟩)) a (some ⟨n.ks.set j z, n.cs⟩)) tl tr hx hz (by intro e; subst e; simp at z1)
      (((upd_other _ _ hal.symm).trans (upd_other _ _ hlr)).trans (upd_same _ _ _)) ((upd_other _ _ har.symm).trans (upd_same _ _ _))
    refine ⟨upd_same _ _ _, ⟨t1, _, t1.1, ?_, ?_⟩, ⟨t2, _, t2.1, ?_, ?_⟩, t3, fun b => rfl, fun b h1 h2 h3 => ?_⟩
    · simp [Nd.size]; omega
    · simp [Nd.size]; omega
    · simp [Nd.size]; omega
    · simp [Nd.size]; omega
    · rw [e1] at h2
      rw [e2] at h3
      exact ((upd_other _ _ h1).trans (upd_other _ _ (by simpa using h3))).trans (upd_other _ _ (by simpa using h2))
  | succ h =>
    obtain ⟨kl, cl, gl, hl', rfl, tl⟩ := q.tl
    obtain ⟨kr, cr, gr, hr', rfl, tr⟩ := q.tr
    rw [hl'] at hl
    cases hl
    rw [hr'] at hr
    cases hr
    have ll := tl.len
    have lr := tr.len
    have nel : cl ≠ [] := by intro e; subst e; simp at ll
    have ner : cr ≠ [] := by intro e; subst e; simp at lr
    simp only [Nd.size, if_neg nel] at z1 z2
    simp only [Nd.size, if_neg ner] at z3 z4
    obtain ⟨x, hx⟩ : ∃ x, kr[0]? = some x := ⟨kr[0], List.getElem?_eq_getElem (by omega)⟩
    obtain ⟨y, hy⟩ : ∃ y, cr[0]? = some y := ⟨cr[0], List.getElem?_eq_getElem (by omega)⟩
    refine (moveLeft53_inner p q.ha hl' hr' hal har hlr q.hl q.hr q.hk (by have := q.hn; omega) (by show 0 < kl.length; omega) (by show kl.length ≤ 900; omega) (by show 0 < cl.length; omega) (by show cl.length ≤ 900; omega) hx hy (by show kr.length ≤ 900; omega) (by show 1 < cr.length; omega) (by show cr.length ≤ 900; omega)).mono ?_
    rintro e w' ⟨rfl, M', hg, u⟩
    obtain ⟨xl', xr', gl', gr', t1, t2, t3, t4⟩ := left_inner (l := l) (r := r) (M' := M') tl tr hx hy (fun b hb => by obtain ⟨h1, h2, h3⟩ := inner_out q.nd hb; exact u.po b h1 h2 h3) u.pl u.pr
    refine ⟨rfl, M', x, xl', xr', _, _, hg, u.pa, ⟨t1, _, u.pl, ?_⟩, ⟨t2, _, u.pr, ?_⟩, t3, count_pair t4, fun b h1 h2 h3 => u.po b h1 (fun e => h2 (by simp [e])) (fun e => h3 (by simp [e]))⟩
    · have hne : cl ++ [y] ≠ [] := by simp
      simp only [Nd.size, if_neg hne, List.length_append, List.length_singleton]
      omega
    · have hne : cr.drop 1 ≠ [] := by intro e; have := congrArg List.length e; simp at this; omega
      simp only [Nd.size, if_neg hne, List.length_drop]
      omega
theorem merge_T (p : Pool F w M) (q : PairIn M h a j n lo hi k l r xl xr al ar) (hzl : ∃ nl nr, M l = some nl ∧ M r = some nr ∧ 31 ≤ nl.size ∧ 31 ≤ nr.size ∧ nl.size + nr.size ≤ 64) :
    Calls Try.prog 54 #[ptr a, .int .i64 j] w fun e w' => e = .returned (.tuple #[]) ∧ ∃ M' al', Got F w M' w' ∧ Melted M M' h a j n lo hi l (xl ++ xr) al ar al' := by
  obtain ⟨nl, nr, hl, hr, z1, z2, z3⟩ := hzl
  obtain ⟨hal, har, hlr⟩ := q.ne
  have hj := (List.getElem?_eq_some_iff.1 q.hk).1
  have hn := q.hn
  have hnk := q.hnk
  cases h with
  | zero =>
    have tl := q.tl
    have tr := q.tr
    rw [tl.1] at hl
    cases hl
    rw [tr.1] at hr
    cases hr
    simp only [Nd.size, if_true] at z1 z2 z3
    refine (merge54_leaf p q.ha tl.1 tr.1 hal q.hl q.hr hj (by omega) (by omega) rfl (by show 0 < xl.length; omega) (by show xl.length ≤ 400; omega) (by show 0 < xr.length; omega) (by show xr.length ≤ 400; omega)).mono ?_
    rintro e w' ⟨rfl, M', hg, u⟩
    have e1 := tl.2.1
    have e2 := tr.2.1
    have t1 := merge_leaf (M' := M') tl tr (by intro e; subst e; simp at z1) (by intro e; subst e; simp at z2) u.pl
    refine ⟨rfl, M', al, hg, u.pa, ⟨t1, _, u.pl, ?_⟩, fun b => by simp [List.count_append], fun b h1 h2 h3 => ?_⟩
    · simp only [Nd.size, if_true, List.length_append]
      omega
    · rw [e1] at h2
      rw [e2] at h3
      exact u.po b h1 (by simpa using h2) (by simpa using h3)
  | succ h =>
    obtain ⟨kl, cl, gl, hl', rfl, tl⟩ := q.tl
    obtain ⟨kr, cr, gr, hr', rfl, tr⟩ := q.tr
    rw [hl'] at hl
    cases hl
    rw [hr'] at hr
    cases hr
    have ll := tl.len
    have lr := tr.len
    have nel : cl ≠ [] := by intro e; subst e; simp at ll
    have ner : cr ≠ [] := by intro e; subst e; simp at lr
    simp only [Nd.size, if_neg nel, if_neg ner] at z1 z2 z3
    refine (merge54_inner p q.ha hl' hr' hal hlr q.hl q.hr q.hk (by omega) (by omega) (by show 0 < kl.length; omega) (by show kl.length ≤ 400; omega) (by show 0 < kr.length; omega) (by show kr.length ≤ 400; omega) (by show 0 < cl.length; omega) (by show cl.length ≤ 400; omega) (by show 0 < cr.length; omega) (by show cr.length ≤ 400; omega)).mono ?_
    rintro e w' ⟨rfl, M', hg, u⟩
    have t1 := merge_inner (l := l) (M' := M') tl tr (fun b hb => by obtain ⟨h1, h2, h3⟩ := inner_out q.nd hb; exact u.po b h1 h2 h3) u.pl
    refine ⟨rfl, M', _, hg, u.pa, ⟨t1, _, u.pl, ?_⟩, fun b => ?_, fun b h1 h2 h3 => u.po b h1 (fun e => h2 (by simp [e])) (fun e => h3 (by simp [e]))⟩
    · have hne : cl ++ cr ≠ [] := by simp [nel]
      simp only [Nd.size, if_neg hne, List.length_append]
      omega
    · simp only [List.count_append, List.count_cons]
      omega
end
end Go.Proofs.Qxb6603837a
