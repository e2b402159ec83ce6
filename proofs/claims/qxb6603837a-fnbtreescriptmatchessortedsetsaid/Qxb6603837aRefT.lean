/- refill, as a tree. -/
import Derived.Test.Qxb6603837aRef
import Derived.Test.Qxb6603837aFill
namespace Go.Proofs.Qxb6603837a
open Go.RowKit
/-- the node a stands again, and holds xs -/
structure Mended (M M' : Mm) (h a len : Nat) (lo hi : Option ByteArray) (xs : List ByteArray) (ad ad' : List Nat) : Prop where
  t : T M' (h + 1) lo hi a xs (a :: ad')
  cnt : ∀ b, ad'.count b ≤ ad.count b
  fr : ∀ b, b ≠ a → b ∉ ad → M' b = M b
  sz : ∃ n', M' a = some n' ∧ len ≤ n'.cs.length + 1 ∧ n'.cs.length ≤ len
section
variable {F : Nat → Prop} {M M' : Mm} {h a j : Nat} {n : Nd} {lo hi : Option ByteArray} {k k' : ByteArray} {l r : Nat} {xs y1 x2 xl' xr' : List ByteArray} {al ar al' ar' b1 a2 : List Nat} {w : World}
theorem ctx_out (nd : (a :: (b1 ++ (al ++ ar) ++ a2)).Nodup) {b : Nat} (hb : b ∈ b1 ∨ b ∈ a2) : b ≠ a ∧ b ∉ al ∧ b ∉ ar := by
  rw [List.nodup_iff_count] at nd
  have h1 := nd b
  simp only [List.count_append, List.count_cons] at h1
  have hb' : 0 < b1.count b + a2.count b := by
    rcases hb with hb | hb <;> have := List.count_pos_iff.2 hb <;> omega
  refine ⟨fun e => ?_, fun e => ?_, fun e => ?_⟩
  · subst e
    simp at h1
    omega
  · have := List.count_pos_iff.2 e; omega
  · have := List.count_pos_iff.2 e; omega
theorem Moved.done (mv : Moved M M' h a j n (lst lo (n.ks.take j)) (hd hi (n.ks.drop (j + 1))) l r xs al ar k' xl' xr' al' ar') (hk : n.ks[j]? = some k) (hl : n.cs[j]? = some l) (hr : n.cs[j + 1]? = some r)
    (hL : Lc (Ch M h) lo (n.ks.take j) (n.cs.take j) y1 b1) (hR : Rc (Ch M h) hi (n.ks.drop (j + 1)) (n.cs.drop (j + 2)) x2 a2) (nd : (a :: (b1 ++ (al ++ ar) ++ a2)).Nodup) :
    Mended M M' h a n.cs.length lo hi (y1 ++ xs ++ x2) (b1 ++ (al ++ ar) ++ a2) (b1 ++ (al' ++ ar') ++ a2) := by
  have hfr : ∀ b, b ∈ b1 ∨ b ∈ a2 → M' b = M b := fun b hb => by
    obtain ⟨h1, h2, h3⟩ := ctx_out nd hb
    exact mv.fr b h1 h2 h3
  have hL' : Lc (Ch M' h) lo (n.ks.take j) (n.cs.take j) y1 b1 := Lc.turn (fun _ _ _ _ _ hs hc => Ch.frame (fun b hb => hfr b (.inl (hs b hb))) hc) hL
  have hR' : Rc (Ch M' h) hi (n.ks.drop (j + 1)) (n.cs.drop (j + 2)) x2 a2 := Rc.turn (fun _ _ _ _ _ hs hc => Ch.frame (fun b hb => hfr b (.inr (hs b hb))) hc) hR
  have ht := put_pair hk hl hr hL' mv.tl mv.tr hR'
  rw [mv.xs] at ht
  refine ⟨⟨_, _, _, mv.ha, rfl, ht⟩, fun b => ?_, fun b h1 h2 => mv.fr b h1 (fun e => h2 (by simp [e])) (fun e => h2 (by simp [e])), ⟨_, mv.ha, by simp, by simp⟩⟩
  have := mv.ad b
  simp only [List.count_append] at this ⊢
  omega
theorem Melted.done (mv : Melted M M' h a j n (lst lo (n.ks.take j)) (hd hi (n.ks.drop (j + 1))) l xs al ar al') (hl : n.cs[j]? = some l) (hr : n.cs[j + 1]? = some r)
    (hL : Lc (Ch M h) lo (n.ks.take j) (n.cs.take j) y1 b1) (hR : Rc (Ch M h) hi (n.ks.drop (j + 1)) (n.cs.drop (j + 2)) x2 a2) (nd : (a :: (b1 ++ (al ++ ar) ++ a2)).Nodup) :
    Mended M M' h a n.cs.length lo hi (y1 ++ xs ++ x2) (b1 ++ (al ++ ar) ++ a2) (b1 ++ al' ++ a2) := by
  have hfr : ∀ b, b ∈ b1 ∨ b ∈ a2 → M' b = M b := fun b hb => by
    obtain ⟨h1, h2, h3⟩ := ctx_out nd hb
    exact mv.fr b h1 h2 h3
  have hL' : Lc (Ch M' h) lo (n.ks.take j) (n.cs.take j) y1 b1 := Lc.turn (fun _ _ _ _ _ hs hc => Ch.frame (fun b hb => hfr b (.inl (hs b hb))) hc) hL
  have hR' : Rc (Ch M' h) hi (n.ks.drop (j + 1)) (n.cs.drop (j + 2)) x2 a2 := Rc.turn (fun _ _ _ _ _ hs hc => Ch.frame (fun b hb => hfr b (.inr (hs b hb))) hc) hR
  have ht := put_one hl hL' mv.tl hR'
  have hlt := (List.getElem?_eq_some_iff.1 hr).1
  refine ⟨⟨_, _, _, mv.ha, rfl, ht⟩, fun b => ?_, fun b h1 h2 => mv.fr b h1 (fun e => h2 (by simp [e])) (fun e => h2 (by simp [e])), ⟨_, mv.ha, ?_, ?_⟩⟩
  · have := mv.ad b
    simp only [List.count_append] at this ⊢
    omega
  · simp only [List.length_append, List.length_take, List.length_drop]; omega
  · simp only [List.length_append, List.length_take, List.length_drop]; omega
theorem refill_T {i c : Nat} {x1 xm : List ByteArray} {a1 am : List Nat} (p : Pool F w M) (ha : M a = some n) (hlen : n.cs.length = n.ks.length + 1) (h2 : 2 ≤ n.cs.length) (h64 : n.cs.length ≤ 64) (hc : n.cs[i]? = some c)
    (hL : Lc (Ch M h) lo (n.ks.take i) (n.cs.take i) x1 a1) (hT : T M h (lst lo (n.ks.take i)) (hd hi (n.ks.drop i)) c xm am) (hR : Rc (Ch M h) hi (n.ks.drop i) (n.cs.drop (i + 1)) x2 a2)
    (nd : (a :: (a1 ++ am ++ a2)).Nodup) (hsz : ∃ nc, M c = some nc ∧ nc.size = 31) :
    Calls Try.prog 42 #[ptr a, .int .i64 i] w fun e w' => e = .returned (.tuple #[]) ∧ ∃ M' ad', Got F w M' w' ∧ Mended M M' h a n.cs.length lo hi (x1 ++ xm ++ x2) (a1 ++ am ++ a2) ad' := by
  obtain ⟨V, pv⟩ := id p
  obtain ⟨nc, hnc, hz⟩ := hsz
  have hci := (List.getElem?_eq_some_iff.1 hc).1
  have right : ∀ k2, n.ks[i]? = some k2 → ∃ r nr xr x2' ar a2', n.cs[i + 1]? = some r ∧ x2 = xr ++ x2' ∧ a2 = ar ++ a2' ∧ Ch M h (some k2) (hd hi (n.ks.drop (i + 1))) r xr ar ∧ Rc (Ch M h) hi (n.ks.drop (i + 1)) (n.cs.drop (i + 2)) x2' a2' ∧ M r = some nr ∧ 32 ≤ nr.size ∧ nr.size ≤ 64 := fun k2 hk2 => by
    rw [drop_cons' hk2] at hR
    obtain ⟨r, cs', xr, x2', ar, a2', e, rfl, rfl, hp, hr⟩ := Rc.uncons hR
    obtain ⟨nr, hnr, h1, h2⟩ := hp.2
    have e1 : n.cs[i + 1]? = some r := by rw [← List.head?_drop, e]; rfl
    have e2 : n.cs.drop (i + 2) = cs' := by
      have := drop_cons' e1
      rw [e] at this
      exact (List.cons.inj this).2.symm
    exact ⟨r, nr, xr, x2', ar, a2', e1, rfl, rfl, hp, e2 ▸ hr, hnr, h1, h2⟩
  have pairR : ∀ k2 r xr x2' ar a2', n.ks[i]? = some k2 → n.cs[i + 1]? = some r → a2 = ar ++ a2' → Ch M h (some k2) (hd hi (n.ks.drop (i + 1))) r xr ar → Rc (Ch M h) hi (n.ks.drop (i + 1)) (n.cs.drop (i + 2)) x2' a2' →
      PairIn M h a i n (lst lo (n.ks.take i)) (hd hi (n.ks.drop (i + 1))) k2 c r xm xr am ar ∧ (a :: (a1 ++ (am ++ ar) ++ a2')).Nodup := fun k2 r xr x2' ar a2' hk2 hr' e hp hrr => by
    subst e
    rw [drop_cons' hk2] at hT
    have nd' : (a :: (a1 ++ (am ++ ar) ++ a2')).Nodup := by simpa using nd
    refine ⟨⟨ha, hk2, hc, hr', h64, by omega, hT, hp.1, ?_⟩, nd'⟩
    rw [List.nodup_iff_count] at nd' ⊢
    intro b
    have := nd' b
    simp only [List.count_append, List.count_cons] at this ⊢
    omega
  rcases Nat.eq_zero_or_pos i with h0 | hpos
  · subst h0
    obtain ⟨k2, hk2⟩ : ∃ k2, n.ks[0]? = some k2 := ⟨n.ks[0], List.getElem?_eq_getElem (by omega)⟩
    obtain ⟨r, nr, xr, x2', ar, a2', hr', rfl, rfl, hp, hrr, hnr, z1, z2⟩ := right k2 hk2
    obtain ⟨hq, nd'⟩ := pairR k2 r xr x2' ar a2' hk2 hr' rfl hp hrr
    by_cases hbig : 32 < nr.size
    · refine (refill_left0 (R := fun w' => ∃ M' ad', Got F w M' w' ∧ Mended M M' h a n.cs.length lo hi (x1 ++ xm ++ (xr ++ x2')) (a1 ++ am ++ (ar ++ a2')) ad') pv ha hnr hr' hbig (by omega) (by omega) ?_)
      refine (moveLeft_T p hq ⟨nc, hnc, by omega, by omega⟩ ⟨nr, hnr, by omega, by omega⟩).mono ?_
      rintro e w' ⟨rfl, M', k', xl', xr', al', ar', hg, mv⟩
      have := mv.done hk2 hc hr' hL hrr nd'
      exact ⟨rfl, M', _, hg, by simpa using this⟩
    · refine (refill_merge0 (R := fun w' => ∃ M' ad', Got F w M' w' ∧ Mended M M' h a n.cs.length lo hi (x1 ++ xm ++ (xr ++ x2')) (a1 ++ am ++ (ar ++ a2')) ad') pv ha hnr hr' (by omega) (by omega) ?_)
      refine (merge_T p hq ⟨nc, nr, hnc, hnr, by omega, by omega, by omega⟩).mono ?_
      rintro e w' ⟨rfl, M', al', hg, mv⟩
      have := mv.done hc hr' hL hrr nd'
      exact ⟨rfl, M', _, hg, by simpa using this⟩
  · obtain ⟨j, rfl⟩ : ∃ j, i = j + 1 := ⟨i - 1, by omega⟩
    obtain ⟨k, hk⟩ : ∃ k, n.ks[j]? = some k := ⟨n.ks[j], List.getElem?_eq_getElem (by omega)⟩
    obtain ⟨l, hl⟩ : ∃ l, n.cs[j]? = some l := ⟨n.cs[j], List.getElem?_eq_getElem (by omega)⟩
    have hL0 := hL
    rw [take_snoc hk, take_snoc hl] at hL0
    obtain ⟨y1, xl, b1, al, rfl, rfl, hL', hpl⟩ := Lc.snoc hL0
    obtain ⟨nl, hnl, z1, z2⟩ := hpl.2
    have hT0 := hT
    rw [take_snoc hk, lst_snoc] at hT0
    have nd' : (a :: (b1 ++ (al ++ am) ++ a2)).Nodup := by simpa using nd
    have hq : PairIn M h a j n (lst lo (n.ks.take j)) (hd hi (n.ks.drop (j + 1))) k l c xl xm al am := by
      refine ⟨ha, hk, hl, hc, h64, by omega, hpl.1, hT0, ?_⟩
      rw [List.nodup_iff_count] at nd' ⊢
      intro b
      have := nd' b
      simp only [List.count_append, List.count_cons] at this ⊢
      omega
    have ei : (.int .i64 ((j + 1 : Nat) : Int) : Value) = .int .i64 ((j : Int) + 1) := by rw [Int.natCast_add]; rfl
    rw [ei]
    by_cases hbig : 32 < nl.size
    · refine (refill_right (R := fun w' => ∃ M' ad', Got F w M' w' ∧ Mended M M' h a n.cs.length lo hi (y1 ++ xl ++ xm ++ x2) (b1 ++ al ++ am ++ a2) ad') pv ha hnl hl hbig (by omega) (by omega) ?_)
      refine (moveRight_T p hq ⟨nl, hnl, by omega, by omega⟩ ⟨nc, hnc, by omega, by omega⟩).mono ?_
      rintro e w' ⟨rfl, M', k', xl', xr', al', ar', hg, mv⟩
      have := mv.done hk hl hc hL' hR nd'
      exact ⟨rfl, M', _, hg, by simpa using this⟩
    · by_cases hend : n.cs.length = j + 2
      · refine (refill_mergeE (R := fun w' => ∃ M' ad', Got F w M' w' ∧ Mended M M' h a n.cs.length lo hi (y1 ++ xl ++ xm ++ x2) (b1 ++ al ++ am ++ a2) ad') pv ha hnl hl hend (by omega) (by omega) ?_)
        refine (merge_T p hq ⟨nl, nc, hnl, hnc, by omega, by omega, by omega⟩).mono ?_
        rintro e w' ⟨rfl, M', al', hg, mv⟩
        have := mv.done hl hc hL' hR nd'
        exact ⟨rfl, M', _, hg, by simpa using this⟩
      · obtain ⟨k2, hk2⟩ : ∃ k2, n.ks[j + 1]? = some k2 := ⟨n.ks[j + 1], List.getElem?_eq_getElem (by omega)⟩
        obtain ⟨r, nr, xr, x2', ar, a2', hr', rfl, rfl, hp, hrr, hnr, z3, z4⟩ := right k2 hk2
        by_cases hbig2 : 32 < nr.size
        · obtain ⟨hq2, nd2⟩ := pairR k2 r xr x2' ar a2' hk2 hr' rfl hp hrr
          refine (refill_left (R := fun w' => ∃ M' ad', Got F w M' w' ∧ Mended M M' h a n.cs.length lo hi (y1 ++ xl ++ xm ++ (xr ++ x2')) (b1 ++ al ++ am ++ (ar ++ a2')) ad') pv ha hnl hnr hl hr' (by omega) hbig2 (by omega) (by omega) ?_)
          rw [← ei]
          refine (moveLeft_T p hq2 ⟨nc, hnc, by omega, by omega⟩ ⟨nr, hnr, by omega, by omega⟩).mono ?_
          rintro e w' ⟨rfl, M', k', xl', xr', al', ar', hg, mv⟩
          have := mv.done hk2 hc hr' hL hrr nd2
          exact ⟨rfl, M', _, hg, by simpa using this⟩
        · refine (refill_mergeR (R := fun w' => ∃ M' ad', Got F w M' w' ∧ Mended M M' h a n.cs.length lo hi (y1 ++ xl ++ xm ++ (xr ++ x2')) (b1 ++ al ++ am ++ (ar ++ a2')) ad') pv ha hnl hnr hl hr' (by omega) (by omega) (by omega) ?_)
          refine (merge_T p hq ⟨nl, nc, hnl, hnc, by omega, by omega, by omega⟩).mono ?_
          rintro e w' ⟨rfl, M', al', hg, mv⟩
          have := mv.done hl hc hL' hR nd'
          exact ⟨rfl, M', _, hg, by simpa using this⟩
end
end Go.Proofs.Qxb6603837a
