/- A pair of neighbours: an item moved over, or the two made one. No Go in sight. -/
import Derived.Test.Qxb6603837aSpot
namespace Go.Proofs.Qxb6603837a
section
variable {M M' : Mm} {h a l r : Nat} {lo hi : Option ByteArray} {k : ByteArray} {xl xr : List ByteArray} {al ar : List Nat}
theorem In.lt_hi {xr : List ByteArray} (hne : xr ≠ []) (hb : ∀ y ∈ xr, In (some k) hi y) : ∀ u, hi = some u → lt k u = true := by
  intro u hu
  cases xr with
  | nil => exact absurd rfl hne
  | cons y ys =>
    have := hb y (by simp)
    exact lt_of_le_lt (this.1 k rfl) (this.2 u hu)
theorem right_leaf {m : Nat} {x : ByteArray} (tl : T M 0 lo (some k) l xl al) (tr : T M 0 (some k) hi r xr ar) (hm : xl.length = m + 1) (hx : xl[m]? = some x) (hr : xr ≠ [])
    (h1 : M' l = some ⟨xl.take m, []⟩) (h2 : M' r = some ⟨x :: xr, []⟩) : T M' 0 lo (some x) l (xl.take m) al ∧ T M' 0 (some x) hi r (x :: xr) ar ∧ xl.take m ++ x :: xr = xl ++ xr := by
  obtain ⟨l1, l2, l3, l4⟩ := tl
  obtain ⟨r1, r2, r3, r4⟩ := tr
  have e : xl = xl.take m ++ [x] := by
    have := take_snoc hx
    rw [List.take_of_length_le (by omega)] at this
    exact this
  have hxm : x ∈ xl := List.mem_of_getElem? hx
  have hxk := (l4 x hxm).2 k rfl
  have hku := In.lt_hi hr r4
  rw [e] at l3
  obtain ⟨p1, _, p3⟩ := List.pairwise_append.1 l3
  refine ⟨⟨h1, l2, p1, fun y hy => ⟨(l4 y (List.mem_of_mem_take hy)).1, fun u hu => ?_⟩⟩, ⟨h2, r2, List.pairwise_cons.2 ⟨fun y hy => lt_of_lt_le hxk ((r4 y hy).1 k rfl), r3⟩, fun y hy => ?_⟩, ?_⟩
  · cases hu; exact p3 y hy _ (by simp)
  · rcases List.mem_cons.1 hy with rfl | hy
    · exact ⟨fun u hu => by cases hu; exact lt_irrefl _, fun u hu => lt_trans hxk (hku u hu)⟩
    · exact ⟨fun u hu => by cases hu; exact lt_asymm (lt_of_lt_le hxk ((r4 y hy).1 k rfl)), (r4 y hy).2⟩
  · conv => rhs; rw [e]
    simp
theorem left_leaf {x z : ByteArray} (tl : T M 0 lo (some k) l xl al) (tr : T M 0 (some k) hi r xr ar) (hx : xr[0]? = some x) (hz : xr[1]? = some z) (hl : xl ≠ [])
    (h1 : M' l = some ⟨xl ++ [x], []⟩) (h2 : M' r = some ⟨xr.drop 1, []⟩) : T M' 0 lo (some z) l (xl ++ [x]) al ∧ T M' 0 (some z) hi r (xr.drop 1) ar ∧ xl ++ [x] ++ xr.drop 1 = xl ++ xr := by
  obtain ⟨l1, l2, l3, l4⟩ := tl
  obtain ⟨r1, r2, r3, r4⟩ := tr
  obtain ⟨ys, rfl⟩ : ∃ ys, xr = x :: z :: ys := by
    match xr, hx, hz with
    | a :: b :: ys, hx, hz => simp at hx hz; subst hx; subst hz; exact ⟨ys, rfl⟩
  have q := List.pairwise_cons.1 r3
  have q2 := List.pairwise_cons.1 q.2
  have hxz := q.1 z (by simp)
  have hkx := (r4 x (by simp)).1 k rfl
  refine ⟨⟨h1, l2, List.pairwise_append.2 ⟨l3, List.pairwise_singleton _ _, fun y hy x' hx' => ?_⟩, fun y hy => ?_⟩, ⟨h2, r2, q.2, fun y hy => ?_⟩, by simp⟩
  · simp at hx'; subst hx'
    exact lt_of_lt_le ((l4 y hy).2 k rfl) hkx
  · rcases List.mem_append.1 hy with hy | hy
    · exact ⟨(l4 y hy).1, fun u hu => by cases hu; exact lt_trans (lt_of_lt_le ((l4 y hy).2 k rfl) hkx) hxz⟩
    · simp at hy; subst hy
      refine ⟨fun u hu => ?_, fun u hu => by cases hu; exact hxz⟩
      cases xl with
      | nil => exact absurd rfl hl
      | cons y' ys' =>
        have := l4 y' (by simp)
        exact lt_asymm (lt_of_le_lt (this.1 u hu) (lt_of_lt_le (this.2 k rfl) hkx))
  · have hy : y ∈ z :: ys := hy
    refine ⟨fun u hu => ?_, (r4 y (List.mem_cons_of_mem _ hy)).2⟩
    cases hu
    rcases List.mem_cons.1 hy with rfl | hy
    · exact lt_irrefl _
    · exact lt_asymm (q2.1 y hy)
theorem merge_leaf (tl : T M 0 lo (some k) l xl al) (tr : T M 0 (some k) hi r xr ar) (hl : xl ≠ []) (hr : xr ≠ [])
    (h1 : M' l = some ⟨xl ++ xr, []⟩) : T M' 0 lo hi l (xl ++ xr) al := by
  obtain ⟨l1, l2, l3, l4⟩ := tl
  obtain ⟨r1, r2, r3, r4⟩ := tr
  have hku := In.lt_hi hr r4
  refine ⟨h1, l2, List.pairwise_append.2 ⟨l3, r3, fun y hy x hx => lt_of_lt_le ((l4 y hy).2 k rfl) ((r4 x hx).1 k rfl)⟩, fun y hy => ?_⟩
  rcases List.mem_append.1 hy with hy' | hy'
  · exact ⟨(l4 y hy').1, fun u hu => lt_trans ((l4 y hy').2 k rfl) (hku u hu)⟩
  · refine ⟨fun u hu => ?_, (r4 y hy').2⟩
    cases xl with
    | nil => exact absurd rfl hl
    | cons y' ys' =>
      have := l4 y' (by simp)
      exact lt_asymm (lt_of_le_lt (this.1 u hu) (lt_of_lt_le (this.2 k rfl) ((r4 y hy').1 k rfl)))
/-- inner nodes: the rows of children -/
theorem right_inner {kl kr : List ByteArray} {cl cr gl gr : List Nat} {m y : Nat} {x : ByteArray} (tl : Ts (Ch M h) lo (some k) kl cl xl gl) (tr : Ts (Ch M h) (some k) hi kr cr xr gr) (hm : kl.length = m + 1) (hx : kl[m]? = some x) (hy : cl[m + 1]? = some y)
    (hf : ∀ b, b ∈ gl ∨ b ∈ gr → M' b = M b) (h1 : M' l = some ⟨kl.take m, cl.take (m + 1)⟩) (h2 : M' r = some ⟨k :: kr, y :: cr⟩) :
    ∃ xl' xr' gl' gr', T M' (h + 1) lo (some x) l xl' (l :: gl') ∧ T M' (h + 1) (some x) hi r xr' (r :: gr') ∧ xl' ++ xr' = xl ++ xr ∧ gl' ++ gr' = gl ++ gr := by
  have hlen := tl.len
  have e1 : kl = kl.take m ++ x :: [] := by
    have := take_snoc hx
    rw [List.take_of_length_le (by omega)] at this
    exact this
  have e2 : cl = cl.take (m + 1) ++ [y] := by
    have := take_snoc hy
    rw [List.take_of_length_le (by omega)] at this
    exact this
  rw [e1, e2] at tl
  obtain ⟨x1, x2, g1, g2, rfl, rfl, t1, t2⟩ := Ts.cut (by simp; omega) tl
  refine ⟨x1, x2 ++ xr, g1, g2 ++ gr, ⟨_, _, g1, h1, rfl, Ts.turn (fun _ _ _ _ _ hs hc => Ch.frame (fun b hb => hf b (.inl (by simp [hs b hb]))) hc) t1⟩, ⟨_, _, _, h2, rfl, ?_⟩, by simp, by simp⟩
  refine ⟨x2, g2, xr, gr, rfl, rfl, Ch.frame (fun b hb => hf b (.inl (by simp [hb]))) t2, Ts.turn (fun _ _ _ _ _ hs hc => Ch.frame (fun b hb => hf b (.inr (hs b hb))) hc) tr⟩
theorem left_inner {kl kr : List ByteArray} {cl cr gl gr : List Nat} {y : Nat} {x : ByteArray} (tl : Ts (Ch M h) lo (some k) kl cl xl gl) (tr : Ts (Ch M h) (some k) hi kr cr xr gr) (hx : kr[0]? = some x) (hy : cr[0]? = some y)
    (hf : ∀ b, b ∈ gl ∨ b ∈ gr → M' b = M b) (h1 : M' l = some ⟨kl ++ [k], cl ++ [y]⟩) (h2 : M' r = some ⟨kr.drop 1, cr.drop 1⟩) :
    ∃ xl' xr' gl' gr', T M' (h + 1) lo (some x) l xl' (l :: gl') ∧ T M' (h + 1) (some x) hi r xr' (r :: gr') ∧ xl' ++ xr' = xl ++ xr ∧ gl' ++ gr' = gl ++ gr := by
  obtain ⟨kr', rfl⟩ : ∃ kr', kr = x :: kr' := by
    cases kr with
    | nil => simp at hx
    | cons a b => simp at hx; exact ⟨b, by rw [hx]⟩
  obtain ⟨cr', rfl⟩ : ∃ cr', cr = y :: cr' := by
    cases cr with
    | nil => simp at hy
    | cons a b => simp at hy; exact ⟨b, by rw [hy]⟩
  obtain ⟨x1, g1, x2, g2, rfl, rfl, hp, ht⟩ := tr
  have tl' : Ts (Ch M' h) lo (some k) kl cl xl gl := Ts.turn (fun _ _ _ _ _ hs hc => Ch.frame (fun b hb => hf b (.inl (hs b hb))) hc) tl
  have hp' : Ts (Ch M' h) (some k) (some x) [] [y] x1 g1 := Ch.frame (fun b hb => hf b (.inr (by simp [hb]))) hp
  have ht' : Ts (Ch M' h) (some x) hi kr' cr' x2 g2 := Ts.turn (fun _ _ _ _ _ hs hc => Ch.frame (fun b hb => hf b (.inr (by simp [hs b hb]))) hc) ht
  exact ⟨xl ++ x1, x2, gl ++ g1, g2, ⟨_, _, _, h1, rfl, Ts.glue tl' hp'⟩, ⟨_, _, _, h2, rfl, ht'⟩, by simp, by simp⟩
theorem merge_inner {kl kr : List ByteArray} {cl cr gl gr : List Nat} (tl : Ts (Ch M h) lo (some k) kl cl xl gl) (tr : Ts (Ch M h) (some k) hi kr cr xr gr)
    (hf : ∀ b, b ∈ gl ∨ b ∈ gr → M' b = M b) (h1 : M' l = some ⟨kl ++ k :: kr, cl ++ cr⟩) : T M' (h + 1) lo hi l (xl ++ xr) (l :: (gl ++ gr)) :=
  ⟨_, _, _, h1, rfl, Ts.glue (Ts.turn (fun _ _ _ _ _ hs hc => Ch.frame (fun b hb => hf b (.inl (hs b hb))) hc) tl) (Ts.turn (fun _ _ _ _ _ hs hc => Ch.frame (fun b hb => hf b (.inr (hs b hb))) hc) tr)⟩
end
end Go.Proofs.Qxb6603837a
