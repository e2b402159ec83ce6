/- A whole tree: growing at the root, removing and shrinking. -/
import Derived.Test.Qxb6603837aWr
namespace Go.Proofs.Qxb6603837a
open Go.RowKit
structure Root (M : Mm) (h a : Nat) (xs : List ByteArray) (ad : List Nat) : Prop where
  t : T M h none none a xs ad
  nd : ad.Nodup
  own : ∃ n, M a = some n ∧ n.size ≤ 64 ∧ (n.cs ≠ [] → 2 ≤ n.cs.length)
theorem in_none (key : ByteArray) : In none none key := ⟨fun _ h => (by cases h), fun _ h => (by cases h)⟩
theorem Root.asc {M : Mm} {h a : Nat} {xs : List ByteArray} {ad : List Nat} (r : Root M h a xs ad) : Asc xs := r.t.asc.1
def GrowPost (F : Nat → Prop) (key : ByteArray) (xs : List ByteArray) (w : World) (e : Ending) (w' : World) : Prop :=
  ∃ M' h' a' ad', e = .returned (.tuple #[ptr a', .bool (!has key xs), .bool true]) ∧ Got F w M' w' ∧ Root M' h' a' (insK key xs) ad'
section
variable {F : Nat → Prop} {M : Mm} {h a : Nat} {key : ByteArray} {xs : List ByteArray} {ad : List Nat} {w : World}
theorem Root.grew {M' : Mm} {N : Nat} {ad' : List Nat} (r : Root M h a xs ad) (g : Grew M M' h a N none none key xs ad ad') : Root M' h a (insK key xs) ad' := by
  obtain ⟨n, n', h1, h2, h3, h4⟩ := g.sz
  refine ⟨g.t, g.fa.nodup r.nd, n', h2, h4, fun hne => ?_⟩
  obtain ⟨m, hm, _, hm2⟩ := r.own
  rw [h1] at hm
  cases hm
  cases h with
  | zero =>
    obtain ⟨e, _⟩ := g.t
    rw [h2] at e
    cases e
    exact absurd rfl hne
  | succ h =>
    obtain ⟨ks, cs, _, e, _, ts⟩ := r.t
    rw [h1] at e
    cases e
    have := ts.len
    have hc : cs ≠ [] := by intro e; subst e; simp at this
    have h5 : 2 ≤ cs.length := hm2 hc
    simp only [Nd.size, if_neg hc, if_neg hne] at h3
    omega
theorem Root.split {M1 M2 : Mm} {N b q : Nat} {sep : ByteArray} {x1 x2 : List ByteArray} {a1 a2 : List Nat} (r : Root M h a xs ad) (g : Halved M M1 h a b N none none sep key xs ad x1 x2 a1 a2) (hq : ∀ d n, M1 d = some n → d ≠ q) (h2 : M2 = upd M1 q (some ⟨[sep], [a, b]⟩)) :
    Root M2 (h + 1) q (insK key xs) (q :: (a1 ++ a2)) := by
  subst h2
  have hs1 : ∀ d ∈ a1, d ≠ q := fun d hd => by obtain ⟨n, hn⟩ := T.some' g.tl.1 d hd; exact hq d n hn
  have hs2 : ∀ d ∈ a2, d ≠ q := fun d hd => by obtain ⟨n, hn⟩ := T.some' g.tr.1 d hd; exact hq d n hn
  refine ⟨⟨[sep], [a, b], a1 ++ a2, upd_same _ _ _, rfl, ?_⟩, List.nodup_cons.2 ⟨fun e => ?_, g.fa.nodup r.nd⟩, _, upd_same _ _ _, by simp [Nd.size], fun _ => by simp⟩
  · rw [g.xs]
    exact ⟨x1, a1, x2, a2, rfl, rfl, Ch.frame (fun d hd => upd_other _ _ (hs1 d hd)) g.tl, Ch.frame (fun d hd => upd_other _ _ (hs2 d hd)) g.tr⟩
  · rcases List.mem_append.1 e with e | e
    · exact hs1 q e rfl
    · exact hs2 q e rfl
set_option maxHeartbeats 1000000 in
theorem grow22 (p : Pool F w M) (r : Root M h a xs ad) : Calls Try.prog 22 #[ptr a, .string key] w (GrowPost F key xs w) := by
  obtain ⟨n, hn, hz, _⟩ := r.own
  have hi := insert_T (key := key) h p r.t r.nd (in_none key) ⟨n, hn, hz⟩
  have hi' : Calls Try.prog 33 #[ptr a, .string key] w fun e w' => ∃ x y z, e = .returned (.tuple #[x, y, z]) ∧ InsOut F M h a none none key xs ad w (.returned (.tuple #[x, y, z])) w' := by
    refine hi.mono ?_
    intro e w' hq
    rcases id hq with ⟨_, _, rfl, _⟩ | ⟨_, _, _, _, _, _, _, rfl, _⟩
    · exact ⟨_, _, _, rfl, hq⟩
    · exact ⟨_, _, _, rfl, hq⟩
  have HR : Hid _ := r
  clear p r hi
  go_enter Try.func22, Try.ntmps22
  go_wp2_with fail
  refine (zzInsert15 hi').mono ?_
  rintro e w1 ⟨x, y, z, rfl, hq⟩
  rcases hq with ⟨M1, ad', e, hg, hr⟩ | ⟨M1, b, sep, x1, x2, a1, a2, e, hg, hr⟩
  · cases e
    have HG : Hid _ := hg
    have HRr : Hid _ := hr
    clear hg hr hi'
    go_wp2_with fail
    go_ret3
    exact ⟨M1, h, a, ad', rfl, HG.out, HR.out.grew HRr.out⟩
  · cases e
    have HG : Hid _ := hg
    have HRr : Hid _ := hr
    have hnw := newRoot18 w1 a b sep
    clear hg hr hi'
    go_wp2_with (first | (go_at_call 18; refine hnw.mono ?_; rintro e w2 ⟨q, v, rfl, hnn⟩; have HN : Hid _ := hnn; clear hnn))
    go_ret3
    obtain ⟨⟨V1, p1⟩, hk1⟩ := HG.out
    have hnn := HN.out
    have p2 := p1.new hnn.keeps hnn.ge hnn.node hnn.k1 hnn.k2
    refine ⟨_, h + 1, q, _, ?_, ⟨⟨_, p2⟩, hk1.and hnn.keeps.not'⟩, HR.out.split HRr.out (fun d n hd => ?_) rfl⟩
    · rw [HRr.out.hh]
      rfl
    · have := p1.its_lt hd (.inl rfl)
      have := hnn.ge
      omega
theorem remRoot23 (p : Pool F w M) (r : Root M h a xs ad) : Calls Try.prog 23 #[ptr a, .string key] w fun e w' => ∃ x, e = .returned x ∧ RemPost F M h a none none key xs ad w (.returned x) w' := by
  refine zzRemove23 ?_
  refine (remove_T (key := key) h p r.t r.nd (in_none key) r.own).mono ?_
  intro e w' hq
  rcases id hq with ⟨rfl, _⟩
  exact ⟨_, rfl, hq⟩
/-- the root after a removal: as it is, or its one child -/
theorem Root.removed {M' : Mm} {ad' : List Nat} {V : Nat → Value × Value} {w' : World} (r : Root M h a xs ad) (g : Removed M M' h a none none key xs ad ad') (p : PoolV F V w' M') :
    ∃ h' a' ad2, Root M' h' a' (remK key xs) ad2 ∧ Calls Try.prog 24 #[ptr a] w' fun e w2 => e = .returned (ptr a') ∧ w' = w2 := by
  obtain ⟨n, n', h1, h2, h3, h4⟩ := g.sz
  obtain ⟨m, hm, hz1, hz2⟩ := r.own
  rw [h1] at hm
  cases hm
  have nd' : ad'.Nodup := by
    have := r.nd
    rw [List.nodup_iff_count] at this ⊢
    exact fun b => Nat.le_trans (g.cnt b) (this b)
  by_cases hone : n'.cs.length = 1
  · cases h with
    | zero =>
      obtain ⟨e, _⟩ := g.t
      rw [h2] at e
      cases e
      simp at hone
    | succ h =>
      obtain ⟨ks, cs, ad2, e, rfl, ts⟩ := g.t
      rw [h2] at e
      cases e
      have hl := ts.len
      have hk0 : ks = [] := by
        cases ks with
        | nil => rfl
        | cons _ _ => simp at hl hone; omega
      subst hk0
      obtain ⟨c, rfl⟩ : ∃ c, cs = [c] := List.length_eq_one_iff.1 hone
      have ts : Ch M' h none none c (remK key xs) ad2 := ts
      obtain ⟨nc, hnc, z1, z2⟩ := ts.2
      refine ⟨h, c, ad2, ⟨ts.1, (List.nodup_cons.1 nd').2, nc, hnc, z2, fun hne => ?_⟩, shrink_one p h2 rfl hnc ?_⟩
      · simp [Nd.size, hne] at z1
        omega
      · intro e
        by_cases hne : nc.cs = []
        · rw [hne] at e; simp at e
        · simp [Nd.size, hne] at z1
          omega
  · refine ⟨h, a, ad', ⟨g.t, nd', n', h2, by omega, fun hne => ?_⟩, shrink_stop p h2 hone⟩
    have : 0 < n'.cs.length := List.length_pos_iff.2 hne
    omega
end
end Go.Proofs.Qxb6603837a
