/- remove, as a tree: by induction on the height. -/
import Derived.Test.Qxb6603837aRefT
namespace Go.Proofs.Qxb6603837a
open Go.RowKit
/-- what remove makes -/
structure Removed (M M' : Mm) (h a : Nat) (lo hi : Option ByteArray) (key : ByteArray) (xs : List ByteArray) (ad ad' : List Nat) : Prop where
  t : T M' h lo hi a (remK key xs) ad'
  cnt : ∀ b, ad'.count b ≤ ad.count b
  fr : ∀ b, b ∉ ad → M' b = M b
  no : has key xs = false → M' = M ∧ ad' = ad
  sz : ∃ n n', M a = some n ∧ M' a = some n' ∧ n.size ≤ n'.size + 1 ∧ n'.size ≤ n.size
section
variable {F : Nat → Prop} {M M' : Mm} {h a : Nat} {n : Nd} {lo hi : Option ByteArray} {key : ByteArray} {xs : List ByteArray} {ad : List Nat} {w : World}
set_option maxHeartbeats 2000000 in
set_option maxRecDepth 100000 in
theorem remove_leaf (p : Pool F w M) (t : T M 0 lo hi a xs ad) (hz : xs.length ≤ 64) :
    Calls Try.prog 34 #[ptr a, .string key] w fun e w' => e = .returned (.bool (has key xs)) ∧ ∃ M' ad', Got F w M' w' ∧ Removed M M' 0 a lo hi key xs ad ad' := by
  obtain ⟨V, p⟩ := p
  have hm := t.1
  have hasc : Asc xs := t.2.2.1
  have na := p.node a _ hm
  have hlf : (Nd.mk xs []).leaf? = true := rfl
  have hf := find36 na key hasc (by show xs.length ≤ 1000; omega)
  have hh := hit_iff key xs hasc
  have hp := pos_le key xs
  have hfnd : (Nd.mk xs []).fnd key = (pos key xs, has key xs) := by simp [Nd.fnd, Nd.leaf?, hh]
  rw [hfnd] at hf
  have hlf35 := leaf35 na
  rw [hlf] at hlf35
  cases hk : has key xs
  · rw [hk] at hf
    have HG : Hid (Pool F w M) := ⟨V, p⟩
    have hrem : remK key xs = xs := remK_absent (has_false.1 hk)
    clear p na
    generalize pos key xs = i at *
    go_enter Try.func34, Try.ntmps34
    go_wp2_with (first | (go_at_call 36; refine hf.mono ?_; rintro e w' ⟨rfl, rfl⟩) | (go_at_call 35; refine hlf35.mono ?_; rintro e w' ⟨rfl, rfl⟩))
    go_ret
    refine ⟨rfl, M, ad, ⟨HG.out, Keeps.refl _ _⟩, ⟨by rw [hrem]; exact t, fun _ => Nat.le_refl _, fun _ _ => rfl, fun _ => ⟨rfl, rfl⟩, _, _, hm, hm, by omega, Nat.le_refl _⟩⟩
  · rw [hk] at hf
    obtain ⟨hlt, hrem⟩ := remK_at hasc (has_iff.1 hk)
    obtain ⟨g, c, hv, hgc, _, _, _⟩ := na.keyFacts (by show 0 < xs.length; omega)
    have c0 := na.cell0
    rw [hv] at c0
    have HP : Hid (PoolV F V w M) := p
    have hD := delete41 _ _ (pos key xs) w (by simpa using hlt) na.keys (by simp; omega) (one_str _)
    have hD' : Calls Try.prog 41 #[.slice (some ⟨g, 0, none⟩) xs.length c, .int .i64 (pos key xs), .int .i64 ((pos key xs : Int) + 1)] w (DelPost w 9 (V a).1 ((remK key xs).map Value.string)) := by
      rw [hrem]
      rw [hv] at hD ⊢
      simpa using hD
    have hrl : (remK key xs).length = xs.length - 1 := by rw [hrem, List.length_append, List.length_take, List.length_drop]; omega
    simp only [] at c0
    clear p na hD hrem hfnd hh
    generalize pos key xs = i at *
    go_enter Try.func34, Try.ntmps34
    go_wp2_with (first | (go_at_call 36; refine hf.mono ?_; rintro e w' ⟨rfl, rfl⟩) | (go_at_call 35; refine hlf35.mono ?_; rintro e w' ⟨rfl, rfl⟩) | (go_at_call 41; refine hD'.mono ?_; intro e w1 hq; obtain ⟨g1, c1, rfl⟩ := del_ret hq (by rw [hv]; simp [Value.ownBlock]) (m := xs.length - 1) (by simpa using hrl); obtain ⟨h1, h2, h3⟩ := PoolV.delKeys HP.out hm hq; obtain ⟨x0, x1, x2, x3⟩ := at_facts h1; have HG : Hid _ := And.intro h2 h3; clear hq h1 h2 h3))
    go_ret
    refine ⟨rfl, _, ad, ⟨⟨_, HG.out.1⟩, HG.out.2⟩, ?_⟩
    refine ⟨rem_leaf t (upd_same _ _ _), fun _ => Nat.le_refl _, fun b hb => upd_other _ _ (fun e => hb (by rw [t.2.1, e]; simp)), fun h => (by rw [hk] at h; cases h), _, _, hm, upd_same _ _ _, ?_, ?_⟩
    · simp only [Nd.size, if_true]; omega
    · simp only [Nd.size, if_true]; omega
/-- a child turned, the rest as it was -/
theorem ctx_frame {h : Nat} {M M1 : Mm} {ks1 ks2 : List ByteArray} {cs1 cs2 : List Nat} {x1 x2 : List ByteArray} {a1 am a2 : List Nat} (nd : (a1 ++ am ++ a2).Nodup) (hfr : ∀ b n, b ∉ am → M b = some n → M1 b = some n)
    (hL : Lc (Ch M h) lo ks1 cs1 x1 a1) (hR : Rc (Ch M h) hi ks2 cs2 x2 a2) (hs : ∀ b, b ∈ a1 ∨ b ∈ a2 → ∃ n, M b = some n) : Lc (Ch M1 h) lo ks1 cs1 x1 a1 ∧ Rc (Ch M1 h) hi ks2 cs2 x2 a2 := by
  have hout : ∀ b, b ∈ a1 ∨ b ∈ a2 → M1 b = M b := fun b hb => by
    obtain ⟨n, hn⟩ := hs b hb
    rw [hn]
    refine hfr b n (fun e => ?_) hn
    rw [List.nodup_iff_count] at nd
    have h1 := nd b
    simp only [List.count_append] at h1
    have := List.count_pos_iff.2 e
    rcases hb with hb | hb <;> have := List.count_pos_iff.2 hb <;> omega
  exact ⟨Lc.turn (fun _ _ _ _ _ hs hc => Ch.frame (fun b hb => hout b (.inl (hs b hb))) hc) hL, Rc.turn (fun _ _ _ _ _ hs hc => Ch.frame (fun b hb => hout b (.inr (hs b hb))) hc) hR⟩
theorem has_mid {key : ByteArray} {a m b : List ByteArray} (ha : ∀ x ∈ a, lt x key = true) (hb : ∀ x ∈ b, lt key x = true) : has key (a ++ m ++ b) = has key m := by
  cases hm : has key m
  · rw [has_false] at hm ⊢
    simp [hm, not_mem_of_lt ha, not_mem_of_gt hb]
  · rw [has_iff] at hm ⊢
    simp [hm]
/-- where the key belongs: its child, and what stands around -/
structure Around (M : Mm) (h a : Nat) (lo hi : Option ByteArray) (key : ByteArray) (ks : List ByteArray) (cs : List Nat) (i c : Nat) (x1 xm x2 : List ByteArray) (a1 am a2 : List Nat) : Prop where
  hm : M a = some ⟨ks, cs⟩
  hlen : cs.length = ks.length + 1
  hc : cs[i]? = some c
  hL : Lc (Ch M h) lo (ks.take i) (cs.take i) x1 a1
  hC : Ch M h (lst lo (ks.take i)) (hd hi (ks.drop i)) c xm am
  hR : Rc (Ch M h) hi (ks.drop i) (cs.drop (i + 1)) x2 a2
  hb1 : ∀ x ∈ x1, lt x key = true
  hb2 : ∀ x ∈ x2, lt key x = true
  hin : In (lst lo (ks.take i)) (hd hi (ks.drop i)) key
  nd : (a :: (a1 ++ am ++ a2)).Nodup
  hs : ∀ b, b ∈ a1 ∨ b ∈ a2 → ∃ n, M b = some n
theorem around {xs : List ByteArray} {ks : List ByteArray} {cs ad' : List Nat} (hm : M a = some ⟨ks, cs⟩) (ts : Ts (Ch M h) lo hi ks cs xs ad') (nd : (a :: ad').Nodup) (hin : In lo hi key) :
    Asc ks ∧ ∃ c x1 xm x2 a1 am a2, xs = x1 ++ xm ++ x2 ∧ ad' = a1 ++ am ++ a2 ∧ Around M h a lo hi key ks cs (kidAt key ks) c x1 xm x2 a1 am a2 := by
  have hgood : ∀ lo hi c xs ad, Ch M h lo hi c xs ad → Good lo hi xs := fun _ _ _ _ _ hc => Ch.good hc
  have hasc := (Ts.good hgood ts).2.1
  have hki := (kidAt_split key ks hasc).1
  obtain ⟨c, x1, xm, x2, a1, am, a2, hc, rfl, rfl, hL, hC, hR⟩ := ts.at' hki
  obtain ⟨hin', hb1, hb2⟩ := key_place hgood hasc hin hL hR
  exact ⟨hasc, c, x1, xm, x2, a1, am, a2, rfl, rfl, hm, ts.len, hc, hL, hC, hR, hb1, hb2, hin', nd, fun b hb => Ts.some' (fun _ _ _ _ _ hc => T.some' hc.1) ts b (by rcases hb with hb | hb <;> simp [hb])⟩
section
variable {M1 M2 : Mm} {ks : List ByteArray} {cs : List Nat} {i c : Nat} {x1 xm x2 : List ByteArray} {a1 am a2 am' ad' : List Nat}
theorem Around.nodup' (q : Around M h a lo hi key ks cs i c x1 xm x2 a1 am a2) (hcnt : ∀ b, am'.count b ≤ am.count b) : (a :: (a1 ++ am' ++ a2)).Nodup := by
  have nd := q.nd
  rw [List.nodup_iff_count] at nd ⊢
  intro b
  have h1 := nd b
  have h2 := hcnt b
  simp only [List.count_append, List.count_cons] at h1 ⊢
  omega
theorem Around.same (q : Around M h a lo hi key ks cs i c x1 xm x2 a1 am a2) (hr : Removed M M1 h c (lst lo (ks.take i)) (hd hi (ks.drop i)) key xm am am') :
    M1 a = some ⟨ks, cs⟩ ∧ Lc (Ch M1 h) lo (ks.take i) (cs.take i) x1 a1 ∧ Rc (Ch M1 h) hi (ks.drop i) (cs.drop (i + 1)) x2 a2 := by
  have nd := List.nodup_cons.1 q.nd
  refine ⟨(hr.fr a (fun e => nd.1 (by simp [e]))).trans q.hm, ctx_frame nd.2 (fun b n hb hn => (hr.fr b hb).trans hn) q.hL q.hR q.hs⟩
theorem Around.up (q : Around M h a lo hi key ks cs i c x1 xm x2 a1 am a2) (hr : Removed M M1 h c (lst lo (ks.take i)) (hd hi (ks.drop i)) key xm am am') (hz : Sz M1 c) :
    Removed M M1 (h + 1) a lo hi key (x1 ++ xm ++ x2) (a :: (a1 ++ am ++ a2)) (a :: (a1 ++ am' ++ a2)) := by
  obtain ⟨hm', hL', hR'⟩ := q.same hr
  have ht := Ts.put q.hc hL' ⟨hr.t, hz⟩ hR'
  refine ⟨?_, fun b => ?_, fun b hb => hr.fr b (fun e => hb (by simp [e])), fun hh => ?_, _, _, q.hm, hm', by omega, Nat.le_refl _⟩
  · rw [remK_mid q.hb1 q.hb2]
    exact ⟨_, _, _, hm', rfl, ht⟩
  · have := hr.cnt b
    simp only [List.count_append, List.count_cons]
    omega
  · rw [has_mid q.hb1 q.hb2] at hh
    obtain ⟨e1, e2⟩ := hr.no hh
    exact ⟨e1, by rw [e2]⟩
theorem Around.mend (q : Around M h a lo hi key ks cs i c x1 xm x2 a1 am a2) (hr : Removed M M1 h c (lst lo (ks.take i)) (hd hi (ks.drop i)) key xm am am') (hk : has key xm = true)
    (hd' : Mended M1 M2 h a cs.length lo hi (x1 ++ remK key xm ++ x2) (a1 ++ am' ++ a2) ad') :
    Removed M M2 (h + 1) a lo hi key (x1 ++ xm ++ x2) (a :: (a1 ++ am ++ a2)) (a :: ad') := by
  obtain ⟨n', hn', z1, z2⟩ := hd'.sz
  have hne : cs ≠ [] := by intro e; have := q.hlen; rw [e] at this; simp at this
  refine ⟨?_, fun b => ?_, fun b hb => ?_, fun hh => ?_, _, _, q.hm, hn', ?_, ?_⟩
  · rw [remK_mid q.hb1 q.hb2]
    exact hd'.t
  · have h1 := hr.cnt b
    have h2 := hd'.cnt b
    simp only [List.count_append, List.count_cons] at h1 h2 ⊢
    omega
  · rw [hd'.fr b (fun e => hb (by simp [e])) (fun e => ?_)]
    · exact hr.fr b (fun e => hb (by simp [e]))
    · have h1 := hr.cnt b
      have h2 := List.count_pos_iff.2 e
      simp only [List.count_append] at h2
      have : 0 < (a1 ++ am ++ a2).count b := by simp only [List.count_append]; omega
      exact hb (List.mem_cons_of_mem _ (List.count_pos_iff.1 this))
  · rw [has_mid q.hb1 q.hb2, hk] at hh
    cases hh
  · have hne' : n'.cs ≠ [] := by
      obtain ⟨_, _, _, h1, _, h3⟩ := hd'.t
      rw [h1] at hn'
      cases hn'
      have := h3.len
      intro e
      simp only [] at e
      rw [e] at this
      simp at this
    simp only [Nd.size, if_neg hne, if_neg hne']
    exact z1
  · have hne' : n'.cs ≠ [] := by
      obtain ⟨_, _, _, h1, _, h3⟩ := hd'.t
      rw [h1] at hn'
      cases hn'
      have := h3.len
      intro e
      simp only [] at e
      rw [e] at this
      simp at this
    simp only [Nd.size, if_neg hne, if_neg hne']
    exact z2
end
def RemPost (F : Nat → Prop) (M : Mm) (h a : Nat) (lo hi : Option ByteArray) (key : ByteArray) (xs : List ByteArray) (ad : List Nat) (w : World) (e : Ending) (w' : World) : Prop :=
  e = .returned (.bool (has key xs)) ∧ ∃ M' ad', Got F w M' w' ∧ Removed M M' h a lo hi key xs ad ad'
set_option maxHeartbeats 2000000 in
set_option maxRecDepth 100000 in
theorem remove_inner {ks : List ByteArray} {cs : List Nat} {i c : Nat} {x1 xm x2 : List ByteArray} {a1 am a2 : List Nat} (p : Pool F w M) (hasc : Asc ks) (hi0 : kidAt key ks = i) (q : Around M h a lo hi key ks cs i c x1 xm x2 a1 am a2) (hz2 : 2 ≤ cs.length) (hz1 : cs.length ≤ 64)
    (ih : Calls Try.prog 34 #[ptr c, .string key] w (RemPost F M h c (lst lo (ks.take i)) (hd hi (ks.drop i)) key xm am w)) :
    Calls Try.prog 34 #[ptr a, .string key] w (RemPost F M (h + 1) a lo hi key (x1 ++ xm ++ x2) (a :: (a1 ++ am ++ a2)) w) := by
  obtain ⟨nc, hnc, hs1, hs2⟩ := q.hC.2
  have hlen := q.hlen
  have hne : cs ≠ [] := by intro e; subst e; simp at hlen
  have hhas := has_mid (key := key) (m := xm) q.hb1 q.hb2
  have hm := q.hm
  obtain ⟨V, pv⟩ := p
  have na := pv.node a _ hm
  have hf := find36 na key hasc (by show ks.length ≤ 1000; omega)
  have hlf : (Nd.mk ks cs).leaf? = false := by simpa [Nd.leaf?] using hne
  have hfnd : (Nd.mk ks cs).fnd key = (i, false) := by
    rw [← hi0]
    unfold Nd.fnd kidAt
    rw [hlf]
    cases hit key ks <;> simp
  rw [hfnd] at hf
  have hlf35 := leaf35 na
  rw [hlf] at hlf35
  obtain ⟨gc, cc, hvc, hgc, _, hcs, _⟩ := na.kidFacts (by show 0 < cs.length; omega)
  have c1 := na.cell1
  rw [hvc] at c1
  have e1 := hcs _ c q.hc
  have HQ : Hid (Around M h a lo hi key ks cs i c x1 xm x2 a1 am a2) := q
  have hci := (List.getElem?_eq_some_iff.1 q.hc).1
  unfold RemPost at ih ⊢
  rw [hhas]
  simp only [] at c1
  clear pv na hcs hfnd q hasc hne hlf hi0 hvc hgc hhas hlen
  generalize hLc : cs.length = L at *
  cases hk : has key xm
  · rw [hk] at ih
    go_enter Try.func34, Try.ntmps34
    go_wp2_with (first | (go_at_call 36; refine hf.mono ?_; rintro e w' ⟨rfl, rfl⟩) | (go_at_call 35; refine hlf35.mono ?_; rintro e w' ⟨rfl, rfl⟩) | (go_at_call 34; refine ih.mono ?_; rintro e w1 ⟨rfl, hM⟩; have HM : Hid _ := hM; clear hM))
    go_ret
    obtain ⟨M', am', hg, hr⟩ := HM.out
    have hno := hr.no hk
    exact ⟨rfl, M', _, hg, HQ.out.up hr ⟨nc, by rw [hno.1]; exact hnc, hs1, hs2⟩⟩
  · rw [hk] at ih
    go_enter Try.func34, Try.ntmps34
    go_upto_region 9 with (first | (go_at_call 36; refine hf.mono ?_; rintro e w' ⟨rfl, rfl⟩) | (go_at_call 35; refine hlf35.mono ?_; rintro e w' ⟨rfl, rfl⟩) | (go_at_call 34; refine ih.mono ?_; rintro e w1 ⟨rfl, hM⟩; have HM : Hid _ := hM; clear hM))
    obtain ⟨M1, am', hg, hr⟩ := HM.out
    obtain ⟨n0, n1, hn0, hn1, z1, z2⟩ := hr.sz
    rw [hnc] at hn0
    cases hn0
    obtain ⟨V1, pv1⟩ := hg.1
    have hS := size39 (pv1.node c n1 hn1)
    have HG : Hid _ := hg
    have HRm : Hid _ := hr
    clear hg hr pv1 HM
    by_cases hsm : n1.size < 32
    · obtain ⟨hm', hL', hR'⟩ := HQ.out.same HRm.out
      have hrf := refill_T HG.out.1 hm' HQ.out.hlen (by show 2 ≤ cs.length; omega) (by show cs.length ≤ 64; omega) HQ.out.hc hL' HRm.out.t hR' (HQ.out.nodup' HRm.out.cnt) ⟨n1, hn1, by omega⟩
      clear hm' hL' hR'
      generalize n1.size = s at *
      go_wp2_with (first | (go_at_call 39; refine hS.mono ?_; rintro e w' ⟨rfl, rfl⟩) | (go_at_call 42; refine hrf.mono ?_; rintro e w2 ⟨rfl, hM⟩; have HM : Hid _ := hM; clear hM))
      go_ret
      obtain ⟨M2, ad', hg2, hme⟩ := HM.out
      exact ⟨rfl, M2, _, ⟨hg2.1, HG.out.2.and hg2.2⟩, HQ.out.mend HRm.out hk hme⟩
    · have hz : Sz M1 c := ⟨n1, hn1, by omega, by omega⟩
      have HZ : Hid _ := hz
      clear hz
      generalize n1.size = s at *
      go_wp2_with (first | (go_at_call 39; refine hS.mono ?_; rintro e w' ⟨rfl, rfl⟩))
      go_ret
      exact ⟨rfl, M1, _, HG.out, HQ.out.up HRm.out HZ.out⟩
theorem remove_T : ∀ (h : Nat) {a : Nat} {lo hi : Option ByteArray} {xs : List ByteArray} {ad : List Nat} {M : Mm} {w : World}, Pool F w M → T M h lo hi a xs ad → ad.Nodup → In lo hi key → (∃ n, M a = some n ∧ n.size ≤ 64 ∧ (n.cs ≠ [] → 2 ≤ n.cs.length)) →
    Calls Try.prog 34 #[ptr a, .string key] w (RemPost F M h a lo hi key xs ad w)
  | 0, a, lo, hi, xs, ad, M, w, p, t, _, _, hz => by
    obtain ⟨n, hn, hz, _⟩ := hz
    rw [t.1] at hn
    cases hn
    exact remove_leaf p t (by simpa [Nd.size] using hz)
  | h + 1, a, lo, hi, xs, ad, M, w, p, t, nd, hin, hz => by
    obtain ⟨ks, cs, ad', hm, rfl, ts⟩ := t
    obtain ⟨n, hn, hz1, hz2⟩ := hz
    rw [hm] at hn
    cases hn
    have hlen := ts.len
    have hne : cs ≠ [] := by intro e; subst e; simp at hlen
    have hz2 : 2 ≤ cs.length := hz2 hne
    simp only [Nd.size, if_neg hne] at hz1
    obtain ⟨hasc, c, x1, xm, x2, a1, am, a2, rfl, rfl, q⟩ := around hm ts nd hin
    obtain ⟨nc, hnc, hs1, hs2⟩ := q.hC.2
    have nd2 := (List.nodup_cons.1 nd).2
    exact remove_inner p hasc rfl q hz2 hz1 (remove_T h p q.hC.1 ((List.nodup_append.1 (List.nodup_append.1 nd2).1).2.1) q.hin ⟨nc, hnc, hs2, fun hne => by simp [Nd.size, hne] at hs1; omega⟩)
end
end Go.Proofs.Qxb6603837a
