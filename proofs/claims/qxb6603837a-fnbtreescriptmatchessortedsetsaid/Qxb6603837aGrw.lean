/- insert, as a tree: by induction on the height. -/
import Derived.Test.Qxb6603837aRemv
import Derived.Test.Qxb6603837aSplit2
namespace Go.Proofs.Qxb6603837a
open Go.RowKit
/-- insert, no split -/
structure Grew (M M' : Mm) (h a N : Nat) (lo hi : Option ByteArray) (key : ByteArray) (xs : List ByteArray) (ad ad' : List Nat) : Prop where
  t : T M' h lo hi a (insK key xs) ad'
  fa : Fr N ad ad'
  fr : ∀ b n, b ∉ ad → M b = some n → M' b = some n
  sz : ∃ n n', M a = some n ∧ M' a = some n' ∧ n.size ≤ n'.size ∧ n'.size ≤ 64
/-- insert, and a split: b is the second half -/
structure Halved (M M' : Mm) (h a b N : Nat) (lo hi : Option ByteArray) (sep key : ByteArray) (xs : List ByteArray) (ad : List Nat) (x1 x2 : List ByteArray) (a1 a2 : List Nat) : Prop where
  hh : has key xs = false
  xs : insK key xs = x1 ++ x2
  tl : Ch M' h lo (some sep) a x1 a1
  tr : Ch M' h (some sep) hi b x2 a2
  fa : Fr N ad (a1 ++ a2)
  fr : ∀ b n, b ∉ ad → M b = some n → M' b = some n
def InsOut (F : Nat → Prop) (M : Mm) (h a : Nat) (lo hi : Option ByteArray) (key : ByteArray) (xs : List ByteArray) (ad : List Nat) (w : World) (e : Ending) (w' : World) : Prop :=
  (∃ M' ad', e = .returned (.tuple #[.bool (!has key xs), .pointer none, .string ⟨#[]⟩]) ∧ Got F w M' w' ∧ Grew M M' h a w.heap.size lo hi key xs ad ad') ∨
  (∃ M' b sep x1 x2 a1 a2, e = .returned (.tuple #[.bool true, ptr b, .string sep]) ∧ Got F w M' w' ∧ Halved M M' h a b w.heap.size lo hi sep key xs ad x1 x2 a1 a2)
theorem Pool.lt {F : Nat → Prop} {w : World} {M : Mm} (p : Pool F w M) {b : Nat} {n : Nd} (hb : M b = some n) : b < w.heap.size := by
  obtain ⟨V, p⟩ := p
  exact p.its_lt hb (.inl rfl)
section
variable {F : Nat → Prop} {M M' : Mm} {h a : Nat} {n : Nd} {lo hi : Option ByteArray} {key : ByteArray} {xs : List ByteArray} {ad : List Nat} {w : World}
theorem Fr.refl (N : Nat) {ad : List Nat} (h : ∀ b ∈ ad, b < N) : Fr N ad ad := ⟨fun _ _ => Nat.le_refl _, fun b hb => by
  rw [List.count_eq_zero_of_not_mem (fun e => by have := h b e; omega)]
  omega⟩
set_option maxHeartbeats 2000000 in
set_option maxRecDepth 100000 in
theorem insert_leaf (p : Pool F w M) (t : T M 0 lo hi a xs ad) (hin : In lo hi key) (hz : xs.length ≤ 64) : Calls Try.prog 33 #[ptr a, .string key] w (InsOut F M 0 a lo hi key xs ad w) := by
  have hlt := p.lt t.1
  have HC : Hid (∀ b n, M b = some n → b < w.heap.size) := fun b n hb => p.lt hb
  obtain ⟨V, p⟩ := p
  have hm := t.1
  have hasc : Asc xs := t.2.2.1
  have na := p.node a _ hm
  have hlf : (Nd.mk xs []).leaf? = true := rfl
  have hf := find36 na key hasc (by show xs.length ≤ 1000; omega)
  have hh := hit_iff key xs hasc
  have hp := pos_le key xs
  have hfnd : (Nd.mk xs []).fnd key = (pos key xs, has key xs) := by simp [Nd.fnd, Nd.leaf?, hh]
  rw [hfnd] at hf
  have hlf35 := leaf35 na
  rw [hlf] at hlf35
  have hFr : Fr w.heap.size ad ad := Fr.refl _ (fun b hb => by rw [t.2.1] at hb; simp at hb; subst hb; exact hlt)
  unfold InsOut
  cases hk : has key xs
  · rw [hk] at hf
    have hins : insK key xs = xs.take (pos key xs) ++ key :: xs.drop (pos key xs) := by unfold insK; rw [if_neg (by rw [hk]; decide)]
    have hil : (insK key xs).length = xs.length + 1 := by rw [insK_length, hk]; rfl
    have hI := insKeysCall (i := pos key xs) (x := key) p hm hp (by show xs.length ≤ 1000; omega)
    have c0 := na.cell0
    have HP1 : Hid (PoolV F V (w.alloc (.cells #[.string key] 9)) M) := PoolV.keep p ((Keeps.refl No w).alloc (.cells #[.string key] 9))
    have HK1 : Hid (Keeps (Not' F) w (w.alloc (.cells #[.string key] 9))) := Keeps.not' ((Keeps.refl No w).alloc (.cells #[.string key] 9))
    simp only [← hins] at hI
    have hln : (Nd.mk (insK key xs) []).ks.length = xs.length + 1 := hil
    clear p na hins hfnd hh
    generalize pos key xs = i at *
    go_enter Try.func33, Try.ntmps33
    go_upto_region 12 with (first | (go_at_call 36; refine hf.mono ?_; rintro e w' ⟨rfl, rfl⟩) | (go_at_call 35; refine hlf35.mono ?_; rintro e w' ⟨rfl, rfl⟩) | (go_at_call 37; refine hI.mono ?_; intro e w1 hq; obtain ⟨g1, c1, rfl⟩ := ins_ret hq (m := xs.length + 1) (by simpa using hil); obtain ⟨h1, h2, h3⟩ := PoolV.insKeys HP1.out hm hq; obtain ⟨x0, x1, x2, x3⟩ := at_facts h1; have HG : Hid (Got F w (upd M a (some ⟨insK key xs, []⟩)) (w1.setCell ⟨a, 0, none⟩ (.slice (some ⟨g1, 0, none⟩) (xs.length + 1) c1))) := ⟨⟨_, h2⟩, HK1.out.and h3⟩; clear hq h1 h2 h3))
    clear x0 x1 x2 x3
    generalize w1.setCell ⟨a, 0, none⟩ (.slice (some ⟨g1, 0, none⟩) (xs.length + 1) c1) = w2 at *
    obtain ⟨⟨V2, p2⟩, hk2⟩ := HG.out
    have hm2 : upd M a (some ⟨insK key xs, []⟩) a = some ⟨insK key xs, []⟩ := upd_same _ _ _
    have hS := size39 (p2.node a _ hm2)
    have hsz : (Nd.mk (insK key xs) []).size = xs.length + 1 := by simp [Nd.size, hil]
    rw [hsz] at hS
    have hfr : ∀ b n, b ∉ ad → M b = some n → upd M a (some ⟨insK key xs, []⟩) b = some n := fun b n hb hn => (upd_other _ _ (fun e => hb (by rw [t.2.1, e]; simp))).trans hn
    have HG2 : Hid _ := HG.out
    by_cases hbig : xs.length + 1 ≤ 64
    · clear p2 hk2 HG
      have HL : Hid (xs.length + 1 ≤ 64) := hbig
      go_wp2_with (first | (go_at_call 39; refine hS.mono ?_; rintro e w' ⟨rfl, rfl⟩))
      go_ret3
      refine .inl ⟨_, ad, rfl, HG2.out, ins_leaf t hin hm2, hFr, hfr, _, _, hm, hm2, ?_, ?_⟩
      · rw [hsz]; simp [Nd.size]
      · rw [hsz]; exact HL.out
    · have h65 : (insK key xs).length = 65 := by omega
      obtain ⟨sep, hsep⟩ : ∃ sep, (insK key xs)[32]? = some sep := ⟨(insK key xs)[32], List.getElem?_eq_getElem (by omega)⟩
      have hsp := split40_leaf p2 hm2 rfl h65 sep hsep
      have hsz2 := hk2.size
      have HN : Hid (w.heap.size ≤ w2.heap.size ∧ (insK key xs).length = 65) := ⟨hsz2, h65⟩
      clear p2 hk2 HG hsz2
      go_wp2_with (first | (go_at_call 39; refine hS.mono ?_; rintro e w' ⟨rfl, rfl⟩) | (go_at_call 40; refine hsp.mono ?_; rintro e w3 ⟨b, rfl, hb, hp3, hk3⟩; have H3 : Hid _ := And.intro hb (And.intro hp3 hk3); clear hb hp3 hk3))
      go_ret3
      obtain ⟨hb, hp3, hk3⟩ := H3.out
      obtain ⟨hN1, hN2⟩ := HN.out
      have hba : b ≠ a := by omega
      have t' := ins_leaf (M' := upd M a (some ⟨insK key xs, []⟩)) t hin hm2
      obtain ⟨t1, t2⟩ := split_leaf (M' := upd (upd (upd M a (some ⟨insK key xs, []⟩)) b (some ⟨(insK key xs).drop 32, []⟩)) a (some ⟨(insK key xs).take 32, []⟩)) t'.2.2.1 t'.2.2.2 hsep (upd_same _ _ _) ((upd_other _ _ hba).trans (upd_same _ _ _))
      refine .inr ⟨_, b, sep, _, _, [a], [b], rfl, ⟨hp3, HG2.out.2.and hk3⟩, hk, (List.take_append_drop 32 _).symm, ⟨t1, _, t1.1, ?_, ?_⟩, ⟨t2, _, t2.1, ?_, ?_⟩, ⟨fun c hc => ?_, fun c hc => ?_⟩, fun c n hc hn => ?_⟩
      · simp [Nd.size]; omega
      · simp [Nd.size]; omega
      · simp [Nd.size]; omega
      · simp [Nd.size]; omega
      · rw [t.2.1]
        have : b ≠ c := by omega
        simp [List.count_cons, this]
      · have : a ≠ c := by omega
        simp [List.count_cons, this]
        split <;> omega
      · have h1 := hfr c n hc hn
        have hca : c ≠ a := fun e => hc (by rw [t.2.1, e]; simp)
        have hcb : c ≠ b := by
          have := HC.out c n hn
          omega
        exact ((upd_other _ _ hca).trans (upd_other _ _ hcb)).trans h1
  · rw [hk] at hf
    have HG : Hid (Got F w M w) := ⟨⟨V, p⟩, Keeps.refl _ _⟩
    have hins : insK key xs = xs := by unfold insK; rw [if_pos hk]
    clear p na
    generalize pos key xs = i at *
    go_enter Try.func33, Try.ntmps33
    go_wp2_with (first | (go_at_call 36; refine hf.mono ?_; rintro e w' ⟨rfl, rfl⟩) | (go_at_call 35; refine hlf35.mono ?_; rintro e w' ⟨rfl, rfl⟩))
    go_ret3
    refine .inl ⟨M, ad, rfl, HG.out, by rw [hins]; exact t, hFr, fun _ _ _ h => h, _, _, hm, hm, Nat.le_refl _, ?_⟩
    simpa [Nd.size] using hz
section
variable {M1 M2 : Mm} {ks : List ByteArray} {cs : List Nat} {i c b N : Nat} {sep : ByteArray} {x1 xm x2 y1 y2 : List ByteArray} {a1 am a2 am' b1 b2 : List Nat}
theorem Around.fr' (q : Around M h a lo hi key ks cs i c x1 xm x2 a1 am a2) (hN : ∀ b n, M b = some n → b < N) (hf : Fr N am am') : Fr N (a :: (a1 ++ am ++ a2)) (a :: (a1 ++ am' ++ a2)) := by
  have ha := hN a _ q.hm
  refine ⟨fun d hd => ?_, fun d hd => ?_⟩
  · have := hf.old d hd
    simp only [List.count_append, List.count_cons]
    omega
  · have h1 := hf.new d hd
    have h2 : a1.count d = 0 := List.count_eq_zero_of_not_mem (fun e => by obtain ⟨n, hn⟩ := q.hs d (.inl e); have := hN d n hn; omega)
    have h3 : a2.count d = 0 := List.count_eq_zero_of_not_mem (fun e => by obtain ⟨n, hn⟩ := q.hs d (.inr e); have := hN d n hn; omega)
    have h4 : (a == d) = false := by simp; omega
    simp only [List.count_append, List.count_cons, h4]
    simp
    omega
theorem Around.same' (q : Around M h a lo hi key ks cs i c x1 xm x2 a1 am a2) (hfr : ∀ b n, b ∉ am → M b = some n → M1 b = some n) :
    M1 a = some ⟨ks, cs⟩ ∧ Lc (Ch M1 h) lo (ks.take i) (cs.take i) x1 a1 ∧ Rc (Ch M1 h) hi (ks.drop i) (cs.drop (i + 1)) x2 a2 := by
  have nd := List.nodup_cons.1 q.nd
  exact ⟨hfr a _ (fun e => nd.1 (by simp [e])) q.hm, ctx_frame nd.2 hfr q.hL q.hR q.hs⟩
theorem Around.grew (q : Around M h a lo hi key ks cs i c x1 xm x2 a1 am a2) (hz : cs.length ≤ 64) (hN : ∀ b n, M b = some n → b < N) (hr : Grew M M1 h c N (lst lo (ks.take i)) (hd hi (ks.drop i)) key xm am am') :
    Grew M M1 (h + 1) a N lo hi key (x1 ++ xm ++ x2) (a :: (a1 ++ am ++ a2)) (a :: (a1 ++ am' ++ a2)) := by
  obtain ⟨hm', hL', hR'⟩ := q.same' hr.fr
  obtain ⟨nc, hnc, z1, _⟩ := q.hC.2
  obtain ⟨n0, n1, hn0, hn1, z3, z4⟩ := hr.sz
  rw [hnc] at hn0
  cases hn0
  have ht := Ts.put q.hc hL' ⟨hr.t, n1, hn1, by omega, z4⟩ hR'
  have hne : cs ≠ [] := by intro e; have := q.hlen; rw [e] at this; simp at this
  refine ⟨?_, q.fr' hN hr.fa, fun b n hb hn => hr.fr b n (fun e => hb (by simp [e])) hn, _, _, q.hm, hm', Nat.le_refl _, by simpa [Nd.size, hne] using hz⟩
  rw [insK_mid q.hb1 q.hb2]
  exact ⟨_, _, _, hm', rfl, ht⟩
theorem Around.two (q : Around M h a lo hi key ks cs i c x1 xm x2 a1 am a2) (hN : ∀ b n, M b = some n → b < N) (hr : Halved M M1 h c b N (lst lo (ks.take i)) (hd hi (ks.drop i)) sep key xm am y1 y2 b1 b2) (ho : ∀ d, d ≠ a → M2 d = M1 d) :
    Ts (Ch M2 h) lo hi (ks.take i ++ sep :: ks.drop i) (cs.take (i + 1) ++ b :: cs.drop (i + 1)) (insK key (x1 ++ xm ++ x2)) (a1 ++ (b1 ++ b2) ++ a2) ∧ Fr N (a :: (a1 ++ am ++ a2)) (a :: (a1 ++ (b1 ++ b2) ++ a2)) ∧
      ∀ b n, b ∉ a :: (a1 ++ am ++ a2) → M b = some n → M2 b = some n := by
  obtain ⟨hm', hL', hR'⟩ := q.same' hr.fr
  have hf := q.fr' hN hr.fa
  have hnd := List.nodup_cons.1 (hf.nodup q.nd)
  have ht := put_two q.hc hL' hr.tl hr.tr hR'
  rw [← hr.xs, ← insK_mid q.hb1 q.hb2] at ht
  refine ⟨Ts.turn (fun _ _ _ _ _ hs hc => Ch.frame (fun d hd => ho d (fun e => hnd.1 (by rw [← e]; exact hs d hd))) hc) ht, hf, fun d n hd hn => ?_⟩
  rw [ho d (fun e => hd (by simp [e]))]
  exact hr.fr d n (fun e => hd (by simp [e])) hn
end
set_option maxHeartbeats 2000000 in
set_option maxRecDepth 100000 in
theorem insert_inner {ks : List ByteArray} {cs : List Nat} {i c : Nat} {x1 xm x2 : List ByteArray} {a1 am a2 : List Nat} (p : Pool F w M) (hasc : Asc ks) (hi0 : kidAt key ks = i) (q : Around M h a lo hi key ks cs i c x1 xm x2 a1 am a2) (hz1 : cs.length ≤ 64)
    (ih : Calls Try.prog 33 #[ptr c, .string key] w (InsOut F M h c (lst lo (ks.take i)) (hd hi (ks.drop i)) key xm am w)) :
    Calls Try.prog 33 #[ptr a, .string key] w (InsOut F M (h + 1) a lo hi key (x1 ++ xm ++ x2) (a :: (a1 ++ am ++ a2)) w) := by
  have hlen := q.hlen
  have hne : cs ≠ [] := by intro e; subst e; simp at hlen
  have hhas := has_mid (key := key) (m := xm) q.hb1 q.hb2
  have hm := q.hm
  have HN : Hid (∀ b n, M b = some n → b < w.heap.size) := fun b n hb => p.lt hb
  obtain ⟨V, pv⟩ := p
  have na := pv.node a _ hm
  have hf := find36 na key hasc (by show ks.length ≤ 1000; omega)
  have hlf : (Nd.mk ks cs).leaf? = false := by simpa [Nd.leaf?] using hne
  have hfnd : (Nd.mk ks cs).fnd key = (i, false) := by
    rw [← hi0]
    unfold Nd.fnd kidAt
    rw [hlf]
    cases hit key ks <;> simp
  rw [hfnd] at hf
  have hlf35 := leaf35 na
  rw [hlf] at hlf35
  obtain ⟨gc, cc, hvc, hgc, _, hcs, _⟩ := na.kidFacts (by show 0 < cs.length; omega)
  have c1 := na.cell1
  rw [hvc] at c1
  have e1 := hcs _ c q.hc
  have HQ : Hid (Around M h a lo hi key ks cs i c x1 xm x2 a1 am a2) := q
  have hci := (List.getElem?_eq_some_iff.1 q.hc).1
  have Hhas : Hid _ := hhas
  simp only [] at c1
  have hki : i ≤ ks.length := by omega
  have hkn : ks.length ≤ 1000 := by omega
  clear pv na hcs hfnd q hasc hne hlf hi0 hvc hgc hhas
  go_enter Try.func33, Try.ntmps33
  generalize hLc : cs.length = L at *
  have Hlen : Hid (L = ks.length + 1) := hlen
  clear hlen
  go_wp2_with (first | (go_at_call 36; refine hf.mono ?_; rintro e w' ⟨rfl, rfl⟩) | (go_at_call 35; refine hlf35.mono ?_; rintro e w' ⟨rfl, rfl⟩))
  refine ih.mono ?_
  rintro e w1 (⟨M1, am', rfl, hg, hr⟩ | ⟨M1, b, sep, y1, y2, b1, b2, rfl, hg, hr⟩)
  · have HG : Hid _ := hg
    have HRr : Hid _ := hr
    clear hg hr
    go_wp2_with fail
    go_ret3
    refine .inl ⟨M1, _, ?_, HG.out, HQ.out.grew (by omega) HN.out HRr.out⟩
    rw [Hhas.out]
    rfl
  · obtain ⟨hm1, _, _⟩ := HQ.out.same' hr.fr
    have HG : Hid _ := hg
    have HRr : Hid _ := hr
    obtain ⟨⟨V1, p1⟩, hk1⟩ := hg
    have na1 := p1.node a _ hm1
    have d0 := na1.cell0
    have hI := insKeysCall (i := i) (x := sep) p1 hm1 hki hkn
    have HP1 : Hid (PoolV F V1 (w1.alloc (.cells #[.string sep] 9)) M1) := PoolV.keep p1 ((Keeps.refl No w1).alloc (.cells #[.string sep] 9))
    have HK1 : Hid (Keeps (Not' F) w (w1.alloc (.cells #[.string sep] 9))) := hk1.and (Keeps.not' ((Keeps.refl No w1).alloc (.cells #[.string sep] 9)))
    have hks : (ks.take i ++ sep :: ks.drop i).length = L := by rw [Hlen.out]; simp; omega
    simp only [] at hI
    generalize hks' : ks.take i ++ sep :: ks.drop i = ks' at *
    have HM1 : Hid _ := hm1
    clear hr p1 hk1 na1 hm1
    go_upto_region 11 with (first | (go_at_call 37; refine hI.mono ?_; intro e w2 hq; obtain ⟨g1, c1, rfl⟩ := ins_ret hq (m := L) (by simpa using hks); obtain ⟨h1, h2, h3⟩ := PoolV.insKeys HP1.out HM1.out hq; obtain ⟨x0, x1, x2, x3⟩ := at_facts h1; have HG2 : Hid (Got F w (upd M1 a (some ⟨ks', cs⟩)) (w2.setCell ⟨a, 0, none⟩ (.slice (some ⟨g1, 0, none⟩) L c1))) := ⟨⟨_, h2⟩, HK1.out.and h3⟩; clear hq h1 h2 h3))
    generalize w2.setCell ⟨a, 0, none⟩ (.slice (some ⟨g1, 0, none⟩) L c1) = w3 at *
    obtain ⟨⟨V3, p3⟩, hk3⟩ := HG2.out
    have hm3 : upd M1 a (some ⟨ks', cs⟩) a = some ⟨ks', cs⟩ := upd_same _ _ _
    have na3 := p3.node a _ hm3
    have f1 := na3.cell1
    have hI2 := insKidsCall (i := i + 1) (x := b) p3 hm3 (by show i + 1 ≤ cs.length; omega) (by show cs.length ≤ 1000; omega)
    have HP3 : Hid (PoolV F V3 (w3.alloc (.cells #[ptr b] 25)) (upd M1 a (some ⟨ks', cs⟩))) := PoolV.keep p3 ((Keeps.refl No w3).alloc (.cells #[ptr b] 25))
    have HK3 : Hid (Keeps (Not' F) w (w3.alloc (.cells #[ptr b] 25))) := hk3.and (Keeps.not' ((Keeps.refl No w3).alloc (.cells #[ptr b] 25)))
    have hcs : (cs.take (i + 1) ++ b :: cs.drop (i + 1)).length = L + 1 := by simp; omega
    have hcsne : cs.take (i + 1) ++ b :: cs.drop (i + 1) ≠ [] := by simp
    simp only [] at hI2
    rw [Int.natCast_add] at hI2
    generalize hcs' : cs.take (i + 1) ++ b :: cs.drop (i + 1) = cs' at *
    have HM3 : Hid _ := hm3
    clear p3 hk3 na3 hm3 HG2 HP1 HK1 hI HM1 x0 x1 x2 x3
    go_upto_region 12 with (first | (go_at_call 38; refine hI2.mono ?_; intro e w4 hq; obtain ⟨g2, c2, rfl⟩ := ins_ret hq (m := L + 1) (by simpa using hcs); obtain ⟨h1, h2, h3⟩ := PoolV.insKids HP3.out HM3.out hcsne hq; obtain ⟨x0, x1, x2, x3⟩ := at_facts h1; have HG4 : Hid (Got F w (upd (upd M1 a (some ⟨ks', cs⟩)) a (some ⟨ks', cs'⟩)) (w4.setCell ⟨a, 1, none⟩ (.slice (some ⟨g2, 0, none⟩) (L + 1) c2))) := ⟨⟨_, h2⟩, HK3.out.and h3⟩; clear hq h1 h2 h3))
    generalize w4.setCell ⟨a, 1, none⟩ (.slice (some ⟨g2, 0, none⟩) (L + 1) c2) = w5 at *
    clear x0 x1 x2 x3 hI2 f1 d0
    obtain ⟨p5, hk5⟩ := HG4.out
    obtain ⟨ts, hfa, hfr⟩ := HQ.out.two (M2 := upd (upd M1 a (some ⟨ks', cs⟩)) a (some ⟨ks', cs'⟩)) HN.out HRr.out (fun d hd => (upd_other _ _ hd).trans (upd_other _ _ hd))
    have hm5 : upd (upd M1 a (some ⟨ks', cs⟩)) a (some ⟨ks', cs'⟩) a = some ⟨ks', cs'⟩ := upd_same _ _ _
    rw [hks', hcs'] at ts
    generalize upd (upd M1 a (some ⟨ks', cs⟩)) a (some ⟨ks', cs'⟩) = M5 at *
    have hnd := List.nodup_cons.1 (hfa.nodup HQ.out.nd)
    have hlt5 : ∀ b n, M5 b = some n → b < w5.heap.size := fun b n hb => p5.lt hb
    have hsome : ∀ d ∈ a1 ++ (b1 ++ b2) ++ a2, ∃ n, M5 d = some n := fun d hd => Ts.some' (fun _ _ _ _ _ hc => T.some' hc.1) ts d hd
    have hsw := hk5.size
    obtain ⟨V5, pv5⟩ := p5
    have hS := size39 (pv5.node a _ hm5)
    have hsz : (Nd.mk ks' cs').size = L + 1 := by simp [Nd.size, hcsne, hcs]
    rw [hsz] at hS
    by_cases hbig : L + 1 ≤ 64
    · have HE : Hid _ := And.intro ts (And.intro hfa hfr)
      have HB : Hid (L + 1 ≤ 64) := hbig
      clear pv5 hk5 ts hfa hfr hnd hlt5 hsome hsw
      go_wp2_with (first | (go_at_call 39; refine hS.mono ?_; rintro e w' ⟨rfl, rfl⟩))
      go_ret3
      obtain ⟨ts, hfa, hfr⟩ := HE.out
      refine .inl ⟨M5, _, ?_, HG4.out, ⟨_, _, _, hm5, rfl, ts⟩, hfa, hfr, _, _, hm, hm5, ?_, by rw [hsz]; exact HB.out⟩
      · rw [Hhas.out, HRr.out.hh]
        rfl
      · rw [hsz]
        have hne : cs ≠ [] := by intro e; rw [e] at hLc; simp at hLc; omega
        simp only [Nd.size, if_neg hne, hLc]
        omega
    · have h65 : cs'.length = 65 := by omega
      have h64 : ks'.length = 64 := by omega
      obtain ⟨sep2, hsep2⟩ : ∃ sep2, ks'[31]? = some sep2 := ⟨ks'[31], List.getElem?_eq_getElem (by omega)⟩
      have hsp := split40_inner pv5 hm5 h65 h64 sep2 hsep2
      have HE : Hid _ := And.intro ts (And.intro hfa (And.intro hfr (And.intro hnd (And.intro hlt5 (And.intro hsome (And.intro hsw (And.intro h65 h64)))))))
      clear pv5 hk5 ts hfa hfr hnd hlt5 hsome hsw h65 h64 hks hcs
      go_wp2_with (first | (go_at_call 39; refine hS.mono ?_; rintro e w' ⟨rfl, rfl⟩) | (go_at_call 40; refine hsp.mono ?_; rintro e w6 ⟨b', rfl, hb, hp6, hk6⟩; have H6 : Hid _ := And.intro hb (And.intro hp6 hk6); clear hb hp6 hk6))
      go_ret3
      obtain ⟨hb, hp6, hk6⟩ := H6.out
      obtain ⟨ts, hfa, hfr, hnd, hlt5, hsome, hsw, h65, h64⟩ := HE.out
      have hba : b' ≠ a := by have := hlt5 a _ hm5; omega
      have hsame : ∀ d, d ≠ a → (∃ n, M5 d = some n) → upd (upd M5 b' (some ⟨ks'.drop 32, cs'.drop 32⟩)) a (some ⟨ks'.take 31, cs'.take 32⟩) d = M5 d := fun d hd ⟨n, hn⟩ => (upd_other _ _ hd).trans (upd_other _ _ (by have := hlt5 d n hn; omega))
      obtain ⟨z1, z2, d1, d2, ez, ed, t1, t2⟩ := split_inner (a := a) (b := b') (M' := upd (upd M5 b' (some ⟨ks'.drop 32, cs'.drop 32⟩)) a (some ⟨ks'.take 31, cs'.take 32⟩)) ts hsep2 (fun d hd => hsame d (fun e => hnd.1 (e ▸ hd)) (hsome d hd)) (upd_same _ _ _) ((upd_other _ _ hba).trans (upd_same _ _ _))
      refine .inr ⟨_, b', sep2, z1, z2, _, _, rfl, ⟨hp6, HG4.out.2.and hk6⟩, by rw [Hhas.out]; exact HRr.out.hh, ez, ⟨t1, _, upd_same _ _ _, ?_, ?_⟩, ⟨t2, _, (upd_other _ _ hba).trans (upd_same _ _ _), ?_, ?_⟩, ⟨fun d hd => ?_, fun d hd => ?_⟩, fun d n hd hn => ?_⟩
      · have hne : cs'.take 32 ≠ [] := by intro e; have := congrArg List.length e; rw [List.length_take, List.length_nil] at this; omega
        simp only [Nd.size, if_neg hne, List.length_take]; omega
      · have hne : cs'.take 32 ≠ [] := by intro e; have := congrArg List.length e; rw [List.length_take, List.length_nil] at this; omega
        simp only [Nd.size, if_neg hne, List.length_take]; omega
      · have hne : cs'.drop 32 ≠ [] := by intro e; have := congrArg List.length e; rw [List.length_drop, List.length_nil] at this; omega
        simp only [Nd.size, if_neg hne, List.length_drop]; omega
      · have hne : cs'.drop 32 ≠ [] := by intro e; have := congrArg List.length e; rw [List.length_drop, List.length_nil] at this; omega
        simp only [Nd.size, if_neg hne, List.length_drop]; omega
      · have h1 := hfa.old d hd
        have h2 : (b' == d) = false := by simp; omega
        rw [ed] at h1
        simp only [List.count_append, List.count_cons, h2] at h1 ⊢
        simp
        omega
      · have h1 := hfa.new d hd
        have h3 : (a == d) = false := by have := HN.out a _ hm; simp; omega
        rw [ed] at h1
        by_cases hbd : b' = d
        · have h4 : (a1 ++ (b1 ++ b2) ++ a2).count d = 0 := List.count_eq_zero_of_not_mem (fun e => by obtain ⟨n, hn⟩ := hsome d e; have := hlt5 d n hn; omega)
          rw [ed] at h4
          simp only [List.count_append, List.count_cons, h3] at h1 h4 ⊢
          simp at h4 ⊢
          split <;> omega
        · have h2 : (b' == d) = false := by simpa using hbd
          simp only [List.count_append, List.count_cons, h2, h3] at h1 ⊢
          simp at h1 ⊢
          omega
      · have h1 := hfr d n hd hn
        rw [hsame d (fun e => hd (by simp [e])) ⟨n, h1⟩]
        exact h1
theorem insert_T : ∀ (h : Nat) {a : Nat} {lo hi : Option ByteArray} {xs : List ByteArray} {ad : List Nat} {M : Mm} {w : World}, Pool F w M → T M h lo hi a xs ad → ad.Nodup → In lo hi key → (∃ n, M a = some n ∧ n.size ≤ 64) →
    Calls Try.prog 33 #[ptr a, .string key] w (InsOut F M h a lo hi key xs ad w)
  | 0, a, lo, hi, xs, ad, M, w, p, t, _, hin, hz => by
    obtain ⟨n, hn, hz⟩ := hz
    rw [t.1] at hn
    cases hn
    exact insert_leaf p t hin (by simpa [Nd.size] using hz)
  | h + 1, a, lo, hi, xs, ad, M, w, p, t, nd, hin, hz => by
    obtain ⟨ks, cs, ad', hm, rfl, ts⟩ := t
    obtain ⟨n, hn, hz1⟩ := hz
    rw [hm] at hn
    cases hn
    have hlen := ts.len
    have hne : cs ≠ [] := by intro e; subst e; simp at hlen
    simp only [Nd.size, if_neg hne] at hz1
    obtain ⟨hasc, c, x1, xm, x2, a1, am, a2, rfl, rfl, q⟩ := around hm ts nd hin
    obtain ⟨nc, hnc, _, hs2⟩ := q.hC.2
    have nd2 := (List.nodup_cons.1 nd).2
    exact insert_inner p hasc rfl q hz1 (insert_T h p q.hC.1 ((List.nodup_append.1 (List.nodup_append.1 nd2).1).2.1) q.hin ⟨nc, hnc, hs2⟩)
end
end Go.Proofs.Qxb6603837a
