/- zzShape: the nodes' kinds, sizes and keys in preorder. -/
import Derived.Test.Qxb6603837aHold
namespace Go.Proofs.Qxb6603837a
open Go.RowKit
theorem Try.info3 : (Try.prog.info? 3).map (fun i => (i.zero, i.size, i.bytes)) = some (some (.int .i64 0), 1, 8) := by kernel_rfl
def nd (M : Mm) (a : Nat) : Nd := (M a).getD ⟨[], []⟩
def shK (M : Mm) : Nat → Nat → List ByteArray
  | 0, a => (nd M a).ks
  | h + 1, a => (nd M a).ks ++ (nd M a).cs.flatMap (shK M h)
def shS (M : Mm) : Nat → Nat → List Int
  | 0, a => [-1, ((nd M a).ks.length : Int)]
  | h + 1, a => [((nd M a).cs.length : Int), ((nd M a).ks.length : Int)] ++ (nd M a).cs.flatMap (shS M h)
theorem one_int (zs : List Int) : ∀ u ∈ zs.map (Value.int .i64), u.oneCell' = true := by
  intro u hu
  obtain ⟨z, _, rfl⟩ := List.mem_map.1 hu
  rfl
/-- append of two numbers, just built -/
theorem app_ints {w : World} {v : Value} {ys : List Int} {p q : Int} (ho : OwnS w 3 v (ys.map (Value.int .i64))) (hn : ys.length + 2 ≤ 1048576) :
    ∃ v' w', (Builtin.append_ #[32, 32] 32 #[v, .slice (some ⟨w.heap.size, 0, none⟩) 2 2]).run Try.prog (w.alloc (.cells #[.int .i64 p, .int .i64 q] 3)) = .ok v' w' ∧ OwnS w' 3 v' ((ys ++ [p, q]).map (Value.int .i64)) ∧ Keeps (OnlyB v) w w' ∧ SameB w w' v v' := by
  obtain ⟨i0, hi0, hz0, hz1, hz2⟩ := info_parts Try.info3
  have k0 : Keeps No w (w.alloc (.cells #[.int .i64 p, .int .i64 q] 3)) := (Keeps.refl No w).alloc _
  have hA := At.new w 3 #[Value.int .i64 p, Value.int .i64 q]
  obtain ⟨v', w', hrun, ho', hk, hs, _⟩ := run_append_S (P := Try.prog) (w.alloc (.cells #[.int .i64 p, .int .i64 q] 3)) 32 32 3 i0 (Value.int .i64 0) 8 Try.underlying32 hi0 hz0 hz1 hz2 rfl v _ (ho.keep k0 (fun _ _ h => h)) ⟨w.heap.size, 0, none⟩ 2 2 ([p, q].map (Value.int .i64)) rfl
    (fun j u hu => by rw [Addr.add_lit, Nat.zero_add]; exact hA.cell hu) (one_int _) (by omega) (by simpa using hn) (by omega)
  refine ⟨v', w', hrun, by simpa using ho', k0.trans hk (fun _ _ h => h.elim) (fun _ _ h => h), ?_⟩
  rcases hs with h | ⟨g, h1, h2, h3⟩
  · exact .inl h
  · exact .inr ⟨g, h1, Nat.le_trans k0.size h2, h3⟩
/-- two slices of the call's own, grown beside the pool -/
structure OutS2 (F : Nat → Prop) (V : Nat → Value × Value) (M : Mm) (sv : Value) (Ss : List Int) (tv : Value) (Ks : List ByteArray) (w : World) (sv' tv' : Value) (w' : World) : Prop where
  o1 : OwnS w' 3 sv' (Ss.map (Value.int .i64))
  o2 : OwnS w' 9 tv' (Ks.map Value.string)
  keeps : Keeps (fun k => OnlyB sv k ∨ OnlyB tv k) w w'
  s1 : SameB w w' sv sv'
  s2 : SameB w w' tv tv'
  pool : PoolV (With (With F sv') tv') V w' M
section
variable {F : Nat → Prop} {V : Nat → Value × Value} {M : Mm} {a h : Nat} {Ss Ss' : List Int} {Ks Ks' xs : List ByteArray} {ad : List Nat} {w w1 w2 : World} {sv tv sv1 tv1 sv2 tv2 : Value} {lo hi : Option ByteArray}
theorem own_apart (o1 : OwnS w 3 sv (Ss.map (Value.int .i64))) (o2 : OwnS w 9 tv (Ks.map Value.string)) {g : Nat} (h1 : sv.ownBlock = some g) : ¬ OnlyB tv g := fun h2 => by
  obtain ⟨cs, hc⟩ := o1.at' h1
  obtain ⟨cs', hc'⟩ := o2.at' h2
  exact absurd (hc.tag hc') (by decide)
theorem OutS2.trans (h : OutS2 F V M sv Ss tv Ks w sv1 tv1 w1) (h' : OutS2 F V M sv1 Ss' tv1 Ks' w1 sv2 tv2 w2) : OutS2 F V M sv Ss' tv Ks' w sv2 tv2 w2 :=
  ⟨h'.o1, h'.o2, h.keeps.trans h'.keeps (fun _ _ h => h) (fun _ hk ho => ho.elim (fun e => .inl (h.s1.old hk e)) (fun e => .inr (h.s2.old hk e))), h.s1.trans h'.s1 h.keeps.size h'.keeps.size, h.s2.trans h'.s2 h.keeps.size h'.keeps.size, h'.pool⟩
/-- the strings grown -/
theorem OutS2.strs (h : OutS2 F V M sv Ss tv Ks w sv1 tv1 w1) (o : OwnS w2 9 tv2 (Ks'.map Value.string)) (k : Keeps (OnlyB tv1) w1 w2) (s : SameB w1 w2 tv1 tv2) : OutS2 F V M sv Ss tv Ks' w sv1 tv2 w2 := by
  refine ⟨h.o1.keep k (fun g hg => own_apart h.o1 h.o2 hg), o, h.keeps.trans k (fun _ _ h => h) (fun _ hk ho => .inr (h.s2.old hk ho)), ?_, h.s2.trans s h.keeps.size k.size, h.pool.shift k s o⟩
  rcases h.s1 with e | ⟨g, h1, h2, h3⟩
  · exact .inl e
  · exact .inr ⟨g, h1, h2, Nat.lt_of_lt_of_le h3 k.size⟩
/-- the sizes grown -/
theorem OutS2.ints (h : OutS2 F V M sv Ss tv Ks w sv1 tv1 w1) (o : OwnS w2 3 sv2 (Ss'.map (Value.int .i64))) (k : Keeps (OnlyB sv1) w1 w2) (s : SameB w1 w2 sv1 sv2) : OutS2 F V M sv Ss' tv Ks w sv2 tv1 w2 := by
  have p : PoolV (With (With F tv1) sv1) V w1 M := h.pool.sub (fun b hb => by
    rcases hb with (hb | hb) | hb
    · exact .inl (.inl hb)
    · exact .inr hb
    · exact .inl (.inr hb))
  have p2 := (p.shift k s o).sub (F' := With (With F sv2) tv1) (fun b hb => by
    rcases hb with (hb | hb) | hb
    · exact .inl (.inl hb)
    · exact .inr hb
    · exact .inl (.inr hb))
  refine ⟨o, h.o2.keep k (fun g hg hs => own_apart h.o1 h.o2 hs hg), h.keeps.trans k (fun _ _ h => h) (fun _ hk ho => .inl (h.s1.old hk ho)), h.s1.trans s h.keeps.size k.size, ?_, p2⟩
  rcases h.s2 with e | ⟨g, h1, h2, h3⟩
  · exact .inl e
  · exact .inr ⟨g, h1, h2, Nat.lt_of_lt_of_le h3 k.size⟩
end
def ShPost (F : Nat → Prop) (V : Nat → Value × Value) (M : Mm) (sv : Value) (Ss : List Int) (tv : Value) (Ks : List ByteArray) (w : World) (e : Ending) (w' : World) : Prop :=
  ∃ sv' tv', e = .returned (.tuple #[sv', tv']) ∧ OutS2 F V M sv Ss tv Ks w sv' tv' w'
section
variable {F : Nat → Prop} {V : Nat → Value × Value} {M : Mm} {a h : Nat} {Ss : List Int} {Ks xs : List ByteArray} {ad : List Nat} {w : World} {sv tv : Value} {lo hi : Option ByteArray}
set_option maxHeartbeats 1000000 in
theorem shape_leaf (o : OutS2 F V M sv Ss tv Ks w sv tv w) (hm : M a = some ⟨xs, []⟩) (hK : Ks.length + xs.length ≤ 1048576) (hS : Ss.length + 2 ≤ 1048576) :
    Calls Try.prog 14 #[ptr a, sv, tv] w (ShPost F V M sv (Ss ++ [-1, (xs.length : Int)]) tv (Ks ++ xs) w) := by
  have na := o.pool.node a _ hm
  have hk := keys29 na
  obtain ⟨ka, kc, hkv, hrd⟩ := na.keys.rd
  simp only [List.length_map] at hkv hrd
  rw [hkv] at hk
  obtain ⟨tv1, w1, hrun, ho', hkp, hs⟩ := app_strings (c := kc) o.o2 hrd hK
  have o1 := o.strs ho' hkp hs
  have hlf := isLeaf28 (o1.pool.node a _ hm)
  have hlf' : (Nd.mk xs []).leaf? = true := rfl
  rw [hlf'] at hlf
  obtain ⟨sv2, w2, hrun2, ho2, hkp2, hs2⟩ := app_ints (p := -1) (q := (xs.length : Int)) o1.o1 hS
  have HR : Hid _ := hrun
  have HR2 : Hid _ := hrun2
  have HO : Hid (OutS2 F V M sv (Ss ++ [-1, (xs.length : Int)]) tv (Ks ++ xs) w sv2 tv1 w2) := o1.ints ho2 hkp2 hs2
  clear na hkv hrd hrun ho' hkp hs o o1 hlf' hrun2 ho2 hkp2 hs2
  go_enter Try.func14, Try.ntmps14
  go_upto_region 3 with (first | (go_at_call 29; refine hk.mono ?_; rintro e w' ⟨rfl, rfl⟩) | (at_builtin; refine Lib.wpList_append_run _ rfl _ _ _ _ rfl _ _ rfl rfl _ _ HR.out ?_))
  go_wp2_with (first | (go_at_call 28; refine hlf.mono ?_; rintro e w' ⟨rfl, rfl⟩) | (at_builtin; refine Lib.wpList_append_run _ rfl _ _ _ _ rfl _ _ rfl rfl _ _ HR2.out ?_))
  go_ret2
  exact ⟨_, _, rfl, HO.out⟩
theorem flat_le {β : Type} {f : Nat → List β} {cs : List Nat} {i c : Nat} (hc : cs[i]? = some c) : ((cs.take i).flatMap f).length + (f c).length ≤ (cs.flatMap f).length := by
  have e : cs = cs.take i ++ c :: cs.drop (i + 1) := by rw [← drop_cons' hc, List.take_append_drop]
  have := congrArg (fun l => (l.flatMap f).length) e
  simp only [List.flatMap_append, List.flatMap_cons, List.length_append] at this
  omega
theorem flat_next {β : Type} {f : Nat → List β} {cs : List Nat} {i c : Nat} (hc : cs[i]? = some c) : (cs.take (i + 1)).flatMap f = (cs.take i).flatMap f ++ f c := by
  rw [take_snoc hc]
  simp
theorem nd_of {n : Nd} (hm : M a = some n) : nd M a = n := by simp [nd, hm]
set_option maxHeartbeats 2000000 in
theorem shape_inner {ks : List ByteArray} {cs : List Nat} (o : OutS2 F V M sv Ss tv Ks w sv tv w) (hm : M a = some ⟨ks, cs⟩) (ts : Ts (Ch M h) lo hi ks cs xs ad) (hz : cs.length ≤ 64) (hK : Ks.length + (shK M (h + 1) a).length ≤ 1048576) (hS : Ss.length + (shS M (h + 1) a).length ≤ 1048576)
    (ih : ∀ (w' : World) (c : Nat) (sv' tv' : Value) (Ss' : List Int) (Ks' xm : List ByteArray) (lo hi : Option ByteArray) (ad : List Nat), OutS2 F V M sv' Ss' tv' Ks' w' sv' tv' w' → Ch M h lo hi c xm ad → Ks'.length + (shK M h c).length ≤ 1048576 → Ss'.length + (shS M h c).length ≤ 1048576 →
      Calls Try.prog 14 #[ptr c, sv', tv'] w' (ShPost F V M sv' (Ss' ++ shS M h c) tv' (Ks' ++ shK M h c) w')) :
    Calls Try.prog 14 #[ptr a, sv, tv] w (ShPost F V M sv (Ss ++ shS M (h + 1) a) tv (Ks ++ shK M (h + 1) a) w) := by
  have eK : shK M (h + 1) a = ks ++ cs.flatMap (shK M h) := by show (nd M a).ks ++ _ = _; rw [nd_of hm]
  have eS : shS M (h + 1) a = [(cs.length : Int), (ks.length : Int)] ++ cs.flatMap (shS M h) := by show [((nd M a).cs.length : Int), ((nd M a).ks.length : Int)] ++ _ = _; rw [nd_of hm]
  rw [eK] at hK ⊢
  rw [eS] at hS ⊢
  rw [List.length_append] at hK hS
  simp only [List.length_cons, List.length_nil] at hS
  have hlen := ts.len
  have na := o.pool.node a _ hm
  have hk := keys29 na
  obtain ⟨ka, kc, hkv, hrd⟩ := na.keys.rd
  simp only [List.length_map] at hkv hrd
  rw [hkv] at hk
  obtain ⟨tv1, w1, hrun, ho', hkp, hs⟩ := app_strings (c := kc) o.o2 hrd (by omega)
  have o1 := o.strs ho' hkp hs
  have na1 := o1.pool.node a _ hm
  have hlf := isLeaf28 na1
  have hne : cs ≠ [] := by intro e; subst e; simp at hlen
  have hlf' : (Nd.mk ks cs).leaf? = false := by simpa [Nd.leaf?] using hne
  rw [hlf'] at hlf
  have hc := kids32 na1
  obtain ⟨gc, cc, hcv, _, _, _, _⟩ := na1.kidFacts (by show 0 < cs.length; omega)
  rw [hcv] at hc
  simp only [] at hc
  obtain ⟨sv2, w2, hrun2, ho2, hkp2, hs2⟩ := app_ints (p := (cs.length : Int)) (q := (ks.length : Int)) o1.o1 (by omega)
  have HR : Hid _ := hrun
  have HR2 : Hid _ := hrun2
  have HO : Hid (OutS2 F V M sv (Ss ++ [(cs.length : Int), (ks.length : Int)]) tv (Ks ++ ks) w sv2 tv1 w2) := o1.ints ho2 hkp2 hs2
  have HCv : Hid ((V a).2 = .slice (some ⟨gc, 0, none⟩) cs.length cc) := hcv
  have HN : Hid (Ks.length + (ks.length + (cs.flatMap (shK M h)).length) ≤ 1048576 ∧ Ss.length + (0 + 1 + 1 + (cs.flatMap (shS M h)).length) ≤ 1048576) := ⟨hK, hS⟩
  have HTs : Hid (Ts (Ch M h) lo hi ks cs xs ad) := ts
  have Hlen : Hid (cs.length = ks.length + 1) := hlen
  clear na hkv hrd hrun ho' hkp hs o o1 hlf' hrun2 ho2 hkp2 hs2 na1 hcv hne eK eS hK hS ts hlen
  generalize hL : cs.length = L at *
  generalize hLk : ks.length = Lk at *
  unfold ShPost at ih ⊢
  go_enter Try.func14, Try.ntmps14
  go_upto_region 3 with (first | (go_at_call 29; refine hk.mono ?_; rintro e w' ⟨rfl, rfl⟩) | (at_builtin; refine Lib.wpList_append_run _ rfl _ _ _ _ rfl _ _ rfl rfl _ _ HR.out ?_))
  go_upto_region 7 with (first | (go_at_call 28; refine hlf.mono ?_; rintro e w' ⟨rfl, rfl⟩) | (go_at_call 32; refine hc.mono ?_; rintro e w' ⟨rfl, rfl⟩) | (at_builtin; refine Lib.wpList_append_run _ rfl _ _ _ _ rfl _ _ rfl rfl _ _ HR2.out ?_))
  go_wp2_with fail
  go_loopg [1, 2, 10] L (fun g s1 s2 s10 wr => ∃ (i : Nat) (svi tvi : Value), svi = s1 ∧ tvi = s2 ∧ s10 = .int .i64 i ∧ i ≤ L ∧ g = L - i ∧
    Hid (OutS2 F V M sv (Ss ++ ([(L : Int), (Lk : Int)] ++ (cs.take i).flatMap (shS M h))) tv (Ks ++ (ks ++ (cs.take i).flatMap (shK M h))) w svi tvi wr))
  case atStart => exact ⟨0, _, _, rfl, rfl, rfl, by omega, rfl, (by show OutS2 _ _ _ _ _ _ _ _ _ _ _; simpa using HO.out)⟩
  case round =>
    obtain ⟨i, svi, tvi, rfl, rfl, rfl, hin, rfl, hH⟩ := hrel
    by_cases hlt : i < L
    · obtain ⟨c, x1, xm, x2, a1, am, a2, hci, _, _, _, hC, _⟩ := HTs.out.at' (i := i) (by have := Hlen.out; omega)
      have hO := hH.out
      obtain ⟨gc', cc', hcv', _, _, hcc, _⟩ := (hO.pool.node a _ hm).kidFacts (by show 0 < cs.length; omega)
      have hgc : gc' = gc := by
        have := HCv.out.symm.trans hcv'
        simp at this
        exact this.1.symm
      subst hgc
      have e1 := hcc i c hci
      have b1 := flat_le (f := shK M h) hci
      have b2 := flat_le (f := shS M h) hci
      have hI := ih wr c svi tvi _ _ xm _ _ am ⟨hO.o1, hO.o2, Keeps.refl _ _, .inl rfl, .inl rfl, hO.pool⟩ hC (by have := HN.out.1; simp only [List.length_append]; omega) (by have := HN.out.2; simp only [List.length_append, List.length_cons, List.length_nil]; omega)
      have HE : Hid _ := And.intro (flat_next (f := shS M h) hci) (flat_next (f := shK M h) hci)
      clear hO hcc hcv' hC hci b1 b2
      go_wp2_with (first | (go_at_call 14; refine hI.mono ?_; rintro e w3 ⟨sv3, tv3, rfl, hO3⟩; have HO3 : Hid _ := hO3; clear hO3))
      go_roundg (L - (i + 1))
      case measure => omega
      case rel =>
        refine ⟨i + 1, sv3, tv3, rfl, rfl, by go_num, by omega, rfl, ?_⟩
        have := hH.out.trans HO3.out
        rw [HE.out.1, HE.out.2]
        show OutS2 _ _ _ _ _ _ _ _ _ _ _
        simpa [List.append_assoc] using this
    · have hi : i = L := by omega
      subst hi
      have htk : cs.take cs.length = cs := List.take_of_length_le (Nat.le_refl _)
      rw [hL] at htk
      rw [htk] at hH
      go_wp2_with fail
      go_ret2
      exact ⟨_, _, rfl, hH.out⟩
theorem shape_T : ∀ (h : Nat) {a : Nat} {Ss : List Int} {Ks xs : List ByteArray} {ad : List Nat} {w : World} {sv tv : Value} {lo hi : Option ByteArray}, OutS2 F V M sv Ss tv Ks w sv tv w → T M h lo hi a xs ad → (∃ n, M a = some n ∧ n.size ≤ 64) →
    Ks.length + (shK M h a).length ≤ 1048576 → Ss.length + (shS M h a).length ≤ 1048576 → Calls Try.prog 14 #[ptr a, sv, tv] w (ShPost F V M sv (Ss ++ shS M h a) tv (Ks ++ shK M h a) w)
  | 0, a, Ss, Ks, xs, ad, w, sv, tv, lo, hi, o, t, _, hK, hS => by
    have eK : shK M 0 a = xs := by show (nd M a).ks = _; rw [nd_of t.1]
    have eS : shS M 0 a = [-1, (xs.length : Int)] := by show [-1, ((nd M a).ks.length : Int)] = _; rw [nd_of t.1]
    rw [eK] at hK ⊢
    rw [eS] at hS ⊢
    exact shape_leaf o t.1 hK (by simpa using hS)
  | h + 1, a, Ss, Ks, xs, ad, w, sv, tv, lo, hi, o, t, hz, hK, hS => by
    obtain ⟨ks, cs, ad', hm, rfl, ts⟩ := t
    obtain ⟨n, hn', h1⟩ := hz
    rw [hm] at hn'
    cases hn'
    have hlen := ts.len
    have hne : cs ≠ [] := by intro e; subst e; simp at hlen
    simp only [Nd.size, if_neg hne] at h1
    exact shape_inner o hm ts h1 hK hS (fun w' c sv' tv' Ss' Ks' xm lo hi ad o' hc hK' hS' => shape_T h o' hc.1 (by obtain ⟨nc, hnc, _, z⟩ := hc.2; exact ⟨nc, hnc, z⟩) hK' hS')
/-- how long the shape is -/
theorem Ts.flat_len {P : TP} {f : Nat → List ByteArray} {g : Nat → List Int} (hP : ∀ lo hi c xs ad, P lo hi c xs ad → (f c).length + 1 ≤ 2 * xs.length ∧ (g c).length + 2 ≤ 4 * xs.length) :
    ∀ {lo hi : Option ByteArray} {ks : List ByteArray} {cs : List Nat} {xs : List ByteArray} {ad : List Nat}, Ts P lo hi ks cs xs ad → (cs.flatMap f).length + cs.length ≤ 2 * xs.length ∧ (cs.flatMap g).length + 2 * cs.length ≤ 4 * xs.length
  | _, _, [], [_], _, _, h => by simpa using hP _ _ _ _ _ h
  | _, _, [], [], _, _, h => by simp [Ts] at h
  | _, _, [], _ :: _ :: _, _, _, h => by simp [Ts] at h
  | _, _, _ :: _, [], _, _, h => by simp [Ts] at h
  | _, _, k :: ks, c :: cs, xs, ad, h => by
    obtain ⟨x1, a1, x2, a2, rfl, rfl, hp, ht⟩ := h
    have h1 := hP _ _ _ _ _ hp
    have h2 := Ts.flat_len hP ht
    simp only [List.flatMap_cons, List.length_append, List.length_cons]
    omega
theorem T.shape_len : ∀ {h : Nat} {lo hi : Option ByteArray} {a : Nat} {xs : List ByteArray} {ad : List Nat}, T M h lo hi a xs ad → (∃ n, M a = some n ∧ 1 ≤ n.size ∧ (n.cs ≠ [] → 2 ≤ n.cs.length)) → (shK M h a).length + 1 ≤ 2 * xs.length ∧ (shS M h a).length + 2 ≤ 4 * xs.length
  | 0, _, _, a, xs, _, ⟨h1, _, _, _⟩, ⟨n, hn, hz, _⟩ => by
    rw [h1] at hn
    cases hn
    simp only [Nd.size, if_true] at hz
    have eK : shK M 0 a = xs := by show (nd M a).ks = _; rw [nd_of h1]
    have eS : shS M 0 a = [-1, (xs.length : Int)] := by show [-1, ((nd M a).ks.length : Int)] = _; rw [nd_of h1]
    rw [eK, eS]
    simp only [List.length_cons, List.length_nil]
    omega
  | h + 1, _, _, a, xs, _, ⟨ks, cs, as', h1, h2, h3⟩, ⟨n, hn, _, hz⟩ => by
    rw [h1] at hn
    cases hn
    have hlen := h3.len
    have hz : 2 ≤ cs.length := hz (by intro e; simp only [] at e; subst e; simp at hlen)
    have := Ts.flat_len (f := shK M h) (g := shS M h) (fun lo hi c xs ad hc => T.shape_len hc.1 (by
      obtain ⟨n, hn, hz1, _⟩ := hc.2
      refine ⟨n, hn, by omega, fun hne => ?_⟩
      simp [Nd.size, hne] at hz1
      omega)) h3
    have eK : shK M (h + 1) a = ks ++ cs.flatMap (shK M h) := by show (nd M a).ks ++ _ = _; rw [nd_of h1]
    have eS : shS M (h + 1) a = [(cs.length : Int), (ks.length : Int)] ++ cs.flatMap (shS M h) := by show [((nd M a).cs.length : Int), ((nd M a).ks.length : Int)] ++ _ = _; rw [nd_of h1]
    rw [eK, eS]
    simp only [List.length_append, List.length_cons, List.length_nil]
    omega
end
end Go.Proofs.Qxb6603837a
