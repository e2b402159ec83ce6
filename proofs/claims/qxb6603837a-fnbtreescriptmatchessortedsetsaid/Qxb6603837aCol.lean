/- zzCollect: the tree's strings behind those that came in. -/
import Derived.Test.Qxb6603837aChk
namespace Go.Proofs.Qxb6603837a
open Go.RowKit
/-- append nothing -/
theorem run_append_zero {P : Program} (w : World) (t ty e : TypeId) (i : TypeInfo) (ht : P.underlying t = some (.slice e)) (hi : P.info? e = some i) (v : Value) (xs : List Value) (hown : OwnS w e v xs) (x : Option Addr) (c : Nat) :
    (Builtin.append_ #[t, t] ty #[v, .slice x 0 c]).run P w = .ok v w := by
  rcases hown with ⟨rfl, rfl⟩ | ⟨g, c', rest, rfl, _, hl, _⟩
  · cases x <;> simp [Builtin.append_, run_underlying ht, sizeOf, typeInfo, hi, Builtin.lenOf, Builtin.firstCells, loadCells, loadCellsFrom]
  · have hle : xs.length ≤ c' := by omega
    cases x <;> simp [Builtin.append_, run_underlying ht, sizeOf, typeInfo, hi, Builtin.lenOf, Builtin.firstCells, storeCells, loadCells, loadCellsFrom, hle]
/-- append of strings, none or some -/
theorem app_strings {w : World} {v : Value} {ys : List ByteArray} (ho : OwnS w 9 v (ys.map Value.string)) {x : Option Addr} {m c : Nat} {zs : List ByteArray} (hr : Rd w x m (zs.map Value.string)) (hn : ys.length + m ≤ 1048576) :
    ∃ v' w', (Builtin.append_ #[22, 22] 22 #[v, .slice x m c]).run Try.prog w = .ok v' w' ∧ OwnS w' 9 v' ((ys ++ zs).map Value.string) ∧ Keeps (OnlyB v) w w' ∧ SameB w w' v v' := by
  obtain ⟨i0, hi0, hz0, hz1, hz2⟩ := info_parts Try.info9
  have hl : zs.length = m := by simpa using hr.1
  rcases Nat.eq_zero_or_pos m with h0 | hpos
  · subst h0
    have : zs = [] := List.eq_nil_of_length_eq_zero hl
    subst this
    exact ⟨v, w, run_append_zero w 22 22 9 i0 Try.underlying22 hi0 v _ ho x c, by simpa using ho, Keeps.refl _ _, .inl rfl⟩
  · obtain ⟨b, off, rfl, hc⟩ := hr.2 hpos
    obtain ⟨v', w', hrun, ho', hk, hs, _⟩ := run_append_S (P := Try.prog) w 22 22 9 i0 (Value.string ByteArray.empty) 16 Try.underlying22 hi0 hz0 hz1 hz2 rfl v _ ho ⟨b, off, none⟩ m c (zs.map Value.string) (by simpa using hl)
      (fun j u hu => by rw [Addr.add_lit]; exact hc j u hu) (one_str _) hpos (by simpa using hn) (by omega)
    exact ⟨v', w', hrun, by simpa using ho', hk, hs⟩
/-- the block of a value, besides others -/
def With (F : Nat → Prop) (v : Value) (k : Nat) : Prop := F k ∨ v.ownBlock = some k
theorem PoolV.shift {F : Nat → Prop} {V : Nat → Value × Value} {M : Mm} {w w' : World} {v v' : Value} {e : TypeId} {xs : List Value} (p : PoolV (With F v) V w M) (k : Keeps (OnlyB v) w w') (hs : SameB w w' v v') (ho : OwnS w' e v' xs) : PoolV (With F v') V w' M := by
  have hout : ∀ a n, M a = some n → ∀ b, Its V a b → ¬ OnlyB v b ∧ ¬ With F v' b := fun a n hm b hb => by
    have h1 := p.its_out hm hb
    have h2 := p.its_lt hm hb
    refine ⟨fun h => h1 (.inr h), fun h => ?_⟩
    rcases h with h | h
    · exact h1 (.inl h)
    · rcases hs with hs | ⟨g, hg, hge, _⟩
      · exact h1 (.inr (hs ▸ h))
      · rw [hg] at h; cases h; omega
  refine ⟨fun a n hm => (p.node a n hm).keep k (hout a n hm _ (.inl rfl)).1 (fun g hg => (hout a n hm g (.inr (.inl hg))).1) (fun g hg => (hout a n hm g (.inr (.inr hg))).1), p.kinj, p.cinj,
    fun a n hm => (hout a n hm _ (.inl rfl)).2, fun a n g hm hg => (hout a n hm g (.inr (.inl hg))).2, fun a n g hm hg => (hout a n hm g (.inr (.inr hg))).2, fun b hb => ?_⟩
  rcases hb with hb | hb
  · exact Nat.lt_of_lt_of_le (p.flt b (.inl hb)) k.size
  · exact ho.lt hb
/-- a slice of the call's own, grown beside the pool -/
structure OutS (F : Nat → Prop) (V : Nat → Value × Value) (M : Mm) (v : Value) (zs : List ByteArray) (w : World) (v' : Value) (w' : World) : Prop where
  own : OwnS w' 9 v' (zs.map Value.string)
  keeps : Keeps (OnlyB v) w w'
  same : SameB w w' v v'
  pool : PoolV (With F v') V w' M
theorem SameB.old {w w1 : World} {v v1 : Value} (h : SameB w w1 v v1) {k : Nat} (hk : k < w.heap.size) (ho : OnlyB v1 k) : OnlyB v k := by
  rcases h with h | ⟨g, hg, hge, _⟩
  · exact h.symm.trans ho
  · unfold OnlyB at ho
    rw [hg] at ho; cases ho; omega
theorem SameB.trans {w w1 w2 : World} {v v1 v2 : Value} (h : SameB w w1 v v1) (h' : SameB w1 w2 v1 v2) (k : w.heap.size ≤ w1.heap.size) (k' : w1.heap.size ≤ w2.heap.size) : SameB w w2 v v2 := by
  rcases h' with e | ⟨g, hg, hge, hlt⟩
  · rcases h with e' | ⟨g, hg, hge, hlt⟩
    · exact .inl (e.trans e')
    · exact .inr ⟨g, e.trans hg, hge, by omega⟩
  · exact .inr ⟨g, hg, by omega, hlt⟩
theorem OutS.trans {F : Nat → Prop} {V : Nat → Value × Value} {M : Mm} {v v1 v2 : Value} {zs zs' : List ByteArray} {w w1 w2 : World} (h : OutS F V M v zs w v1 w1) (h' : OutS F V M v1 zs' w1 v2 w2) : OutS F V M v zs' w v2 w2 :=
  ⟨h'.own, h.keeps.trans h'.keeps (fun _ _ h => h) (fun _ hk ho => h.same.old hk ho), h.same.trans h'.same h.keeps.size h'.keeps.size, h'.pool⟩
def OutPost (F : Nat → Prop) (V : Nat → Value × Value) (M : Mm) (v : Value) (zs : List ByteArray) (w : World) (e : Ending) (w' : World) : Prop := ∃ v', e = .returned v' ∧ OutS F V M v zs w v' w'
/-- the children still to come -/
def Sfx (P : TP) (hi : Option ByteArray) (ks : List ByteArray) (cs : List Nat) (i : Nat) (rest : List ByteArray) : Prop :=
  (i ≤ ks.length ∧ ∃ lo ad, Ts P lo hi (ks.drop i) (cs.drop i) rest ad) ∨ (i = ks.length + 1 ∧ rest = [])
theorem Sfx.step {P : TP} {hi : Option ByteArray} {ks : List ByteArray} {cs : List Nat} {i : Nat} {rest : List ByteArray} (h : Sfx P hi ks cs i rest) (hi' : i < ks.length + 1) :
    ∃ c lo' hi' xm ad rest', cs[i]? = some c ∧ rest = xm ++ rest' ∧ P lo' hi' c xm ad ∧ Sfx P hi ks cs (i + 1) rest' := by
  rcases h with ⟨hle, lo, ad, ht⟩ | ⟨e, _⟩
  · by_cases hlt : i < ks.length
    · rw [List.drop_eq_getElem_cons hlt] at ht
      cases hc : cs.drop i with
      | nil => rw [hc] at ht; simp [Ts] at ht
      | cons c cs' =>
        rw [hc] at ht
        obtain ⟨x1, a1, x2, a2, rfl, rfl, hp, ht'⟩ := ht
        have e1 : cs[i]? = some c := by rw [← List.head?_drop, hc]; rfl
        have e2 : cs.drop (i + 1) = cs' := by
          have := drop_cons' e1
          rw [hc] at this
          exact (List.cons.inj this).2.symm
        exact ⟨c, _, _, x1, a1, x2, e1, rfl, hp, .inl ⟨hlt, _, a2, e2 ▸ ht'⟩⟩
    · have : i = ks.length := by omega
      subst this
      rw [List.drop_of_length_le (Nat.le_refl _)] at ht
      match hc : cs.drop ks.length, ht with
      | [c], ht =>
        have e1 : cs[ks.length]? = some c := by rw [← List.head?_drop, hc]; rfl
        exact ⟨c, _, _, rest, ad, [], e1, by simp, ht, .inr ⟨rfl, rfl⟩⟩
  · omega
theorem Sfx.start {P : TP} {lo hi : Option ByteArray} {ks : List ByteArray} {cs : List Nat} {xs : List ByteArray} {ad : List Nat} (h : Ts P lo hi ks cs xs ad) : Sfx P hi ks cs 0 xs := .inl ⟨Nat.zero_le _, lo, ad, by simpa using h⟩
theorem Sfx.done {P : TP} {hi : Option ByteArray} {ks : List ByteArray} {cs : List Nat} {i : Nat} {rest : List ByteArray} (h : Sfx P hi ks cs i rest) (hi' : ¬ i < ks.length + 1) : rest = [] := by
  rcases h with ⟨hle, _⟩ | ⟨_, e⟩
  · omega
  · exact e
section
variable {F : Nat → Prop} {V : Nat → Value × Value} {M : Mm} {a h : Nat} {xs ys : List ByteArray} {ad : List Nat} {w : World} {v : Value} {lo hi : Option ByteArray}
set_option maxHeartbeats 1000000 in
theorem collect_leaf (p : PoolV (With F v) V w M) (ho : OwnS w 9 v (ys.map Value.string)) (hm : M a = some ⟨xs, []⟩) (hn : ys.length + xs.length ≤ 1048576) :
    Calls Try.prog 31 #[ptr a, v] w (OutPost F V M v (ys ++ xs) w) := by
  have na := p.node a _ hm
  have hk := keys29 na
  have hlf := isLeaf28 na
  have hlf' : (Nd.mk xs []).leaf? = true := rfl
  rw [hlf'] at hlf
  obtain ⟨ka, kc, hkv, hrd⟩ := na.keys.rd
  simp only [List.length_map] at hkv hrd
  rw [hkv] at hk
  obtain ⟨v', w1, hrun, ho', hkp, hs⟩ := app_strings (c := kc) ho hrd hn
  have HR : Hid _ := hrun
  have HO : Hid (OutS F V M v (ys ++ xs) w v' w1) := ⟨ho', hkp, hs, p.shift hkp hs ho'⟩
  clear na hkv hrd hrun ho' hkp hs p ho hlf'
  go_enter Try.func31, Try.ntmps31
  go_wp2_with (first | (go_at_call 29; refine hk.mono ?_; rintro e w' ⟨rfl, rfl⟩) | (go_at_call 28; refine hlf.mono ?_; rintro e w' ⟨rfl, rfl⟩) | (at_builtin; refine Lib.wpList_append_run _ rfl _ _ _ _ rfl _ _ rfl rfl _ _ HR.out ?_))
  go_ret
  exact ⟨_, rfl, HO.out⟩
set_option maxHeartbeats 1000000 in
theorem collect_inner {ks : List ByteArray} {cs : List Nat} (p : PoolV (With F v) V w M) (ho : OwnS w 9 v (ys.map Value.string)) (hm : M a = some ⟨ks, cs⟩) (ts : Ts (Ch M h) lo hi ks cs xs ad) (hz : cs.length ≤ 64) (hn : ys.length + xs.length ≤ 1048576)
    (ih : ∀ (w' : World) (c : Nat) (v' : Value) (xm zs : List ByteArray) (lo hi : Option ByteArray) (ad : List Nat), PoolV (With F v') V w' M → OwnS w' 9 v' (zs.map Value.string) → Ch M h lo hi c xm ad → zs.length + xm.length ≤ 1048576 →
      Calls Try.prog 31 #[ptr c, v'] w' (OutPost F V M v' (zs ++ xm) w')) :
    Calls Try.prog 31 #[ptr a, v] w (OutPost F V M v (ys ++ xs) w) := by
  have hlen := ts.len
  have na := p.node a _ hm
  have hc := kids32 na
  have hlf := isLeaf28 na
  have hne : cs ≠ [] := by intro e; subst e; simp at hlen
  have hlf' : (Nd.mk ks cs).leaf? = false := by simpa [Nd.leaf?] using hne
  rw [hlf'] at hlf
  obtain ⟨gc, cc, hcv, _, _, _, _⟩ := na.kidFacts (by show 0 < cs.length; omega)
  rw [hcv] at hc
  simp only [] at hc
  have HT : Hid (Sfx (Ch M h) hi ks cs 0 xs) := Sfx.start ts
  have HS : Hid (OutS F V M v ys w v w) := ⟨ho, Keeps.refl _ _, .inl rfl, p⟩
  have HCv : Hid ((V a).2 = .slice (some ⟨gc, 0, none⟩) cs.length cc) := hcv
  have HN : Hid (ys.length + xs.length ≤ 1048576) := hn
  clear hcv na p ts hne hlf' ho hn
  generalize hL : ks.length = L at *
  rw [hlen] at hc
  have hL64 : L ≤ 63 := by omega
  unfold OutPost at ih ⊢
  go_enter Try.func31, Try.ntmps31
  go_wp2_with (first | (go_at_call 28; refine hlf.mono ?_; rintro e w' ⟨rfl, rfl⟩) | (go_at_call 32; refine hc.mono ?_; rintro e w' ⟨rfl, rfl⟩))
  go_loopg [1, 6] (L + 1) (fun g s1 s6 wr => ∃ (i : Nat) (dn rest : List ByteArray) (vi : Value), vi = s1 ∧ s6 = .int .i64 i ∧ i ≤ L + 1 ∧ g = L + 1 - i ∧ Hid (OutS F V M v (ys ++ dn) w vi wr ∧ xs = dn ++ rest ∧ Sfx (Ch M h) hi ks cs i rest))
  case atStart => exact ⟨0, [], xs, v, rfl, rfl, by omega, rfl, by simpa using HS.out, rfl, HT.out⟩
  case round =>
    obtain ⟨i, dn, rest, vi, rfl, rfl, hin, rfl, hH⟩ := hrel
    by_cases hlt : i < L + 1
    · obtain ⟨hO, hx, hsf⟩ := hH.out
      obtain ⟨c, lo', hi', xm, ad', rest', hci, rfl, hC, hsf'⟩ := hsf.step (by omega)
      obtain ⟨gc', cc', hcv', _, _, hcc, _⟩ := (hO.pool.node a _ hm).kidFacts (by show 0 < cs.length; omega)
      have hgc : gc' = gc := by
        have := HCv.out.symm.trans hcv'
        simp at this
        exact this.1.symm
      subst hgc
      have e1 := hcc i c hci
      have hI := ih wr c vi xm (ys ++ dn) lo' hi' ad' hO.pool hO.own hC (by have := HN.out; rw [hx] at this; simp at this ⊢; omega)
      have HH : Hid (OutS F V M v (ys ++ dn) w vi wr ∧ xs = dn ++ (xm ++ rest') ∧ Sfx (Ch M h) hi ks cs (i + 1) rest') := ⟨hO, hx, hsf'⟩
      clear hO hx hsf hsf' hcc hcv' hC hci hH
      go_wp2_with (first | (go_at_call 31; refine hI.mono ?_; rintro e w1 ⟨v1, rfl, hO1⟩; have HO1 : Hid _ := hO1; clear hO1))
      go_roundg (L + 1 - (i + 1))
      case measure => omega
      case rel =>
        obtain ⟨h1, h2, h3⟩ := HH.out
        exact ⟨i + 1, dn ++ xm, rest', _, rfl, by go_num, by omega, rfl, by have := h1.trans HO1.out; simpa using this, by rw [h2]; simp, h3⟩
    · obtain ⟨hO, hx, hsf⟩ := hH.out
      have hr0 := hsf.done (by omega)
      subst hr0
      have HO : Hid (OutS F V M v (ys ++ xs) w vi wr) := by show OutS _ _ _ _ _ _ _ _; rw [hx]; simpa using hO
      clear hO hx hsf hH
      go_wp2_with fail
      go_ret
      exact ⟨_, rfl, HO.out⟩
theorem collect_T : ∀ (h : Nat) {a : Nat} {xs ys : List ByteArray} {ad : List Nat} {w : World} {v : Value} {lo hi : Option ByteArray}, PoolV (With F v) V w M → OwnS w 9 v (ys.map Value.string) → T M h lo hi a xs ad → (∃ n, M a = some n ∧ n.size ≤ 64) → ys.length + xs.length ≤ 1048576 →
    Calls Try.prog 31 #[ptr a, v] w (OutPost F V M v (ys ++ xs) w)
  | 0, a, xs, ys, ad, w, v, lo, hi, p, ho, t, _, hn => collect_leaf p ho t.1 hn
  | h + 1, a, xs, ys, ad, w, v, lo, hi, p, ho, t, hz, hn => by
    obtain ⟨ks, cs, ad', hm, rfl, ts⟩ := t
    obtain ⟨n, hn', h1⟩ := hz
    rw [hm] at hn'
    cases hn'
    have hlen := ts.len
    have hne : cs ≠ [] := by intro e; subst e; simp at hlen
    simp only [Nd.size, if_neg hne] at h1
    exact collect_inner p ho hm ts h1 hn (fun w' c v' xm zs lo hi ad p' ho' hc hb => collect_T h p' ho' hc.1 (by obtain ⟨nc, hnc, _, z⟩ := hc.2; exact ⟨nc, hnc, z⟩) hb)
end
end Go.Proofs.Qxb6603837a
