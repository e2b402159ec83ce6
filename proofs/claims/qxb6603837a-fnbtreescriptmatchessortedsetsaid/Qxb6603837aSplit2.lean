import Derived.Test.Qxb6603837aMv
namespace Go.Proofs.Qxb6603837a
open Go.RowKit
/-- a clone met in a later world -/
def CloneW (w wx : World) (e : TypeId) (ys : List Value) (m : Nat) (en : Ending) (w' : World) : Prop :=
  ∃ g c, en = .returned (.slice (some ⟨g, 0, none⟩) m c) ∧ OwnS w' e (.slice (some ⟨g, 0, none⟩) m c) ys ∧ Keeps No w w' ∧ Keeps No wx w' ∧ w.heap.size ≤ g
theorem cloneW {w wx : World} {e : TypeId} {ys : List Value} {m : Nat} (hm : ys.length = m) (k : Keeps No w wx) {en : Ending} {w' : World} (h : ClonePost wx e ys en w') : CloneW w wx e ys m en w' := by
  subst hm
  obtain ⟨v, g, rfl, ho, hk, hb, h1, h2⟩ := h
  obtain ⟨g', c, rfl⟩ := ho.val (by simp [hb])
  have e : g' = g := by simpa [Value.ownBlock] using hb
  subst e
  exact ⟨g', c, rfl, ho, k.tr hk, hk, Nat.le_trans k.size h1⟩
/-- behind the making of the right node -/
structure SplitI (F : Nat → Prop) (V : Nat → Value × Value) (M : Mm) (a b : Nat) (n : Nd) (w wx : World) : Prop where
  pool : ∃ V', V' a = V a ∧ PoolV F V' wx (upd M b (some ⟨n.ks.drop 32, n.cs.drop 32⟩))
  keeps : Keeps No w wx
  ne : a ≠ b
  ge : w.heap.size ≤ b
theorem splitI {F : Nat → Prop} {V : Nat → Value × Value} {M : Mm} {a : Nat} {n : Nd} {w w2 : World} {v1 v2 : Value} (p : PoolV F V w M) (hm : M a = some n) (hcs : n.cs.drop 32 ≠ []) (hk : Keeps No w w2)
    (h1 : OwnS w2 9 v1 ((n.ks.drop 32).map Value.string)) (h2 : OwnS w2 25 v2 ((n.cs.drop 32).map ptr)) (b1 : ∀ g, v1.ownBlock = some g → w.heap.size ≤ g) (b2 : ∀ g, v2.ownBlock = some g → w.heap.size ≤ g) :
    SplitI F V M a w2.heap.size n w (w2.alloc (.cells #[v1, v2] 60)) := by
  have hne : a ≠ w2.heap.size := by have := p.its_lt hm (.inl rfl); have := hk.size; omega
  have hk2 : Keeps No w (w2.alloc (.cells #[v1, v2] 60)) := hk.alloc _
  refine ⟨⟨_, upd_other _ _ hne, p.new (v := (v1, v2)) hk2 hk.size ⟨by have := At.new w2 60 #[v1, v2]; simpa using this, h1.keep ((Keeps.refl No w2).alloc _) (fun _ _ h => h), h2.keep ((Keeps.refl No w2).alloc _) (fun _ _ h => h), fun h => absurd h hcs⟩ b1 b2⟩, hk2, hne, hk.size⟩
set_option maxHeartbeats 4000000 in
set_option maxRecDepth 100000 in
theorem split40_inner {F : Nat → Prop} {V : Nat → Value × Value} {M : Mm} {a : Nat} {n : Nd} {w : World} (p : PoolV F V w M) (hm : M a = some n) (hs : n.cs.length = 65) (hs2 : n.ks.length = 64) (sep : ByteArray) (hsep : n.ks[31]? = some sep) :
    Calls Try.prog 40 #[ptr a] w (SplitPost F M a ⟨n.ks.take 31, n.cs.take 32⟩ ⟨n.ks.drop 32, n.cs.drop 32⟩ sep w) := by
  have na := p.node a n hm
  have hne0 : n.cs ≠ [] := by intro e; simp [e] at hs
  have hsz : n.size = 65 := by simp [Nd.size, hne0, hs]
  have hlf : n.leaf? = false := by simp [Nd.leaf?, hne0]
  have c0 := na.cell0
  have c1 := na.cell1
  obtain ⟨g, c, hv, hgc, hc63, hcs, hfr⟩ := na.keys.open' (by simp; omega)
  simp only [List.length_map, hs2] at hv hgc
  obtain ⟨g', c', hv', hgc', hc63', hcs', hfr'⟩ := na.kids.open' (by simp; omega)
  simp only [List.length_map, hs] at hv' hgc'
  have hcl1 := fun wx cc (k : Keeps No w wx) => (clone48 g 32 32 cc ((n.ks.drop 32).map Value.string) wx (by simp [hs2]) (by omega) (by omega) (fun j u hu => k.cell (hcs (32 + j) u (by simpa using hu)) (fun h => h)) (one_str _)).mono (fun en w' h => cloneW (m := 32) (by simp [hs2]) k h)
  have hcl2 := fun wx cc (k : Keeps No w wx) => (clone50 g' 32 33 cc ((n.cs.drop 32).map ptr) wx (by simp [hs]) (by omega) (by omega) (fun j u hu => k.cell (hcs' (32 + j) u (by simpa using hu)) (fun h => h)) (one_ptr _)).mono (fun en w' h => cloneW (m := 33) (by simp [hs]) k h)
  rw [hv] at c0
  rw [hv'] at c1
  have h65 : ¬ c = 32 := by omega
  have h66 : (32 : Int) ≤ (c : Int) := by omega
  have h67 : 32 ≤ c := by omega
  have h65' : ¬ c' = 32 := by omega
  have h66' : (32 : Int) ≤ (c' : Int) := by omega
  have h67' : 32 ≤ c' := by omega
  have HP : Hid (PoolV F V w M) := p
  have HM : Hid (M a = some n) := hm
  have htk : n.cs.take 32 ≠ [] := by intro e; have := congrArg List.length e; simp [hs] at this
  have hdr : n.cs.drop 32 ≠ [] := by intro e; have := congrArg List.length e; simp [hs] at this
  have hc31 : w.cell? ⟨g, 31, none⟩ = some (.string sep) := hcs 31 (.string sep) (by simp [hsep])
  clear hcs hfr hcs' hfr' p hm
  go_enter Try.func40, Try.ntmps40
  go_upto_region 6 with (first
    | (go_at_call 39; refine (size39 na).mono ?_; rintro e w' ⟨rfl, rfl⟩; rw [hsz])
    | (go_at_call 35; refine (leaf35 na).mono ?_; rintro e w' ⟨rfl, rfl⟩; rw [hlf]))
  go_cut [6] (fun s6 wx => ∃ b, s6 = ptr b ∧ Hid (SplitI F V M a b n w wx))
  case first =>
    have HK0 : Hid (Keeps No w w.drew) := (Keeps.refl No w).drew
    go_region_with (first
      | (go_at_call 48; go_loud (refine (hcl1 _ _ ?_).mono ?_; (first | exact HKb.out | exact HK0.out); rintro e wy ⟨gk, ck, rfl, ho, hk, hk', hg⟩; have HKa : Hid _ := hk; have HOa : Hid _ := ho; have HGa : Hid _ := hg; have HKa' : Hid _ := hk'; have d0 := hk.cell c0 (fun h => h); have d1 := hk.cell c1 (fun h => h); clear ho hk hk' hg))
      | (go_at_call 50; go_loud (refine (hcl2 _ _ ?_).mono ?_; (first | exact HKa.out | exact HK0.out); rintro e wz ⟨gc, cc, rfl, ho, hk, hk', hg⟩; have HKb : Hid _ := hk; have HOb : Hid _ := ho; have HGb : Hid _ := hg; have HKb' : Hid _ := hk'; have d2 := hk.cell c0 (fun h => h); have d3 := hk.cell c1 (fun h => h); clear ho hk hk' hg)))
    all_goals
      (go_wp2_with fail
       go_meet
       case rel =>
         first
           | exact ⟨_, rfl, splitI HP.out HM.out hdr HKb.out (OwnS.keep HOa.out HKb'.out (fun _ _ h => h)) HOb.out (fun g e => by cases e; exact HGa.out) (fun g e => by cases e; exact HGb.out)⟩
           | exact ⟨_, rfl, splitI HP.out HM.out hdr HKa.out HOa.out (OwnS.keep HOb.out HKa'.out (fun _ _ h => h)) (fun g e => by cases e; exact HGa.out) (fun g e => by cases e; exact HGb.out)⟩)
  case rest =>
    obtain ⟨b, rfl, HI⟩ := hcut
    obtain ⟨V', hV', p2⟩ := HI.out.pool
    have hm2 : upd M b (some ⟨n.ks.drop 32, n.cs.drop 32⟩) a = some n := (upd_other _ _ HI.out.ne).trans HM.out
    have na2 := p2.node a n hm2
    have d0 := na2.cell0
    have d1 := na2.cell1
    have d2 : wc.cell? ⟨g, 31, none⟩ = some (.string sep) := HI.out.keeps.cell (hc31) (fun h => h)
    rw [hV', hv] at d0
    rw [hV', hv'] at d1
    have HP2 : Hid _ := p2
    have HM2 : Hid _ := hm2
    clear p2 hm2 c0 c1
    go_upto_region 8 with fail
    go_cut [] (fun wx => Hid (Pool F wx (upd (upd M b (some ⟨n.ks.drop 32, n.cs.drop 32⟩)) a (some ⟨n.ks.take 31, n.cs.take 32⟩)) ∧ Keeps (Not' F) w wx))
    case first =>
      have hk1 : (V' a).1 = .slice (some ⟨g, 0, none⟩) 64 c := by rw [hV', hv]
      have hk2 : (V' a).2 = .slice (some ⟨g', 0, none⟩) 65 c' := by rw [hV', hv']
      have hT1 : ∀ wx, OwnS wx 9 (V' a).1 (n.ks.map Value.string) → Calls Try.prog 49 #[.slice (some ⟨g, 0, none⟩) 64 c, .int .i64 31] wx (DelPost wx 9 (V' a).1 ((n.ks.take 31).map Value.string)) := fun wx h => by
        have := truncate49 _ _ 31 wx (by simp [hs2]) h (by simp [hs2])
        rw [← List.map_take, hk1] at this
        rw [hk1]
        exact this
      have hT2 : ∀ wx, OwnS wx 25 (V' a).2 (n.cs.map ptr) → Calls Try.prog 51 #[.slice (some ⟨g', 0, none⟩) 65 c', .int .i64 32] wx (DelPost wx 25 (V' a).2 ((n.cs.take 32).map ptr)) := fun wx h => by
        have := truncate51 _ _ 32 wx (by simp [hs]) h (by simp [hs])
        rw [← List.map_take, hk2] at this
        rw [hk2]
        exact this
      have hR1 : ∀ wx en w', DelPost wx 9 (V' a).1 ((n.ks.take 31).map Value.string) en w' → ∃ g c, en = .returned (.slice (some ⟨g, 0, none⟩) 31 c) := fun wx en w' h => del_ret h (by rw [hk1]; simp [Value.ownBlock]) (by simp [hs2])
      have hR2 : ∀ wx en w', DelPost wx 25 (V' a).2 ((n.cs.take 32).map ptr) en w' → ∃ g c, en = .returned (.slice (some ⟨g, 0, none⟩) 32 c) := fun wx en w' h => del_ret h (by rw [hk2]; simp [Value.ownBlock]) (by simp [hs])
      have HN : Hid (NodeIn wc.drew a (V' a) n) := NodeIn.keep (HP2.out.node a n HM2.out) ((Keeps.refl No wc).drew) (fun h => h) (fun _ _ h => h) (fun _ _ h => h)
      go_region_with (first
        | (go_at_call 49; go_loud (refine (hT1 _ ?_).mono ?_; (first | exact HCb.out.keys | exact HN.out.keys); intro e w1 hq; obtain ⟨g1, c1, rfl⟩ := hR1 _ _ _ hq; (first | have HW : Hid _ := wholeCK (V := V') HCb.out hq | have HKa : Hid _ := halfK (V := V') HN.out hq); clear hq; (obtain ⟨x0, x1, x2, x3⟩ := (by first | exact at_facts HW.out.at_ | exact at_facts HKa.out.at_ : w1.cell? ⟨a, 0, none⟩ = some (V' a).1 ∧ w1.cell? ⟨a, 1, none⟩ = some (V' a).2 ∧ w1.frozen? ⟨a, 0, none⟩ = false ∧ w1.frozen? ⟨a, 1, none⟩ = false); rw [hk1] at x0; rw [hk2] at x1)))
        | (go_at_call 51; go_loud (refine (hT2 _ ?_).mono ?_; (first | exact HKa.out.kids | exact HN.out.kids); intro e w2 hq; obtain ⟨g2, c2, rfl⟩ := hR2 _ _ _ hq; (first | have HW : Hid _ := wholeKC (V := V') HKa.out hq | have HCb : Hid _ := halfC (V := V') HN.out hq); clear hq; (obtain ⟨y0, y1, y2, y3⟩ := (by first | exact at_facts HW.out.at_ | exact at_facts HCb.out.at_ : w2.cell? ⟨a, 0, none⟩ = some (V' a).1 ∧ w2.cell? ⟨a, 1, none⟩ = some (V' a).2 ∧ w2.frozen? ⟨a, 0, none⟩ = false ∧ w2.frozen? ⟨a, 1, none⟩ = false); rw [hk1] at y0; rw [hk2] at y1))))
      all_goals
        (go_wp2_with fail
         go_meet
         case rel =>
           obtain ⟨q1, q2⟩ := PoolV.both (PoolV.keep HP2.out ((Keeps.refl No wc).drew)) HM2.out HW.out htk
           exact ⟨⟨_, q1⟩, (Keeps.not' (HI.out.keeps.drew)).and q2⟩)
    case rest =>
      go_wp2_with fail
      go_ret2
      exact ⟨b, rfl, HI.out.ge, hcut.out.1, hcut.out.2⟩
end Go.Proofs.Qxb6603837a
