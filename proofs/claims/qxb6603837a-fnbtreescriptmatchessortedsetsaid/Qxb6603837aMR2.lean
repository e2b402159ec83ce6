import Derived.Test.Qxb6603837aMv
namespace Go.Proofs.Qxb6603837a
open Go.RowKit
structure Upd3 (M M' : Mm) (a l r : Nat) (x y z : Option Nd) : Prop where
  pa : M' a = x
  pl : M' l = y
  pr : M' r = z
  po : ∀ b, b ≠ a → b ≠ l → b ≠ r → M' b = M b
set_option maxHeartbeats 8000000 in
set_option maxRecDepth 100000 in
theorem moveRight52_inner {F : Nat → Prop} {M : Mm} {a l r i m y : Nat} {n nl nr : Nd} {w : World} {k x : ByteArray} (p : Pool F w M) (ha : M a = some n) (hl : M l = some nl) (hr : M r = some nr)
    (hal : a ≠ l) (har : a ≠ r) (hlr : l ≠ r) (hcl : n.cs[i]? = some l) (hcr : n.cs[i + 1]? = some r) (hk : n.ks[i]? = some k) (hn : n.cs.length ≤ 1000)
    (hlm : nl.cs.length = m + 2) (hm : nl.ks.length = m + 1) (hx : nl.ks[m]? = some x) (hy : nl.cs[m + 1]? = some y) (hm1 : m + 1 ≤ 900) (hr0 : 0 < nr.ks.length) (hr1 : nr.ks.length ≤ 900) (hr2 : 0 < nr.cs.length) (hr3 : nr.cs.length ≤ 900) :
    Calls Try.prog 52 #[ptr a, .int .i64 i] w fun e w' => e = .returned (.tuple #[]) ∧ ∃ M', Got F w M' w' ∧ Upd3 M M' a l r (some ⟨n.ks.set i x, n.cs⟩) (some ⟨nl.ks.take m, nl.cs.take (m + 1)⟩) (some ⟨k :: nr.ks, y :: nr.cs⟩) := by
  obtain ⟨V, p⟩ := p
  have hlen : i + 1 < n.cs.length := (List.getElem?_eq_some_iff.1 hcr).1
  have hi : i < n.ks.length := (List.getElem?_eq_some_iff.1 hk).1
  obtain ⟨gc, cc, hvc, hgc, _, hcs, _⟩ := (p.node a n ha).kidFacts (by omega)
  have c1 := (p.node a n ha).cell1
  rw [hvc] at c1
  have e1 := hcs i l hcl
  have e2 := hcs (i + 1) r hcr
  have HP : Hid (PoolV F V w M) := p
  have hlf' : nl.leaf? = false := by cases h : nl.cs with | nil => simp [h] at hlm | cons _ _ => simp [Nd.leaf?, h]
  have HLM : Hid _ := hlm
  have hw1 : IntKind.i64.wrap ((m : Int) + 1) = (m : Int) + 1 := by rw [IntKind.wrap_i64]; omega
  generalize hL : n.cs.length = L at *
  clear hcs p
  go_enter Try.func52, Try.ntmps52
  go_upto_region 0 with fail
  go_quiet (fail)
  have HP0 : Hid (PoolV F V (w.drewN nq) M) := PoolV.keep HP.out ((Keeps.refl No w).drewN nq)
  have HK0 : Hid (Keeps (Not' F) w (w.drewN nq)) := Keeps.not' ((Keeps.refl No w).drewN nq)
  clear c1 e1 e2
  generalize w.drewN nq = w0 at *
  have nl0 := HP0.out.node l nl hl
  obtain ⟨gl, cl, hvl, hgl, _, hcsl, _⟩ := nl0.keyFacts (by omega)
  have d0 := nl0.cell0
  rw [hvl, hm] at d0
  clear hcsl
  go_upto_region 6 with (go_at_call 35; refine (leaf35 nl0).mono ?_; rintro e w' ⟨rfl, rfl⟩; rw [hlf'])
  clear d0
  go_cut [] (fun wx => Hid (Got F w (upd M r (some ⟨k :: nr.ks, nr.cs⟩)) wx))
  case first =>
    have nr0 := HP0.out.node r nr hr
    have na0 := HP0.out.node a n ha
    obtain ⟨gr, cr, hvr, hgr, _, _, _⟩ := nr0.keyFacts hr0
    obtain ⟨ga, ca, hva, hga, _, hcka, _⟩ := na0.keyFacts (by omega)
    have d1 := nr0.cell0
    have d2 := na0.cell0
    rw [hvr] at d1
    rw [hva] at d2
    have d3 := hcka i k hk
    have HP1 : Hid (PoolV F V (w0.drew.alloc (.cells #[.string k] 9)) M) := PoolV.keep HP0.out ((Keeps.refl No w0).drew.alloc (.cells #[.string k] 9))
    have p2 := PoolV.keep HP0.out ((Keeps.refl No w0).alloc (.cells #[.string k] 9))
    have f3 := (p2.node r nr hr).cell0
    rw [hvr] at f3
    have hI : Calls Try.prog 37 #[.slice (some ⟨gr, 0, none⟩) nr.ks.length cr, .int .i64 0, .slice (some ⟨w0.heap.size, 0, none⟩) 1 1] (w0.drew.alloc (.cells #[.string k] 9)) (InsPost (w0.drew.alloc (.cells #[.string k] 9)) 9 (V r).1 ((k :: nr.ks).map Value.string)) := by
      have := insKeysCall (i := 0) (x := k) (PoolV.keep HP0.out ((Keeps.refl No w0).drew)) hr (by omega) (by omega)
      rw [hvr] at this ⊢
      simpa using this
    clear p2 hcka
    generalize n.ks.length = Ln at *
    go_region_with (go_at_call 37; go_loud (refine hI.mono ?_; intro e w1 hq; obtain ⟨g1, c1, rfl⟩ := ins_ret hq (m := nr.ks.length + 1) (by simp); obtain ⟨h1, h2, h3⟩ := PoolV.insKeys HP1.out hr hq; obtain ⟨x0, x1, x2, x3⟩ := at_facts h1; have HG : Hid (Got F w (upd M r (some ⟨k :: nr.ks, nr.cs⟩)) (w1.setCell ⟨r, 0, none⟩ (.slice (some ⟨g1, 0, none⟩) (nr.ks.length + 1) c1))) := ⟨⟨_, h2⟩, (HK0.out.and (Keeps.not' ((Keeps.refl No w0).drew.alloc (.cells #[.string k] 9)))).and h3⟩; clear hq h1 h2 h3))
    all_goals
      (go_wp2_with fail
       go_meet
       case rel => exact HG)
  case rest =>
    have HG1 := hcut
    clear hcut HP0 HK0 nl0 hvl
    go_upto_region 7 with fail
    go_cut [] (fun wx => Hid (Got F w (upd (upd M r (some ⟨k :: nr.ks, nr.cs⟩)) r (some ⟨k :: nr.ks, y :: nr.cs⟩)) wx))
    case first =>
      obtain ⟨⟨V1, q⟩, hkk⟩ := HG1.out
      have HQ : Hid _ := q
      have HKK : Hid _ := hkk
      have hr1' : upd M r (some ⟨k :: nr.ks, nr.cs⟩) r = some ⟨k :: nr.ks, nr.cs⟩ := upd_same _ _ _
      have hl1 : upd M r (some ⟨k :: nr.ks, nr.cs⟩) l = some nl := (upd_other _ _ hlr).trans hl
      have nr1 := q.node r _ hr1'
      have nl1 := q.node l nl hl1
      obtain ⟨gr, cr, hvr, hgr, _, _, _⟩ := nr1.kidFacts hr2
      obtain ⟨gl1, cl1, hvl1, hgl1, _, hckl, _⟩ := nl1.kidFacts (by omega)
      have d1 := nr1.cell1
      have d2 := nl1.cell1
      rw [hvr] at d1
      rw [hvl1] at d2
      have hlt : m + 1 < nl.cs.length := by omega
      have hA1 : (0 : Int) ≤ (m : Int) + 1 := by omega
      have hA2 : ((m : Int) + 1).toNat = m + 1 := by omega
      have hA3 : (m : Int) + 1 < (nl.cs.length : Int) := by omega
      have d3 := hckl (m + 1) y hy
      have HP1 : Hid (PoolV F V1 (wc.drew.alloc (.cells #[ptr y] 25)) (upd M r (some ⟨k :: nr.ks, nr.cs⟩))) := PoolV.keep HQ.out ((Keeps.refl No wc).drew.alloc (.cells #[ptr y] 25))
      have p2 := PoolV.keep HQ.out ((Keeps.refl No wc).alloc (.cells #[ptr y] 25))
      have f3 := (p2.node r _ hr1').cell1
      rw [hvr] at f3
      have hI : Calls Try.prog 38 #[.slice (some ⟨gr, 0, none⟩) nr.cs.length cr, .int .i64 0, .slice (some ⟨wc.heap.size, 0, none⟩) 1 1] (wc.drew.alloc (.cells #[ptr y] 25)) (InsPost (wc.drew.alloc (.cells #[ptr y] 25)) 25 (V1 r).2 ((y :: nr.cs).map ptr)) := by
        have := insKidsCall (i := 0) (x := y) (PoolV.keep HQ.out ((Keeps.refl No wc).drew)) hr1' (by omega) (by simp; omega)
        rw [hvr] at this ⊢
        simpa using this
      clear p2 hckl q hkk hlm
      generalize nl.cs.length = Lc at *
      go_region_with (go_at_call 38; go_loud (refine hI.mono ?_; intro e w1 hq; obtain ⟨g1, c1, rfl⟩ := ins_ret hq (m := nr.cs.length + 1) (by simp); obtain ⟨h1, h2, h3⟩ := PoolV.insKids HP1.out hr1' (by simp) hq; obtain ⟨x0, x1, x2, x3⟩ := at_facts h1; have HG : Hid (Got F w (upd (upd M r (some ⟨k :: nr.ks, nr.cs⟩)) r (some ⟨k :: nr.ks, y :: nr.cs⟩)) (w1.setCell ⟨r, 1, none⟩ (.slice (some ⟨g1, 0, none⟩) (nr.cs.length + 1) c1))) := ⟨⟨_, h2⟩, (HKK.out.and (Keeps.not' ((Keeps.refl No wc).drew.alloc (.cells #[ptr y] 25)))).and h3⟩; clear hq h1 h2 h3))
      all_goals
        (go_wp2_with fail
         go_meet
         case rel => exact HG)
    case rest =>
      have HG2 := hcut
      clear hcut HG1
      go_upto_region 8 with fail
      go_cut [] (fun wx => Hid (Got F w (upd (upd (upd M r (some ⟨k :: nr.ks, nr.cs⟩)) r (some ⟨k :: nr.ks, y :: nr.cs⟩)) a (some ⟨n.ks.set i x, n.cs⟩)) wx))
      case first =>
        obtain ⟨⟨V2, q⟩, hkk⟩ := HG2.out
        have HQ : Hid _ := q
        have HKK : Hid _ := hkk
        have hl2 : upd (upd M r (some ⟨k :: nr.ks, nr.cs⟩)) r (some ⟨k :: nr.ks, y :: nr.cs⟩) l = some nl := ((upd_other _ _ hlr).trans (upd_other _ _ hlr)).trans hl
        have ha2 : upd (upd M r (some ⟨k :: nr.ks, nr.cs⟩)) r (some ⟨k :: nr.ks, y :: nr.cs⟩) a = some n := ((upd_other _ _ har).trans (upd_other _ _ har)).trans ha
        have nl2 := q.node l nl hl2
        have na2 := q.node a n ha2
        obtain ⟨gl2, cl2, hvl2, hgl2, _, hcl2, _⟩ := nl2.keyFacts (by omega)
        obtain ⟨ga2, ca2, hva2, hga2, _, hca2, hfa2⟩ := na2.keyFacts (by omega)
        have f0 := hcl2 m x hx
        have f1 := hca2 i k hk
        have f2 := hfa2 i
        have f3 := nl2.cell0
        have f4 := na2.cell0
        rw [hvl2] at f3
        rw [hva2] at f4
        have hlt : m < nl.ks.length := by omega
        have HF : Hid (Got F w (upd (upd (upd M r (some ⟨k :: nr.ks, nr.cs⟩)) r (some ⟨k :: nr.ks, y :: nr.cs⟩)) a (some ⟨n.ks.set i x, n.cs⟩)) (wc.drew.setCell ⟨ga2, i, none⟩ (.string x))) := by
          obtain ⟨t1, t2⟩ := PoolV.setKey (PoolV.keep HQ.out ((Keeps.refl No wc).drew)) ha2 (g := ga2) (by rw [hva2]; rfl) hi x
          exact ⟨⟨_, t1⟩, HKK.out.drew.and (PoolV.out (PoolV.keep HQ.out ((Keeps.refl No wc).drew)) ha2 t2)⟩
        clear q hkk hcl2 hca2 hfa2 hm
        generalize n.ks.length = La at *
        generalize nl.ks.length = Lr at *
        go_region
        all_goals
          (go_wp2_with fail
           go_meet
           case rel => exact HF)
      case rest =>
        have HG3 := hcut
        clear hcut HG2
        obtain ⟨⟨V3, q⟩, hkk⟩ := HG3.out
        have HQ : Hid _ := q
        have HKK : Hid _ := hkk
        have hl3 : upd (upd (upd M r (some ⟨k :: nr.ks, nr.cs⟩)) r (some ⟨k :: nr.ks, y :: nr.cs⟩)) a (some ⟨n.ks.set i x, n.cs⟩) l = some nl := (((upd_other _ _ hal.symm).trans (upd_other _ _ hlr)).trans (upd_other _ _ hlr)).trans hl
        have nl3 := q.node l nl hl3
        obtain ⟨g, c, hk1, hgc1, _, _, _⟩ := nl3.keyFacts (by omega)
        obtain ⟨g', c', hk2, hgc2, _, _, _⟩ := nl3.kidFacts (by omega)
        rw [hm] at hk1
        rw [hlm] at hk2
        have d0 := nl3.cell0
        have d1 := nl3.cell1
        rw [hk1] at d0
        rw [hk2] at d1
        have hT1 : ∀ wx, OwnS wx 9 (V3 l).1 (nl.ks.map Value.string) → Calls Try.prog 49 #[.slice (some ⟨g, 0, none⟩) (m + 1) c, .int .i64 m] wx (DelPost wx 9 (V3 l).1 ((nl.ks.take m).map Value.string)) := fun wx h => by
          have := truncate49 _ _ m wx (by simp [hm]) h (by simp [hm]; omega)
          rw [← List.map_take, hk1] at this
          rw [hk1]
          exact this
        have hT2 : ∀ wx, OwnS wx 25 (V3 l).2 (nl.cs.map ptr) → Calls Try.prog 51 #[.slice (some ⟨g', 0, none⟩) (m + 2) c', .int .i64 ((m : Int) + 1)] wx (DelPost wx 25 (V3 l).2 ((nl.cs.take (m + 1)).map ptr)) := fun wx h => by
          have := truncate51 _ _ (m + 1) wx (by simp [hlm]) h (by simp [hlm]; omega)
          rw [← List.map_take, hk2] at this
          rw [hk2]
          exact this
        have hR1 : ∀ wx en w', DelPost wx 9 (V3 l).1 ((nl.ks.take m).map Value.string) en w' → ∃ g c, en = .returned (.slice (some ⟨g, 0, none⟩) m c) := fun wx en w' h => del_ret h (by rw [hk1]; simp [Value.ownBlock]) (by simp [hm])
        have hR2 : ∀ wx en w', DelPost wx 25 (V3 l).2 ((nl.cs.take (m + 1)).map ptr) en w' → ∃ g c, en = .returned (.slice (some ⟨g, 0, none⟩) (m + 1) c) := fun wx en w' h => del_ret h (by rw [hk2]; simp [Value.ownBlock]) (by simp [hlm])
        have HN : Hid (NodeIn wc.drew l (V3 l) nl) := NodeIn.keep (HQ.out.node l nl hl3) ((Keeps.refl No wc).drew) (fun h => h) (fun _ _ h => h) (fun _ _ h => h)
        have htk : nl.cs.take (m + 1) ≠ [] := by intro e; have := congrArg List.length e; simp [hlm] at this
        clear q hkk
        go_upto_region 9 with fail
        go_region_with (first
          | (go_at_call 49; go_loud (refine (hT1 _ ?_).mono ?_; (first | exact HCb.out.keys | exact HN.out.keys); intro e w1 hq; obtain ⟨g1, c1, rfl⟩ := hR1 _ _ _ hq; (first | have HW : Hid _ := wholeCK (V := V3) HCb.out hq | have HKa : Hid _ := halfK (V := V3) HN.out hq); clear hq; (obtain ⟨x0, x1, x2, x3⟩ := (by first | exact at_facts HW.out.at_ | exact at_facts HKa.out.at_ : w1.cell? ⟨l, 0, none⟩ = some (V3 l).1 ∧ w1.cell? ⟨l, 1, none⟩ = some (V3 l).2 ∧ w1.frozen? ⟨l, 0, none⟩ = false ∧ w1.frozen? ⟨l, 1, none⟩ = false); rw [hk1] at x0; rw [hk2] at x1)))
          | (go_at_call 51; go_loud (refine (hT2 _ ?_).mono ?_; (first | exact HKa.out.kids | exact HN.out.kids); intro e w2 hq; obtain ⟨g2, c2, rfl⟩ := hR2 _ _ _ hq; (first | have HW : Hid _ := wholeKC (V := V3) HKa.out hq | have HCb : Hid _ := halfC (V := V3) HN.out hq); clear hq; (obtain ⟨y0, y1, y2, y3⟩ := (by first | exact at_facts HW.out.at_ | exact at_facts HCb.out.at_ : w2.cell? ⟨l, 0, none⟩ = some (V3 l).1 ∧ w2.cell? ⟨l, 1, none⟩ = some (V3 l).2 ∧ w2.frozen? ⟨l, 0, none⟩ = false ∧ w2.frozen? ⟨l, 1, none⟩ = false); rw [hk1] at y0; rw [hk2] at y1))))
        all_goals
          (go_wp2_with fail
           go_end0
           obtain ⟨q1, q2⟩ := PoolV.both (PoolV.keep HQ.out ((Keeps.refl No wc).drew)) hl3 HW.out htk
           refine ⟨rfl, _, ⟨⟨_, q1⟩, HKK.out.drew.and q2⟩, ?_, upd_same _ _ _, ?_, fun b h1 h2 h3 => ?_⟩
           · exact (upd_other _ _ hal).trans (upd_same _ _ _)
           · exact ((upd_other _ _ hlr.symm).trans (upd_other _ _ har.symm)).trans (upd_same _ _ _)
           · exact (((upd_other _ _ h2).trans (upd_other _ _ h1)).trans (upd_other _ _ h3)).trans (upd_other _ _ h3))
end Go.Proofs.Qxb6603837a
