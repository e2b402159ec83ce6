import Derived.Test.Qxb6603837aMv
namespace Go.Proofs.Qxb6603837a
open Go.RowKit
set_option maxHeartbeats 4000000 in
set_option maxRecDepth 100000 in
theorem moveRight52_leaf {F : Nat → Prop} {M : Mm} {a l r i m : Nat} {n nl nr : Nd} {w : World} {x : ByteArray} (p : Pool F w M) (ha : M a = some n) (hl : M l = some nl) (hr : M r = some nr)
    (hal : a ≠ l) (har : a ≠ r) (hlr : l ≠ r) (hcl : n.cs[i]? = some l) (hcr : n.cs[i + 1]? = some r) (hi : i < n.ks.length) (hn : n.cs.length ≤ 1000)
    (hlf : nl.cs = []) (hm : nl.ks.length = m + 1) (hx : nl.ks[m]? = some x) (hm1 : m + 1 ≤ 1000) (hr0 : 0 < nr.ks.length) (hr1 : nr.ks.length ≤ 900) :
    Calls Try.prog 52 #[ptr a, .int .i64 i] w fun e w' => e = .returned (.tuple #[]) ∧ Got F w (upd (upd (upd M r (some ⟨x :: nr.ks, nr.cs⟩)) l (some ⟨nl.ks.take m, nl.cs⟩)) a (some ⟨n.ks.set i x, n.cs⟩)) w' := by
  obtain ⟨V, p⟩ := p
  have hlen : i + 1 < n.cs.length := (List.getElem?_eq_some_iff.1 hcr).1
  obtain ⟨gc, cc, hvc, hgc, _, hcs, _⟩ := (p.node a n ha).kidFacts (by omega)
  have c1 := (p.node a n ha).cell1
  rw [hvc] at c1
  have e1 := hcs i l hcl
  have e2 := hcs (i + 1) r hcr
  have HP : Hid (PoolV F V w M) := p
  have hlf' : nl.leaf? = true := by simp [Nd.leaf?, hlf]
  clear hlf
  generalize hL : n.cs.length = L at *
  clear hcs p
  go_enter Try.func52, Try.ntmps52
  go_upto_region 0 with fail
  go_quiet (fail)
  have HP0 : Hid (PoolV F V (w.drewN nq) M) := PoolV.keep HP.out ((Keeps.refl No w).drewN nq)
  have HK0 : Hid (Keeps (Not' F) w (w.drewN nq)) := Keeps.not' ((Keeps.refl No w).drewN nq)
  clear c1 e1 e2
  generalize w.drewN nq = w0 at *
  have nl0 := HP0.out.node l nl hl
  obtain ⟨gl, cl, hvl, hgl, _, hcsl, _⟩ := nl0.keyFacts (by omega)
  have hxl := hcsl m x hx
  have d0 := nl0.cell0
  rw [hvl, hm] at d0
  clear hcsl
  go_upto_region 3 with (go_at_call 35; refine (leaf35 nl0).mono ?_; rintro e w' ⟨rfl, rfl⟩; rw [hlf'])
  go_cut [] (fun wx => Hid (Got F w (upd M r (some ⟨x :: nr.ks, nr.cs⟩)) wx))
  case first =>
    have nr0 := HP0.out.node r nr hr
    obtain ⟨gr, cr, hvr, hgr, _, _, _⟩ := nr0.keyFacts hr0
    have d1 := nr0.cell0
    rw [hvr] at d1
    have p1 := PoolV.keep HP0.out ((Keeps.refl No w0).drew.alloc (.cells #[.string x] 9))
    have HP1 : Hid _ := p1
    have f0 := (p1.node l nl hl).cell0
    rw [hvl, hm] at f0
    have f1 := (p1.node r nr hr).cell0
    rw [hvr] at f1
    have hI : Calls Try.prog 37 #[.slice (some ⟨gr, 0, none⟩) nr.ks.length cr, .int .i64 0, .slice (some ⟨w0.heap.size, 0, none⟩) 1 1] (w0.drew.alloc (.cells #[.string x] 9)) (InsPost (w0.drew.alloc (.cells #[.string x] 9)) 9 (V r).1 ((x :: nr.ks).map Value.string)) := by
      have := insKeysCall (i := 0) (x := x) (PoolV.keep HP0.out ((Keeps.refl No w0).drew)) hr (by omega) (by omega)
      rw [hvr] at this ⊢
      simpa using this
    have p2 := PoolV.keep HP0.out ((Keeps.refl No w0).alloc (.cells #[.string x] 9))
    have f2 := (p2.node l nl hl).cell0
    rw [hvl, hm] at f2
    have f3 := (p2.node r nr hr).cell0
    rw [hvr] at f3
    clear p1 p2
    go_region_with (go_at_call 37; go_loud (refine hI.mono ?_; intro e w1 hq; obtain ⟨g1, c1, rfl⟩ := ins_ret hq (m := nr.ks.length + 1) (by simp); obtain ⟨h1, h2, h3⟩ := PoolV.insKeys HP1.out hr hq; obtain ⟨x0, x1, x2, x3⟩ := at_facts h1; have HG : Hid (Got F w (upd M r (some ⟨x :: nr.ks, nr.cs⟩)) (w1.setCell ⟨r, 0, none⟩ (.slice (some ⟨g1, 0, none⟩) (nr.ks.length + 1) c1))) := ⟨⟨_, h2⟩, (HK0.out.and (Keeps.not' ((Keeps.refl No w0).drew.alloc (.cells #[.string x] 9)))).and h3⟩; clear hq h1 h2 h3))
    all_goals
      (go_wp2_with fail
       go_meet
       case rel => exact HG)
  case rest =>
    obtain ⟨⟨V1, q⟩, hkk⟩ := hcut.out
    have HKK : Hid _ := hkk
    have hl1 : upd M r (some ⟨x :: nr.ks, nr.cs⟩) l = some nl := (upd_other _ _ hlr).trans hl
    have nl1 := q.node l nl hl1
    obtain ⟨gl1, cl1, hvl1, hgl1, _, _, _⟩ := nl1.keyFacts (by omega)
    have d2 := nl1.cell0
    rw [hvl1, hm] at d2
    have hT : Calls Try.prog 49 #[.slice (some ⟨gl1, 0, none⟩) (m + 1) cl1, .int .i64 m] wc (DelPost wc 9 (V1 l).1 ((nl.ks.take m).map Value.string)) := by
      have := truncate49 _ _ m wc (by simp [hm]) nl1.keys (by simp [hm]; omega)
      rw [hvl1, hm] at this
      rw [hvl1, hm, List.map_take]
      exact this
    have HQ : Hid _ := q
    clear q hkk d0 hxl
    go_upto_region 5 with (go_at_call 49; go_loud (refine hT.mono ?_; intro e w1 hq; obtain ⟨g1, c1, rfl⟩ := del_ret hq (by rw [hvl1]; simp [Value.ownBlock]) (m := m) (by simp [hm]); obtain ⟨h1, h2, h3⟩ := PoolV.delKeys HQ.out hl1 hq; obtain ⟨x0, x1, x2, x3⟩ := at_facts h1; have HG : Hid (Got F w (upd (upd M r (some ⟨x :: nr.ks, nr.cs⟩)) l (some ⟨nl.ks.take m, nl.cs⟩)) (w1.setCell ⟨l, 0, none⟩ (.slice (some ⟨g1, 0, none⟩) m c1))) := ⟨⟨_, h2⟩, HKK.out.and h3⟩; clear hq h1 h2 h3))
    generalize w1.setCell ⟨l, 0, none⟩ (.slice (some ⟨g1, 0, none⟩) m c1) = w3 at *
    obtain ⟨⟨V2, q⟩, hkk⟩ := HG.out
    have HK3 : Hid _ := hkk
    have hr2 : upd (upd M r (some ⟨x :: nr.ks, nr.cs⟩)) l (some ⟨nl.ks.take m, nl.cs⟩) r = some ⟨x :: nr.ks, nr.cs⟩ := (upd_other _ _ hlr.symm).trans (upd_same _ _ _)
    have ha2 : upd (upd M r (some ⟨x :: nr.ks, nr.cs⟩)) l (some ⟨nl.ks.take m, nl.cs⟩) a = some n := ((upd_other _ _ hal).trans (upd_other _ _ har)).trans ha
    have nr2 := q.node r _ hr2
    have na2 := q.node a n ha2
    obtain ⟨gr2, cr2, hvr2, hgr2, _, hcr2, _⟩ := nr2.keyFacts (by simp)
    obtain ⟨ga2, ca2, hva2, hga2, _, hca2, hfa2⟩ := na2.keyFacts (by omega)
    have f0 := hcr2 0 x (by simp)
    have f1 := hca2 i (n.ks.getD i ByteArray.empty) (by simp [List.getD, hi])
    have f2 := hfa2 i
    have f3 := nr2.cell0
    have f4 := na2.cell0
    rw [hvr2] at f3
    rw [hva2] at f4
    simp only [List.length_cons] at f3
    have HQ2 : Hid _ := q
    have HF : Hid (Got F w (upd (upd (upd M r (some ⟨x :: nr.ks, nr.cs⟩)) l (some ⟨nl.ks.take m, nl.cs⟩)) a (some ⟨n.ks.set i x, n.cs⟩)) (w3.drew.setCell ⟨ga2, i, none⟩ (.string x))) := by
      obtain ⟨t1, t2⟩ := PoolV.setKey (PoolV.keep HQ2.out ((Keeps.refl No w3).drew)) ha2 (g := ga2) (by rw [hva2]; rfl) hi x
      exact ⟨⟨_, t1⟩, HK3.out.drew.and (PoolV.out (PoolV.keep HQ2.out ((Keeps.refl No w3).drew)) ha2 t2)⟩
    clear q hkk hcr2 hca2 hfa2
    generalize n.ks.length = La at *
    generalize nr.ks.length = Lr at *
    go_region
    all_goals
      (go_wp2_with fail
       refine bodyPost_ret (results_none rfl _ _ _) rfl ?_
       exact ⟨rfl, HF.out⟩)
end Go.Proofs.Qxb6603837a
