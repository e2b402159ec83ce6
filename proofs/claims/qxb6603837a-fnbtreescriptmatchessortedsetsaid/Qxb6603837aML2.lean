import Derived.Test.Qxb6603837aApp
import Derived.Test.Qxb6603837aMR2
namespace Go.Proofs.Qxb6603837a
open Go.RowKit
set_option maxHeartbeats 8000000 in
set_option maxRecDepth 100000 in
theorem moveLeft53_inner {F : Nat → Prop} {M : Mm} {a l r i y : Nat} {n nl nr : Nd} {w : World} {k x : ByteArray} (p : Pool F w M) (ha : M a = some n) (hl : M l = some nl) (hr : M r = some nr)
    (hal : a ≠ l) (har : a ≠ r) (hlr : l ≠ r) (hcl : n.cs[i]? = some l) (hcr : n.cs[i + 1]? = some r) (hk : n.ks[i]? = some k) (hn : n.cs.length ≤ 1000)
    (hl0 : 0 < nl.ks.length) (hl1 : nl.ks.length ≤ 900) (hl2 : 0 < nl.cs.length) (hl3 : nl.cs.length ≤ 900) (hx : nr.ks[0]? = some x) (hy : nr.cs[0]? = some y) (hr1 : nr.ks.length ≤ 900) (hr2 : 1 < nr.cs.length) (hr3 : nr.cs.length ≤ 900) :
    Calls Try.prog 53 #[ptr a, .int .i64 i] w fun e w' => e = .returned (.tuple #[]) ∧ ∃ M', Got F w M' w' ∧ Upd3 M M' a l r (some ⟨n.ks.set i x, n.cs⟩) (some ⟨nl.ks ++ [k], nl.cs ++ [y]⟩) (some ⟨nr.ks.drop 1, nr.cs.drop 1⟩) := by
  obtain ⟨V, p⟩ := p
  have hlen : i + 1 < n.cs.length := (List.getElem?_eq_some_iff.1 hcr).1
  have hi : i < n.ks.length := (List.getElem?_eq_some_iff.1 hk).1
  have hr00 : 0 < nr.ks.length := (List.getElem?_eq_some_iff.1 hx).1
  obtain ⟨gc, cc, hvc, hgc, _, hcs, _⟩ := (p.node a n ha).kidFacts (by omega)
  have c1 := (p.node a n ha).cell1
  rw [hvc] at c1
  have e1 := hcs i l hcl
  have e2 := hcs (i + 1) r hcr
  have HP : Hid (PoolV F V w M) := p
  have hlf' : nl.leaf? = false := by cases h : nl.cs with | nil => simp [h] at hl2 | cons _ _ => simp [Nd.leaf?, h]
  generalize hL : n.cs.length = L at *
  clear hcs p
  go_enter Try.func53, Try.ntmps53
  go_upto_region 0 with fail
  go_quiet (fail)
  have HP0 : Hid (PoolV F V (w.drewN nq) M) := PoolV.keep HP.out ((Keeps.refl No w).drewN nq)
  have HK0 : Hid (Keeps (Not' F) w (w.drewN nq)) := Keeps.not' ((Keeps.refl No w).drewN nq)
  clear c1 e1 e2
  generalize w.drewN nq = w0 at *
  have nl0 := HP0.out.node l nl hl
  have na0 := HP0.out.node a n ha
  obtain ⟨gl, cl, hvl, hgl, _, _, _⟩ := nl0.keyFacts hl0
  obtain ⟨ga, ca, hva, hga, _, hcka, _⟩ := na0.keyFacts (by omega)
  go_upto_region 5 with (go_at_call 35; refine (leaf35 nl0).mono ?_; rintro e w' ⟨rfl, rfl⟩; rw [hlf'])
  go_cut [] (fun wx => Hid (Got F w (upd M l (some ⟨nl.ks ++ [k], nl.cs⟩)) wx))
  case first =>
    have d0 := nl0.cell0
    have d1 := na0.cell0
    rw [hvl] at d0
    rw [hva] at d1
    have d2 := hcka i k hk
    have HP1 : Hid (PoolV F V (w0.drew.alloc (.cells #[.string k] 9)) M) := PoolV.keep HP0.out ((Keeps.refl No w0).drew.alloc (.cells #[.string k] 9))
    have p2 := PoolV.keep HP0.out ((Keeps.refl No w0).alloc (.cells #[.string k] 9))
    have f3 := (p2.node l nl hl).cell0
    rw [hvl] at f3
    obtain ⟨g1, c1, w1, hrun, hq⟩ := appKeysRun (g := w0.heap.size) (m := 1) (c := 1) (ys := [k]) HP1.out hl rfl (by omega) (fun j y hy => by
      have hA := At.new w0.drew 9 #[Value.string k]
      cases j with
      | zero => cases hy; exact hA.cell (by simp)
      | succ j => simp at hy) (by omega)
    obtain ⟨h1, h2, h3⟩ := PoolV.insKeys HP1.out hl hq
    obtain ⟨x0, x1, x2, x3⟩ := at_facts h1
    have HG : Hid (Got F w (upd M l (some ⟨nl.ks ++ [k], nl.cs⟩)) (w1.setCell ⟨l, 0, none⟩ (.slice (some ⟨g1, 0, none⟩) (nl.ks.length + 1) c1))) := ⟨⟨_, h2⟩, (HK0.out.and (Keeps.not' ((Keeps.refl No w0).drew.alloc (.cells #[.string k] 9)))).and h3⟩
    rw [hvl] at hrun
    have HR : Hid _ := hrun
    clear hq h1 h2 h3 hrun p2 hcka
    generalize n.ks.length = Ln at *
    go_region_law (refine step_append_run rfl (.tmp 62) (.tmp 70) 22 22 rfl (.slice (some ⟨gl, 0, none⟩) nl.ks.length cl) (.slice (some ⟨w0.heap.size, 0, none⟩) 1 1) (by simp [Act.eval]) (by simp [Act.eval]) HR.out ?_)
    all_goals
      (go_wp2_with fail
       go_meet
       case rel => exact HG)
  case rest =>
    have HG1 := hcut
    clear hcut HP0 HK0 nl0 na0 hcka
    go_upto_region 6 with fail
    go_cut [] (fun wx => Hid (Got F w (upd (upd M l (some ⟨nl.ks ++ [k], nl.cs⟩)) l (some ⟨nl.ks ++ [k], nl.cs ++ [y]⟩)) wx))
    case first =>
      obtain ⟨⟨V1, q⟩, hkk⟩ := HG1.out
      have HQ : Hid _ := q
      have HKK : Hid _ := hkk
      have hl1' : upd M l (some ⟨nl.ks ++ [k], nl.cs⟩) l = some ⟨nl.ks ++ [k], nl.cs⟩ := upd_same _ _ _
      have hr1' : upd M l (some ⟨nl.ks ++ [k], nl.cs⟩) r = some nr := (upd_other _ _ hlr.symm).trans hr
      have nl1 := q.node l _ hl1'
      have nr1 := q.node r nr hr1'
      obtain ⟨gl1, cl1, hvl1, hgl1, _, _, _⟩ := nl1.kidFacts hl2
      obtain ⟨gr1, cr1, hvr1, hgr1, _, hckr, _⟩ := nr1.kidFacts (by omega)
      have d0 := nl1.cell1
      have d1 := nr1.cell1
      rw [hvl1] at d0
      rw [hvr1] at d1
      have d2 := hckr 0 y hy
      have hr0c : 0 < nr.cs.length := by omega
      have HP1 : Hid (PoolV F V1 (wc.drew.alloc (.cells #[ptr y] 25)) (upd M l (some ⟨nl.ks ++ [k], nl.cs⟩))) := PoolV.keep HQ.out ((Keeps.refl No wc).drew.alloc (.cells #[ptr y] 25))
      have p2 := PoolV.keep HQ.out ((Keeps.refl No wc).alloc (.cells #[ptr y] 25))
      have f3 := (p2.node l _ hl1').cell1
      rw [hvl1] at f3
      obtain ⟨g1, c1, w1, hrun, hq⟩ := appKidsRun (g := wc.heap.size) (m := 1) (c := 1) (ys := [y]) HP1.out hl1' rfl (by omega) (fun j z hz => by
        have hA := At.new wc.drew 25 #[ptr y]
        cases j with
        | zero => cases hz; exact hA.cell (by simp)
        | succ j => simp at hz) (by simp; omega)
      obtain ⟨h1, h2, h3⟩ := PoolV.insKids HP1.out hl1' (by simp) hq
      obtain ⟨x0, x1, x2, x3⟩ := at_facts h1
      have HG : Hid (Got F w (upd (upd M l (some ⟨nl.ks ++ [k], nl.cs⟩)) l (some ⟨nl.ks ++ [k], nl.cs ++ [y]⟩)) (w1.setCell ⟨l, 1, none⟩ (.slice (some ⟨g1, 0, none⟩) (nl.cs.length + 1) c1))) := ⟨⟨_, h2⟩, (HKK.out.and (Keeps.not' ((Keeps.refl No wc).drew.alloc (.cells #[ptr y] 25)))).and h3⟩
      rw [hvl1] at hrun
      have HR : Hid _ := hrun
      clear hq h1 h2 h3 hrun p2 hckr q hkk
      go_region_law (refine step_append_run rfl (.tmp 78) (.tmp 85) 56 56 rfl (.slice (some ⟨gl1, 0, none⟩) nl.cs.length cl1) (.slice (some ⟨wc.heap.size, 0, none⟩) 1 1) (by simp [Act.eval]) (by simp [Act.eval]) HR.out ?_)
      all_goals
        (go_wp2_with fail
         go_meet
         case rel => exact HG)
    case rest =>
      have HG2 := hcut
      clear hcut HG1
      go_upto_region 7 with fail
      go_cut [] (fun wx => Hid (Got F w (upd (upd (upd M l (some ⟨nl.ks ++ [k], nl.cs⟩)) l (some ⟨nl.ks ++ [k], nl.cs ++ [y]⟩)) a (some ⟨n.ks.set i x, n.cs⟩)) wx))
      case first =>
        obtain ⟨⟨V2, q⟩, hkk⟩ := HG2.out
        have HQ : Hid _ := q
        have HKK : Hid _ := hkk
        have hr2' : (upd (upd M l (some ⟨nl.ks ++ [k], nl.cs⟩)) l (some ⟨nl.ks ++ [k], nl.cs ++ [y]⟩)) r = some nr := ((upd_other _ _ hlr.symm).trans (upd_other _ _ hlr.symm)).trans hr
        have ha2 : (upd (upd M l (some ⟨nl.ks ++ [k], nl.cs⟩)) l (some ⟨nl.ks ++ [k], nl.cs ++ [y]⟩)) a = some n := ((upd_other _ _ hal).trans (upd_other _ _ hal)).trans ha
        have nr2 := q.node r nr hr2'
        have na2 := q.node a n ha2
        obtain ⟨gl2, cl2, hvl2, hgl2, _, hcl2, _⟩ := nr2.keyFacts hr00
        obtain ⟨ga2, ca2, hva2, hga2, _, hca2, hfa2⟩ := na2.keyFacts (by omega)
        have f0 := hcl2 0 x hx
        have f1 := hca2 i k hk
        have f2 := hfa2 i
        have f3 := nr2.cell0
        have f4 := na2.cell0
        rw [hvl2] at f3
        rw [hva2] at f4
        have HF : Hid (Got F w (upd (upd (upd M l (some ⟨nl.ks ++ [k], nl.cs⟩)) l (some ⟨nl.ks ++ [k], nl.cs ++ [y]⟩)) a (some ⟨n.ks.set i x, n.cs⟩)) (wc.drew.setCell ⟨ga2, i, none⟩ (.string x))) := by
          obtain ⟨t1, t2⟩ := PoolV.setKey (PoolV.keep HQ.out ((Keeps.refl No wc).drew)) ha2 (g := ga2) (by rw [hva2]; rfl) hi x
          exact ⟨⟨_, t1⟩, HKK.out.drew.and (PoolV.out (PoolV.keep HQ.out ((Keeps.refl No wc).drew)) ha2 t2)⟩
        clear q hkk hcl2 hca2 hfa2
        generalize n.ks.length = La at *
        generalize nr.ks.length = Lr at *
        go_region
        all_goals
          (go_wp2_with fail
           go_meet
           case rel => exact HF)
      case rest =>
        have HG3 := hcut
        clear hcut HG2
        obtain ⟨⟨V3, q⟩, hkk⟩ := HG3.out
        have HQ : Hid _ := q
        have HKK : Hid _ := hkk
        have hl3' : upd (upd (upd M l (some ⟨nl.ks ++ [k], nl.cs⟩)) l (some ⟨nl.ks ++ [k], nl.cs ++ [y]⟩)) a (some ⟨n.ks.set i x, n.cs⟩) r = some nr := (((upd_other _ _ har.symm).trans (upd_other _ _ hlr.symm)).trans (upd_other _ _ hlr.symm)).trans hr
        have nl3 := q.node r nr hl3'
        obtain ⟨g, c, hk1, hgc1, _, _, _⟩ := nl3.keyFacts hr00
        obtain ⟨g', c', hk2, hgc2, _, _, _⟩ := nl3.kidFacts (by omega)
        have d0 := nl3.cell0
        have d1 := nl3.cell1
        rw [hk1] at d0
        rw [hk2] at d1
        have hT1 : ∀ wx, OwnS wx 9 (V3 r).1 (nr.ks.map Value.string) → Calls Try.prog 41 #[.slice (some ⟨g, 0, none⟩) nr.ks.length c, .int .i64 0, .int .i64 1] wx (DelPost wx 9 (V3 r).1 ((nr.ks.drop 1).map Value.string)) := fun wx h => by
          have := delete41 _ _ 0 wx (by simpa using hr00) h (by simp; omega) (one_str _)
          rw [hk1] at this ⊢
          simpa using this
        have hT2 : ∀ wx, OwnS wx 25 (V3 r).2 (nr.cs.map ptr) → Calls Try.prog 59 #[.slice (some ⟨g', 0, none⟩) nr.cs.length c', .int .i64 0, .int .i64 1] wx (DelPost wx 25 (V3 r).2 ((nr.cs.drop 1).map ptr)) := fun wx h => by
          have := delete59 _ _ 0 wx (by simp; omega) h (by simp; omega) (one_ptr _)
          rw [hk2] at this ⊢
          simpa using this
        have hR1 : ∀ wx en w', DelPost wx 9 (V3 r).1 ((nr.ks.drop 1).map Value.string) en w' → ∃ g c, en = .returned (.slice (some ⟨g, 0, none⟩) (nr.ks.length - 1) c) := fun wx en w' h => del_ret h (by rw [hk1]; simp [Value.ownBlock]) (by simp)
        have hR2 : ∀ wx en w', DelPost wx 25 (V3 r).2 ((nr.cs.drop 1).map ptr) en w' → ∃ g c, en = .returned (.slice (some ⟨g, 0, none⟩) (nr.cs.length - 1) c) := fun wx en w' h => del_ret h (by rw [hk2]; simp [Value.ownBlock]) (by simp)
        have HN : Hid (NodeIn wc.drew r (V3 r) nr) := NodeIn.keep (HQ.out.node r nr hl3') ((Keeps.refl No wc).drew) (fun h => h) (fun _ _ h => h) (fun _ _ h => h)
        have htk : nr.cs.drop 1 ≠ [] := by intro e; have := congrArg List.length e; simp at this; omega
        clear q hkk
        go_upto_region 8 with fail
        go_region_with (first
          | (go_at_call 41; go_loud (refine (hT1 _ ?_).mono ?_; (first | exact HCb.out.keys | exact HN.out.keys); intro e w1 hq; obtain ⟨g1, c1, rfl⟩ := hR1 _ _ _ hq; (first | have HW : Hid _ := wholeCK (V := V3) HCb.out hq | have HKa : Hid _ := halfK (V := V3) HN.out hq); clear hq; (obtain ⟨x0, x1, x2, x3⟩ := (by first | exact at_facts HW.out.at_ | exact at_facts HKa.out.at_ : w1.cell? ⟨r, 0, none⟩ = some (V3 r).1 ∧ w1.cell? ⟨r, 1, none⟩ = some (V3 r).2 ∧ w1.frozen? ⟨r, 0, none⟩ = false ∧ w1.frozen? ⟨r, 1, none⟩ = false); rw [hk1] at x0; rw [hk2] at x1)))
          | (go_at_call 59; go_loud (refine (hT2 _ ?_).mono ?_; (first | exact HKa.out.kids | exact HN.out.kids); intro e w2 hq; obtain ⟨g2, c2, rfl⟩ := hR2 _ _ _ hq; (first | have HW : Hid _ := wholeKC (V := V3) HKa.out hq | have HCb : Hid _ := halfC (V := V3) HN.out hq); clear hq; (obtain ⟨y0, y1, y2, y3⟩ := (by first | exact at_facts HW.out.at_ | exact at_facts HCb.out.at_ : w2.cell? ⟨r, 0, none⟩ = some (V3 r).1 ∧ w2.cell? ⟨r, 1, none⟩ = some (V3 r).2 ∧ w2.frozen? ⟨r, 0, none⟩ = false ∧ w2.frozen? ⟨r, 1, none⟩ = false); rw [hk1] at y0; rw [hk2] at y1))))
        all_goals
          (go_wp2_with fail
           go_end0
           obtain ⟨q1, q2⟩ := PoolV.both (PoolV.keep HQ.out ((Keeps.refl No wc).drew)) hl3' HW.out htk
           refine ⟨rfl, _, ⟨⟨_, q1⟩, HKK.out.drew.and q2⟩, ?_, ?_, upd_same _ _ _, fun b h1 h2 h3 => ?_⟩
           · exact (upd_other _ _ har).trans (upd_same _ _ _)
           · exact ((upd_other _ _ hlr).trans (upd_other _ _ hal.symm)).trans (upd_same _ _ _)
           · exact (((upd_other _ _ h3).trans (upd_other _ _ h1)).trans (upd_other _ _ h2)).trans (upd_other _ _ h2))
end Go.Proofs.Qxb6603837a
