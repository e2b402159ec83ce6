import Derived.Test.Qxb6603837aApp
namespace Go.Proofs.Qxb6603837a
open Go.RowKit
set_option maxHeartbeats 4000000 in
set_option maxRecDepth 100000 in
theorem moveLeft53_leaf {F : Nat → Prop} {M : Mm} {a l r i : Nat} {n nl nr : Nd} {w : World} {x z : ByteArray} (p : Pool F w M) (ha : M a = some n) (hl : M l = some nl) (hr : M r = some nr)
    (hal : a ≠ l) (har : a ≠ r) (hlr : l ≠ r) (hcl : n.cs[i]? = some l) (hcr : n.cs[i + 1]? = some r) (hi : i < n.ks.length) (hn : n.cs.length ≤ 1000)
    (hlf : nl.cs = []) (hl0 : 0 < nl.ks.length) (hl1 : nl.ks.length ≤ 900) (hx : nr.ks[0]? = some x) (hz : nr.ks[1]? = some z) (hr1 : nr.ks.length ≤ 900) :
    Calls Try.prog 53 #[ptr a, .int .i64 i] w fun e w' => e = .returned (.tuple #[]) ∧ Got F w (upd (upd (upd M l (some ⟨nl.ks ++ [x], nl.cs⟩)) r (some ⟨nr.ks.drop 1, nr.cs⟩)) a (some ⟨n.ks.set i z, n.cs⟩)) w' := by
  obtain ⟨V, p⟩ := p
  have hlen : i + 1 < n.cs.length := (List.getElem?_eq_some_iff.1 hcr).1
  have hrl : 1 < nr.ks.length := (List.getElem?_eq_some_iff.1 hz).1
  have hr00 : 0 < nr.ks.length := by omega
  obtain ⟨gc, cc, hvc, hgc, _, hcs, _⟩ := (p.node a n ha).kidFacts (by omega)
  have c1 := (p.node a n ha).cell1
  rw [hvc] at c1
  have e1 := hcs i l hcl
  have e2 := hcs (i + 1) r hcr
  have HP : Hid (PoolV F V w M) := p
  have hlf' : nl.leaf? = true := by simp [Nd.leaf?, hlf]
  clear hlf
  generalize hL : n.cs.length = L at *
  clear hcs p
  go_enter Try.func53, Try.ntmps53
  go_upto_region 0 with fail
  go_quiet (fail)
  have HP0 : Hid (PoolV F V (w.drewN nq) M) := PoolV.keep HP.out ((Keeps.refl No w).drewN nq)
  have HK0 : Hid (Keeps (Not' F) w (w.drewN nq)) := Keeps.not' ((Keeps.refl No w).drewN nq)
  clear c1 e1 e2
  generalize w.drewN nq = w0 at *
  have nl0 := HP0.out.node l nl hl
  have nr0 := HP0.out.node r nr hr
  obtain ⟨gl, cl, hvl, hgl, _, _, _⟩ := nl0.keyFacts hl0
  obtain ⟨gr, cr, hvr, hgr, _, hckr, _⟩ := nr0.keyFacts (by omega)
  go_upto_region 2 with (go_at_call 35; refine (leaf35 nl0).mono ?_; rintro e w' ⟨rfl, rfl⟩; rw [hlf'])
  go_cut [] (fun wx => Hid (Got F w (upd M l (some ⟨nl.ks ++ [x], nl.cs⟩)) wx))
  case first =>
    have d0 := nl0.cell0
    have d1 := nr0.cell0
    rw [hvl] at d0
    rw [hvr] at d1
    have d2 := hckr 0 x hx
    have HP1 : Hid (PoolV F V (w0.drew.alloc (.cells #[.string x] 9)) M) := PoolV.keep HP0.out ((Keeps.refl No w0).drew.alloc (.cells #[.string x] 9))
    have p2 := PoolV.keep HP0.out ((Keeps.refl No w0).alloc (.cells #[.string x] 9))
    have f3 := (p2.node l nl hl).cell0
    rw [hvl] at f3
    obtain ⟨g1, c1, w1, hrun, hq⟩ := appKeysRun (g := w0.heap.size) (m := 1) (c := 1) (ys := [x]) HP1.out hl rfl (by omega) (fun j y hy => by
      have hA := At.new w0.drew 9 #[Value.string x]
      cases j with
      | zero => cases hy; exact hA.cell (by simp)
      | succ j => simp at hy) (by omega)
    obtain ⟨h1, h2, h3⟩ := PoolV.insKeys HP1.out hl hq
    obtain ⟨x0, x1, x2, x3⟩ := at_facts h1
    have HG : Hid (Got F w (upd M l (some ⟨nl.ks ++ [x], nl.cs⟩)) (w1.setCell ⟨l, 0, none⟩ (.slice (some ⟨g1, 0, none⟩) (nl.ks.length + 1) c1))) := ⟨⟨_, h2⟩, (HK0.out.and (Keeps.not' ((Keeps.refl No w0).drew.alloc (.cells #[.string x] 9)))).and h3⟩
    rw [hvl] at hrun
    have HR : Hid _ := hrun
    clear hq h1 h2 h3 hrun p2 hckr
    go_region_law (refine step_append_run rfl (.tmp 27) (.tmp 34) 22 22 rfl (.slice (some ⟨gl, 0, none⟩) nl.ks.length cl) (.slice (some ⟨w0.heap.size, 0, none⟩) 1 1) (by simp [Act.eval]) (by simp [Act.eval]) HR.out ?_)
    all_goals
      (go_wp2_with fail
       go_meet
       case rel => exact HG)
  case rest =>
    obtain ⟨⟨V1, q⟩, hkk⟩ := hcut.out
    have HKK : Hid _ := hkk
    have hr1' : upd M l (some ⟨nl.ks ++ [x], nl.cs⟩) r = some nr := (upd_other _ _ hlr.symm).trans hr
    have nr1 := q.node r nr hr1'
    obtain ⟨gr1, cr1, hvr1, hgr1, _, _, _⟩ := nr1.keyFacts hr00
    have d2 := nr1.cell0
    rw [hvr1] at d2
    have hT : Calls Try.prog 41 #[.slice (some ⟨gr1, 0, none⟩) nr.ks.length cr1, .int .i64 0, .int .i64 1] wc (DelPost wc 9 (V1 r).1 ((nr.ks.drop 1).map Value.string)) := by
      have := delete41 _ _ 0 wc (by simpa using hr00) nr1.keys (by simp; omega) (one_str _)
      rw [hvr1] at this ⊢
      simpa using this
    have HQ : Hid _ := q
    clear q hkk hckr
    go_upto_region 4 with (go_at_call 41; go_loud (refine hT.mono ?_; intro e w1 hq; obtain ⟨g1, c1, rfl⟩ := del_ret hq (by rw [hvr1]; simp [Value.ownBlock]) (m := nr.ks.length - 1) (by simp); obtain ⟨h1, h2, h3⟩ := PoolV.delKeys HQ.out hr1' hq; obtain ⟨x0, x1, x2, x3⟩ := at_facts h1; have HG : Hid (Got F w (upd (upd M l (some ⟨nl.ks ++ [x], nl.cs⟩)) r (some ⟨nr.ks.drop 1, nr.cs⟩)) (w1.setCell ⟨r, 0, none⟩ (.slice (some ⟨g1, 0, none⟩) (nr.ks.length - 1) c1))) := ⟨⟨_, h2⟩, HKK.out.and h3⟩; clear hq h1 h2 h3))
    generalize w1.setCell ⟨r, 0, none⟩ (.slice (some ⟨g1, 0, none⟩) (nr.ks.length - 1) c1) = w3 at *
    obtain ⟨⟨V2, q⟩, hkk⟩ := HG.out
    have HK3 : Hid _ := hkk
    have hr2 : upd (upd M l (some ⟨nl.ks ++ [x], nl.cs⟩)) r (some ⟨nr.ks.drop 1, nr.cs⟩) r = some ⟨nr.ks.drop 1, nr.cs⟩ := upd_same _ _ _
    have ha2 : upd (upd M l (some ⟨nl.ks ++ [x], nl.cs⟩)) r (some ⟨nr.ks.drop 1, nr.cs⟩) a = some n := ((upd_other _ _ har).trans (upd_other _ _ hal)).trans ha
    have nr2 := q.node r _ hr2
    have na2 := q.node a n ha2
    obtain ⟨gr2, cr2, hvr2, hgr2, _, hcr2, _⟩ := nr2.keyFacts (by simp; omega)
    obtain ⟨ga2, ca2, hva2, hga2, _, hca2, hfa2⟩ := na2.keyFacts (by omega)
    have f0 := hcr2 0 z (by simpa using hz)
    have f1 := hca2 i (n.ks.getD i ByteArray.empty) (by simp [List.getD, hi])
    have f2 := hfa2 i
    have f3 := nr2.cell0
    have f4 := na2.cell0
    rw [hvr2] at f3
    rw [hva2] at f4
    have hdl : 0 < (nr.ks.drop 1).length := by simp; omega
    have HQ2 : Hid _ := q
    have HF : Hid (Got F w (upd (upd (upd M l (some ⟨nl.ks ++ [x], nl.cs⟩)) r (some ⟨nr.ks.drop 1, nr.cs⟩)) a (some ⟨n.ks.set i z, n.cs⟩)) (w3.drew.setCell ⟨ga2, i, none⟩ (.string z))) := by
      obtain ⟨t1, t2⟩ := PoolV.setKey (PoolV.keep HQ2.out ((Keeps.refl No w3).drew)) ha2 (g := ga2) (by rw [hva2]; rfl) hi z
      exact ⟨⟨_, t1⟩, HK3.out.drew.and (PoolV.out (PoolV.keep HQ2.out ((Keeps.refl No w3).drew)) ha2 t2)⟩
    clear q hkk hcr2 hca2 hfa2
    generalize n.ks.length = La at *
    generalize (nr.ks.drop 1).length = Lr at *
    go_region
    all_goals
      (go_wp2_with fail
       refine bodyPost_ret (results_none rfl _ _ _) rfl ?_
       exact ⟨rfl, HF.out⟩)
end Go.Proofs.Qxb6603837a
