import Derived.Test.Qxb6603837aMg
namespace Go.Proofs.Qxb6603837a
open Go.RowKit
set_option maxHeartbeats 8000000 in
set_option maxRecDepth 100000 in
theorem merge54_inner {F : Nat → Prop} {M : Mm} {a l r i : Nat} {n nl nr : Nd} {w : World} {k : ByteArray} (p : Pool F w M) (ha : M a = some n) (hl : M l = some nl) (hr : M r = some nr)
    (hal : a ≠ l) (hlr : l ≠ r) (hcl : n.cs[i]? = some l) (hcr : n.cs[i + 1]? = some r) (hk : n.ks[i]? = some k) (hnk : n.ks.length ≤ 900) (hn : n.cs.length ≤ 900)
    (hl0 : 0 < nl.ks.length) (hl1 : nl.ks.length ≤ 400) (hr0 : 0 < nr.ks.length) (hr1 : nr.ks.length ≤ 400) (hl2 : 0 < nl.cs.length) (hl3 : nl.cs.length ≤ 400) (hr2 : 0 < nr.cs.length) (hr3 : nr.cs.length ≤ 400) :
    Calls Try.prog 54 #[ptr a, .int .i64 i] w fun e w' => e = .returned (.tuple #[]) ∧ ∃ M', Got F w M' w' ∧ Merged M M' a l r (some ⟨n.ks.take i ++ n.ks.drop (i + 1), n.cs.take (i + 1) ++ n.cs.drop (i + 2)⟩) (some ⟨nl.ks ++ k :: nr.ks, nl.cs ++ nr.cs⟩) := by
  obtain ⟨V, p⟩ := p
  have hlen : i + 1 < n.cs.length := (List.getElem?_eq_some_iff.1 hcr).1
  have hi : i < n.ks.length := (List.getElem?_eq_some_iff.1 hk).1
  have htk : n.cs.take (i + 1) ++ n.cs.drop (i + 2) ≠ [] := by intro e; have := congrArg List.length e; rw [List.length_append, List.length_take, List.length_nil] at this; omega
  have hw1 : IntKind.i64.wrap ((i : Int) + 1) = (i : Int) + 1 := by rw [IntKind.wrap_i64]; omega
  have hw2 : IntKind.i64.wrap ((i : Int) + 2) = (i : Int) + 2 := by rw [IntKind.wrap_i64]; omega
  obtain ⟨gc, cc, hvc, hgc, _, hcs, _⟩ := (p.node a n ha).kidFacts (by omega)
  have c1 := (p.node a n ha).cell1
  rw [hvc] at c1
  have e1 := hcs i l hcl
  have e2 := hcs (i + 1) r hcr
  have HP : Hid (PoolV F V w M) := p
  have hlf' : nl.leaf? = false := by cases h : nl.cs with | nil => simp [h] at hl2 | cons _ _ => simp [Nd.leaf?, h]
  generalize hL : n.cs.length = L at *
  clear hcs p
  go_enter Try.func54, Try.ntmps54
  go_upto_region 0 with fail
  go_quiet (fail)
  have HP0 : Hid (PoolV F V (w.drewN nq) M) := PoolV.keep HP.out ((Keeps.refl No w).drewN nq)
  have HK0 : Hid (Keeps (Not' F) w (w.drewN nq)) := Keeps.not' ((Keeps.refl No w).drewN nq)
  clear c1 e1 e2
  generalize w.drewN nq = w0 at *
  have nl0 := HP0.out.node l nl hl
  have na0 := HP0.out.node a n ha
  obtain ⟨gl, cl, hvl, hgl, _, _, _⟩ := nl0.keyFacts hl0
  obtain ⟨ga, ca, hva, hga, _, hcka, _⟩ := na0.keyFacts (by omega)
  go_upto_region 2 with (go_at_call 35; refine (leaf35 nl0).mono ?_; rintro e w' ⟨rfl, rfl⟩; rw [hlf'])
  go_cut [] (fun wx => Hid (Got F w (upd M l (some ⟨nl.ks ++ [k], nl.cs⟩)) wx))
  case first =>
    have d0 := nl0.cell0
    have d1 := na0.cell0
    rw [hvl] at d0
    rw [hva] at d1
    have d2 := hcka i k hk
    have HP1 : Hid (PoolV F V (w0.drew.alloc (.cells #[.string k] 9)) M) := PoolV.keep HP0.out ((Keeps.refl No w0).drew.alloc (.cells #[.string k] 9))
    have p2 := PoolV.keep HP0.out ((Keeps.refl No w0).alloc (.cells #[.string k] 9))
    have f3 := (p2.node l nl hl).cell0
    rw [hvl] at f3
    obtain ⟨g1, c1, w1, hrun, hq⟩ := appKeysRun (g := w0.heap.size) (m := 1) (c := 1) (ys := [k]) HP1.out hl rfl (by omega) (fun j y hy => by
      have hA := At.new w0.drew 9 #[Value.string k]
      cases j with
      | zero => cases hy; exact hA.cell (by simp)
      | succ j => simp at hy) (by omega)
    obtain ⟨h1, h2, h3⟩ := PoolV.insKeys HP1.out hl hq
    obtain ⟨x0, x1, x2, x3⟩ := at_facts h1
    have HG : Hid (Got F w (upd M l (some ⟨nl.ks ++ [k], nl.cs⟩)) (w1.setCell ⟨l, 0, none⟩ (.slice (some ⟨g1, 0, none⟩) (nl.ks.length + 1) c1))) := ⟨⟨_, h2⟩, (HK0.out.and (Keeps.not' ((Keeps.refl No w0).drew.alloc (.cells #[.string k] 9)))).and h3⟩
    rw [hvl] at hrun
    have HR : Hid _ := hrun
    clear hq h1 h2 h3 hrun p2 hcka
    generalize n.ks.length = Ln at *
    go_region_law (refine step_append_run rfl (.tmp 28) (.tmp 36) 22 22 rfl (.slice (some ⟨gl, 0, none⟩) nl.ks.length cl) (.slice (some ⟨w0.heap.size, 0, none⟩) 1 1) (by simp [Act.eval]) (by simp [Act.eval]) HR.out ?_)
    all_goals
      (go_wp2_with fail
       go_meet
       case rel => exact HG)
  case rest =>
    have HG1 := hcut
    clear hcut HP0 HK0 nl0 na0 hcka
    go_upto_region 3 with fail
    go_cut [] (fun wx => Hid (Got F w (upd (upd M l (some ⟨nl.ks ++ [k], nl.cs⟩)) l (some ⟨nl.ks ++ [k], nl.cs ++ nr.cs⟩)) wx))
    case first =>
      obtain ⟨⟨V1, q⟩, hkk⟩ := HG1.out
      have HQ : Hid _ := q
      have HKK : Hid _ := hkk
      have hl1' : upd M l (some ⟨nl.ks ++ [k], nl.cs⟩) l = some ⟨nl.ks ++ [k], nl.cs⟩ := upd_same _ _ _
      have hr1' : upd M l (some ⟨nl.ks ++ [k], nl.cs⟩) r = some nr := (upd_other _ _ hlr.symm).trans hr
      have nl1 := q.node l _ hl1'
      have nr1 := q.node r nr hr1'
      obtain ⟨gl1, cl1, hvl1, hgl1, _, _, _⟩ := nl1.kidFacts hl2
      obtain ⟨gr1, cr1, hvr1, hgr1, _, hckr, _⟩ := nr1.kidFacts hr2
      have d0 := nl1.cell1
      have d1 := nr1.cell1
      rw [hvl1] at d0
      rw [hvr1] at d1
      have HP1 : Hid (PoolV F V1 wc.drew (upd M l (some ⟨nl.ks ++ [k], nl.cs⟩))) := PoolV.keep HQ.out ((Keeps.refl No wc).drew)
      obtain ⟨g1, c1, w1, hrun, hq⟩ := appKidsRun (g := gr1) (m := nr.cs.length) (c := cr1) (ys := nr.cs) HP1.out hl1' rfl hr2 (fun j y hy => hckr j y hy) (by show nl.cs.length + _ ≤ _; omega)
      obtain ⟨h1, h2, h3⟩ := PoolV.insKids HP1.out hl1' (by intro e; have := congrArg List.length e; rw [List.length_append, List.length_nil] at this; omega) hq
      obtain ⟨x0, x1, x2, x3⟩ := at_facts h1
      have HG : Hid (Got F w (upd (upd M l (some ⟨nl.ks ++ [k], nl.cs⟩)) l (some ⟨nl.ks ++ [k], nl.cs ++ nr.cs⟩)) (w1.setCell ⟨l, 1, none⟩ (.slice (some ⟨g1, 0, none⟩) (nl.cs.length + nr.cs.length) c1))) := ⟨⟨_, h2⟩, (HKK.out.and (Keeps.not' ((Keeps.refl No wc).drew))).and h3⟩
      rw [hvl1] at hrun
      have HR : Hid _ := hrun
      clear hq h1 h2 h3 hrun hckr q hkk
      go_region_law (refine step_append_run rfl (.tmp 44) (.tmp 48) 56 56 rfl (.slice (some ⟨gl1, 0, none⟩) nl.cs.length cl1) (.slice (some ⟨gr1, 0, none⟩) nr.cs.length cr1) (by simp [Act.eval]) (by simp [Act.eval]) HR.out ?_)
      all_goals
        (go_wp2_with fail
         go_meet
         case rel => exact HG)
    case rest =>
      have HG2 := hcut
      clear hcut HG1
      go_upto_region 4 with fail
      go_cut [] (fun wx => Hid (Got F w (upd (upd (upd M l (some ⟨nl.ks ++ [k], nl.cs⟩)) l (some ⟨nl.ks ++ [k], nl.cs ++ nr.cs⟩)) l (some ⟨nl.ks ++ [k] ++ nr.ks, nl.cs ++ nr.cs⟩)) wx))
      case first =>
        obtain ⟨⟨V1, q⟩, hkk⟩ := HG2.out
        have HQ : Hid _ := q
        have HKK : Hid _ := hkk
        have hl1' : upd (upd M l (some ⟨nl.ks ++ [k], nl.cs⟩)) l (some ⟨nl.ks ++ [k], nl.cs ++ nr.cs⟩) l = some ⟨nl.ks ++ [k], nl.cs ++ nr.cs⟩ := upd_same _ _ _
        have hr1' : upd (upd M l (some ⟨nl.ks ++ [k], nl.cs⟩)) l (some ⟨nl.ks ++ [k], nl.cs ++ nr.cs⟩) r = some nr := ((upd_other _ _ hlr.symm).trans (upd_other _ _ hlr.symm)).trans hr
        have nl1 := q.node l _ hl1'
        have nr1 := q.node r nr hr1'
        obtain ⟨gl1, cl1, hvl1, hgl1, _, _, _⟩ := nl1.keyFacts (by show 0 < (nl.ks ++ [k]).length; simp)
        obtain ⟨gr1, cr1, hvr1, hgr1, _, hckr, _⟩ := nr1.keyFacts hr0
        have d0 := nl1.cell0
        have d1 := nr1.cell0
        rw [hvl1] at d0
        rw [hvr1] at d1
        have hln : (nl.ks ++ [k]).length = nl.ks.length + 1 := by simp
        simp only [hln] at d0 hvl1
        have HP1 : Hid (PoolV F V1 wc.drew (upd (upd M l (some ⟨nl.ks ++ [k], nl.cs⟩)) l (some ⟨nl.ks ++ [k], nl.cs ++ nr.cs⟩))) := PoolV.keep HQ.out ((Keeps.refl No wc).drew)
        obtain ⟨g1, c1, w1, hrun, hq⟩ := appKeysRun (g := gr1) (m := nr.ks.length) (c := cr1) (ys := nr.ks) HP1.out hl1' rfl hr0 (fun j y hy => hckr j y hy) (by show (nl.ks ++ [k]).length + _ ≤ _; omega)
        obtain ⟨h1, h2, h3⟩ := PoolV.insKeys HP1.out hl1' hq
        obtain ⟨x0, x1, x2, x3⟩ := at_facts h1
        simp only [hln] at hrun h2 h3
        have HG : Hid (Got F w (upd (upd (upd M l (some ⟨nl.ks ++ [k], nl.cs⟩)) l (some ⟨nl.ks ++ [k], nl.cs ++ nr.cs⟩)) l (some ⟨nl.ks ++ [k] ++ nr.ks, nl.cs ++ nr.cs⟩)) (w1.setCell ⟨l, 0, none⟩ (.slice (some ⟨g1, 0, none⟩) (nl.ks.length + 1 + nr.ks.length) c1))) := ⟨⟨_, h2⟩, (HKK.out.and (Keeps.not' ((Keeps.refl No wc).drew))).and h3⟩
        rw [hvl1] at hrun
        have HR : Hid _ := hrun
        clear hq h1 h2 h3 hrun hckr q hkk
        go_region_law (refine step_append_run rfl (.tmp 56) (.tmp 60) 22 22 rfl (.slice (some ⟨gl1, 0, none⟩) (nl.ks.length + 1) cl1) (.slice (some ⟨gr1, 0, none⟩) nr.ks.length cr1) (by simp [Act.eval]) (by simp [Act.eval]) HR.out ?_)
        all_goals
          (go_wp2_with fail
           go_meet
           case rel => exact HG)
      case rest =>
        have HG3 := hcut
        clear hcut HG2
        obtain ⟨⟨V1, q⟩, hkk⟩ := HG3.out
        have HKK : Hid _ := hkk
        have ha1 : upd (upd (upd M l (some ⟨nl.ks ++ [k], nl.cs⟩)) l (some ⟨nl.ks ++ [k], nl.cs ++ nr.cs⟩)) l (some ⟨nl.ks ++ [k] ++ nr.ks, nl.cs ++ nr.cs⟩) a = some n := (((upd_other _ _ hal).trans (upd_other _ _ hal)).trans (upd_other _ _ hal)).trans ha
        have na1 := q.node a n ha1
        obtain ⟨ga1, ca1, hva1, hga1, _, _, _⟩ := na1.keyFacts (by omega)
        have d2 := na1.cell0
        rw [hva1] at d2
        have hT : Calls Try.prog 41 #[.slice (some ⟨ga1, 0, none⟩) n.ks.length ca1, .int .i64 i, .int .i64 ((i : Int) + 1)] wc (DelPost wc 9 (V1 a).1 ((n.ks.take i ++ n.ks.drop (i + 1)).map Value.string)) := by
          have := delete41 _ _ i wc (by simpa using hi) na1.keys (by simp; omega) (one_str _)
          rw [hva1] at this ⊢
          simpa using this
        have HQ : Hid _ := q
        clear q hkk
        have HMl : Hid _ := And.intro (upd_same (upd (upd M l (some ⟨nl.ks ++ [k], nl.cs⟩)) l (some ⟨nl.ks ++ [k], nl.cs ++ nr.cs⟩)) l (some ⟨nl.ks ++ [k] ++ nr.ks, nl.cs ++ nr.cs⟩)) (fun b (h2 : b ≠ l) => ((upd_other (upd (upd M l (some ⟨nl.ks ++ [k], nl.cs⟩)) l (some ⟨nl.ks ++ [k], nl.cs ++ nr.cs⟩)) (some ⟨nl.ks ++ [k] ++ nr.ks, nl.cs ++ nr.cs⟩) h2).trans (upd_other _ _ h2)).trans (upd_other _ _ h2))
        generalize upd (upd (upd M l (some ⟨nl.ks ++ [k], nl.cs⟩)) l (some ⟨nl.ks ++ [k], nl.cs ++ nr.cs⟩)) l (some ⟨nl.ks ++ [k] ++ nr.ks, nl.cs ++ nr.cs⟩) = M1 at *
        go_upto_region 6 with (go_at_call 41; go_loud (refine hT.mono ?_; intro e w1 hq; obtain ⟨g1, c1, rfl⟩ := del_ret hq (by rw [hva1]; simp [Value.ownBlock]) (m := n.ks.length - 1) (by simp; omega); obtain ⟨h1, h2, h3⟩ := PoolV.delKeys HQ.out ha1 hq; obtain ⟨x0, x1, x2, x3⟩ := at_facts h1; have HG : Hid (Got F w (upd M1 a (some ⟨n.ks.take i ++ n.ks.drop (i + 1), n.cs⟩)) (w1.setCell ⟨a, 0, none⟩ (.slice (some ⟨g1, 0, none⟩) (n.ks.length - 1) c1))) := ⟨⟨_, h2⟩, HKK.out.and h3⟩; clear hq h1 h2 h3))
        generalize w1.setCell ⟨a, 0, none⟩ (.slice (some ⟨g1, 0, none⟩) (n.ks.length - 1) c1) = w3 at *
        obtain ⟨⟨V2, q⟩, hkk⟩ := HG.out
        have HK3 : Hid _ := hkk
        have ha2 : upd M1 a (some ⟨n.ks.take i ++ n.ks.drop (i + 1), n.cs⟩) a = some ⟨n.ks.take i ++ n.ks.drop (i + 1), n.cs⟩ := upd_same _ _ _
        have na2 := q.node a _ ha2
        obtain ⟨ga2, ca2, hva2, hga2, _, _, _⟩ := na2.kidFacts (by show 0 < n.cs.length; omega)
        have f4 := na2.cell1
        rw [hva2] at f4
        have hT2 : Calls Try.prog 59 #[.slice (some ⟨ga2, 0, none⟩) L ca2, .int .i64 ((i : Int) + 1), .int .i64 ((i : Int) + 2)] w3 (DelPost w3 25 (V2 a).2 ((n.cs.take (i + 1) ++ n.cs.drop (i + 2)).map ptr)) := by
          have := delete59 _ _ (i + 1) w3 (by simp; omega) na2.kids (by simp; omega) (one_ptr _)
          rw [hva2] at this ⊢
          simp only [hL] at this ⊢
          have e : (((i + 1 : Nat) : Int) + 1) = (i : Int) + 2 := by omega
          rw [e] at this
          simpa using this
        simp only [hL] at f4
        have HQ2 : Hid _ := q
        clear q hkk
        go_wp2_with (go_at_call 59; go_loud (refine hT2.mono ?_; intro e w4 hq; obtain ⟨g2, c2, rfl⟩ := del_ret hq (by rw [hva2]; simp [Value.ownBlock]) (m := L - 1) (by simp; omega); obtain ⟨h1, h2, h3⟩ := PoolV.delKids HQ2.out ha2 htk hq; obtain ⟨x0, x1, x2, x3⟩ := at_facts h1; have HG4 : Hid _ := And.intro h2 (HK3.out.and h3); clear hq h1 h2 h3))
        go_end0
        refine ⟨rfl, _, ⟨⟨_, HG4.out.1⟩, HG4.out.2⟩, upd_same _ _ _, ?_, fun b h1 h2 h3 => ?_⟩
        · refine ((upd_other _ _ hal.symm).trans (upd_other _ _ hal.symm)).trans (HMl.out.1.trans ?_)
          simp
        · exact ((upd_other _ _ h1).trans (upd_other _ _ h1)).trans (HMl.out.2 b h2)
end Go.Proofs.Qxb6603837a
