import Derived.Test.Qxb6603837aApp
namespace Go.Proofs.Qxb6603837a
open Go.RowKit
/-- merge: a keeps l, r falls out -/
structure Merged (M M' : Mm) (a l r : Nat) (x y : Option Nd) : Prop where
  pa : M' a = x
  pl : M' l = y
  po : ∀ b, b ≠ a → b ≠ l → b ≠ r → M' b = M b
set_option maxHeartbeats 4000000 in
set_option maxRecDepth 100000 in
theorem merge54_leaf {F : Nat → Prop} {M : Mm} {a l r i : Nat} {n nl nr : Nd} {w : World} (p : Pool F w M) (ha : M a = some n) (hl : M l = some nl) (hr : M r = some nr)
    (hal : a ≠ l) (hcl : n.cs[i]? = some l) (hcr : n.cs[i + 1]? = some r) (hi : i < n.ks.length) (hnk : n.ks.length ≤ 900) (hn : n.cs.length ≤ 900)
    (hlf : nl.cs = []) (hl0 : 0 < nl.ks.length) (hl1 : nl.ks.length ≤ 400) (hr0 : 0 < nr.ks.length) (hr1 : nr.ks.length ≤ 400) :
    Calls Try.prog 54 #[ptr a, .int .i64 i] w fun e w' => e = .returned (.tuple #[]) ∧ ∃ M', Got F w M' w' ∧ Merged M M' a l r (some ⟨n.ks.take i ++ n.ks.drop (i + 1), n.cs.take (i + 1) ++ n.cs.drop (i + 2)⟩) (some ⟨nl.ks ++ nr.ks, nl.cs⟩) := by
  obtain ⟨V, p⟩ := p
  have hlen : i + 1 < n.cs.length := (List.getElem?_eq_some_iff.1 hcr).1
  have htk : n.cs.take (i + 1) ++ n.cs.drop (i + 2) ≠ [] := by intro e; have := congrArg List.length e; rw [List.length_append, List.length_take, List.length_nil] at this; omega
  have hw1 : IntKind.i64.wrap ((i : Int) + 1) = (i : Int) + 1 := by rw [IntKind.wrap_i64]; omega
  have hw2 : IntKind.i64.wrap ((i : Int) + 2) = (i : Int) + 2 := by rw [IntKind.wrap_i64]; omega
  obtain ⟨gc, cc, hvc, hgc, _, hcs, _⟩ := (p.node a n ha).kidFacts (by omega)
  have c1 := (p.node a n ha).cell1
  rw [hvc] at c1
  have e1 := hcs i l hcl
  have e2 := hcs (i + 1) r hcr
  have HP : Hid (PoolV F V w M) := p
  have hlf' : nl.leaf? = true := by simp [Nd.leaf?, hlf]
  clear hlf
  generalize hL : n.cs.length = L at *
  clear hcs p
  go_enter Try.func54, Try.ntmps54
  go_upto_region 0 with fail
  go_quiet (fail)
  have HP0 : Hid (PoolV F V (w.drewN nq) M) := PoolV.keep HP.out ((Keeps.refl No w).drewN nq)
  have HK0 : Hid (Keeps (Not' F) w (w.drewN nq)) := Keeps.not' ((Keeps.refl No w).drewN nq)
  clear c1 e1 e2
  generalize w.drewN nq = w0 at *
  have nl0 := HP0.out.node l nl hl
  have nr0 := HP0.out.node r nr hr
  obtain ⟨gl, cl, hvl, hgl, _, _, _⟩ := nl0.keyFacts hl0
  obtain ⟨gr, cr, hvr, hgr, _, hckr, _⟩ := nr0.keyFacts hr0
  go_upto_region 4 with (go_at_call 35; refine (leaf35 nl0).mono ?_; rintro e w' ⟨rfl, rfl⟩; rw [hlf'])
  go_cut [] (fun wx => Hid (Got F w (upd M l (some ⟨nl.ks ++ nr.ks, nl.cs⟩)) wx))
  case first =>
    have d0 := nl0.cell0
    have d1 := nr0.cell0
    rw [hvl] at d0
    rw [hvr] at d1
    have HP1 : Hid (PoolV F V w0.drew M) := PoolV.keep HP0.out ((Keeps.refl No w0).drew)
    obtain ⟨g1, c1, w1, hrun, hq⟩ := appKeysRun (g := gr) (m := nr.ks.length) (c := cr) (ys := nr.ks) HP1.out hl rfl hr0 (fun j y hy => hckr j y hy) (by omega)
    obtain ⟨h1, h2, h3⟩ := PoolV.insKeys HP1.out hl hq
    obtain ⟨x0, x1, x2, x3⟩ := at_facts h1
    have HG : Hid (Got F w (upd M l (some ⟨nl.ks ++ nr.ks, nl.cs⟩)) (w1.setCell ⟨l, 0, none⟩ (.slice (some ⟨g1, 0, none⟩) (nl.ks.length + nr.ks.length) c1))) := ⟨⟨_, h2⟩, (HK0.out.and (Keeps.not' ((Keeps.refl No w0).drew))).and h3⟩
    rw [hvl] at hrun
    have HR : Hid _ := hrun
    clear hq h1 h2 h3 hrun hckr
    go_region_law (refine step_append_run rfl (.tmp 56) (.tmp 60) 22 22 rfl (.slice (some ⟨gl, 0, none⟩) nl.ks.length cl) (.slice (some ⟨gr, 0, none⟩) nr.ks.length cr) (by simp [Act.eval]) (by simp [Act.eval]) HR.out ?_)
    all_goals
      (go_wp2_with fail
       go_meet
       case rel => exact HG)
  case rest =>
    obtain ⟨⟨V1, q⟩, hkk⟩ := hcut.out
    have HKK : Hid _ := hkk
    have ha1 : upd M l (some ⟨nl.ks ++ nr.ks, nl.cs⟩) a = some n := (upd_other _ _ hal).trans ha
    have na1 := q.node a n ha1
    obtain ⟨ga1, ca1, hva1, hga1, _, _, _⟩ := na1.keyFacts (by omega)
    have d2 := na1.cell0
    rw [hva1] at d2
    have hT : Calls Try.prog 41 #[.slice (some ⟨ga1, 0, none⟩) n.ks.length ca1, .int .i64 i, .int .i64 ((i : Int) + 1)] wc (DelPost wc 9 (V1 a).1 ((n.ks.take i ++ n.ks.drop (i + 1)).map Value.string)) := by
      have := delete41 _ _ i wc (by simpa using hi) na1.keys (by simp; omega) (one_str _)
      rw [hva1] at this ⊢
      simpa using this
    have HQ : Hid _ := q
    clear q hkk hckr
    go_upto_region 6 with (go_at_call 41; go_loud (refine hT.mono ?_; intro e w1 hq; obtain ⟨g1, c1, rfl⟩ := del_ret hq (by rw [hva1]; simp [Value.ownBlock]) (m := n.ks.length - 1) (by simp; omega); obtain ⟨h1, h2, h3⟩ := PoolV.delKeys HQ.out ha1 hq; obtain ⟨x0, x1, x2, x3⟩ := at_facts h1; have HG : Hid (Got F w (upd (upd M l (some ⟨nl.ks ++ nr.ks, nl.cs⟩)) a (some ⟨n.ks.take i ++ n.ks.drop (i + 1), n.cs⟩)) (w1.setCell ⟨a, 0, none⟩ (.slice (some ⟨g1, 0, none⟩) (n.ks.length - 1) c1))) := ⟨⟨_, h2⟩, HKK.out.and h3⟩; clear hq h1 h2 h3))
    generalize w1.setCell ⟨a, 0, none⟩ (.slice (some ⟨g1, 0, none⟩) (n.ks.length - 1) c1) = w3 at *
    obtain ⟨⟨V2, q⟩, hkk⟩ := HG.out
    have HK3 : Hid _ := hkk
    have ha2 : upd (upd M l (some ⟨nl.ks ++ nr.ks, nl.cs⟩)) a (some ⟨n.ks.take i ++ n.ks.drop (i + 1), n.cs⟩) a = some ⟨n.ks.take i ++ n.ks.drop (i + 1), n.cs⟩ := upd_same _ _ _
    have na2 := q.node a _ ha2
    obtain ⟨ga2, ca2, hva2, hga2, _, _, _⟩ := na2.kidFacts (by show 0 < n.cs.length; omega)
    have f4 := na2.cell1
    rw [hva2] at f4
    have hT2 : Calls Try.prog 59 #[.slice (some ⟨ga2, 0, none⟩) L ca2, .int .i64 ((i : Int) + 1), .int .i64 ((i : Int) + 2)] w3 (DelPost w3 25 (V2 a).2 ((n.cs.take (i + 1) ++ n.cs.drop (i + 2)).map ptr)) := by
      have := delete59 _ _ (i + 1) w3 (by simp; omega) na2.kids (by simp; omega) (one_ptr _)
      rw [hva2] at this ⊢
      simp only [hL] at this ⊢
      have e : (((i + 1 : Nat) : Int) + 1) = (i : Int) + 2 := by omega
      rw [e] at this
      simpa using this
    simp only [hL] at f4
    have HQ2 : Hid _ := q
    clear q hkk
    go_wp2_with (go_at_call 59; go_loud (refine hT2.mono ?_; intro e w4 hq; obtain ⟨g2, c2, rfl⟩ := del_ret hq (by rw [hva2]; simp [Value.ownBlock]) (m := L - 1) (by simp; omega); obtain ⟨h1, h2, h3⟩ := PoolV.delKids HQ2.out ha2 htk hq; obtain ⟨x0, x1, x2, x3⟩ := at_facts h1; have HG4 : Hid _ := And.intro h2 (HK3.out.and h3); clear hq h1 h2 h3))
    go_end0
    refine ⟨rfl, _, ⟨⟨_, HG4.out.1⟩, HG4.out.2⟩, upd_same _ _ _, ?_, fun b h1 h2 h3 => ?_⟩
    · exact ((upd_other _ _ hal.symm).trans (upd_other _ _ hal.symm)).trans (upd_same _ _ _)
    · exact ((upd_other _ _ h1).trans (upd_other _ _ h1)).trans (upd_other _ _ h2)
end Go.Proofs.Qxb6603837a
