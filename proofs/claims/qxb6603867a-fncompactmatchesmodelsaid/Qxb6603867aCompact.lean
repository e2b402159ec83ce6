import Derived.Test.Qxb6603867aCState
namespace Go.Proofs.Qxb6603867a
open Go.RowKit Plf Plc
set_option maxHeartbeats 4000000 in
theorem compact28 (gr gE nh ns n : Nat) (ah aS : Option Addr) (x3 x4 x5 x6 x7 : Value) (hd st em ei er en : List Int) (hc sc ec : List Value) (w : World) (hn : n ≤ 1048576)
    (h : CSt w w gr gE nh ns ah aS [.slice ah nh nh, .slice (some ⟨gE, 0, none⟩) n n, .slice aS ns ns, x3, x4, x5, x6, x7] hc sc ec) (hEn : Ent n n (at' em) (at' ei) (at' er) (at' en) ec)
    (hHr : Row nh (at' hd) hc) (hSr : Row ns (at' st) sc) (D : CDom nh ns n em ei er en) (im : I32 em) (A : Apart gr gE ah aS) :
    Calls Try.prog 28 #[.pointer (some ⟨gr, 0, none⟩)] w (CompPost w gr gE nh ns n ah aS x3 x4 x5 x6 x7 hd st em ei er) := by
  have p1 := h.R.cell (j := 1) rfl
  go_enter Try.func28, Try.ntmps28
  go_wp2_with fail
  go_loopw [14] (fun i wr => ∃ (k : Nat) (hc : List Value), k ≤ n ∧ i = .int .i64 k ∧ CSt w wr gr gE nh ns ah aS [.slice ah nh nh, .slice (some ⟨gE, 0, none⟩) n n, .slice aS ns ns, x3, x4, x5, x6, x7] hc sc ec ∧ Row nh (headA hd ei k) hc) (fun i _ => n - (intOf i).toNat)
  case atStart => exact ⟨0, hc, Nat.zero_le _, rfl, h, row_congr hHr (fun p _ => headA_zero hd ei p)⟩
  case round =>
    clear h hHr p1
    obtain ⟨k, hc, hk, rfl, h, hHr⟩ := hrel
    by_cases hlt : k < n
    · obtain ⟨t0, t1⟩ := D.it k hlt
      obtain ⟨q, hq⟩ : ∃ q : Nat, at' ei k = (q : Int) := ⟨(at' ei k).toNat, by omega⟩
      have hql : q < nh := by omega
      obtain ⟨c0, c1, c2, c3⟩ := hEn.2 k hlt
      have r0 := h.E.cell c0
      have r1 := h.E.cell c1
      have r2 := h.E.cell c2
      have r3 := h.E.cell c3
      rw [hq] at r1
      rcases h.H.2 with ⟨_, h0⟩ | ⟨gH, rfl, _, hHA⟩
      · omega
      obtain ⟨n1, n2⟩ := A.n2 gH rfl
      obtain ⟨v1, hv1⟩ := at_get' hHr.1 hql
      have u1 := hHA.cell hv1
      have u2 := hHA.frozen q
      have p0 := h.R.cell (j := 0) rfl
      have l1 := hHA.lt
      have l2 := h.R.lt
      have l3 := h.E.lt
      have HC : Hid _ := h.setH A q (.int .i32 (-1))
      have HR : Hid _ := row_set (G := headA hd ei (k + 1)) (q := q) (v := -1) hHr (headA_hit hq) (fun p hp => headA_miss hq hp)
      clear c0 c1 c2 c3 hHA hv1 h hHr hq t0 t1 D im hEn hSr A
      go_wp2_with fail
      go_region
      go_wp2_with fail
      go_roundw
      case rel => exact ⟨k + 1, _, by omega, by go_num, (CSt.alloc HC.out _).drew, HR.out⟩
      case measure => simp [intOf]; omega
    · obtain rfl : k = n := by omega
      have p1 := h.R.cell (j := 1) rfl
      go_wp2_with fail
      obtain ⟨wo, rfl⟩ : ∃ wo : World, wo = wr := ⟨_, rfl⟩
      go_loopw [4, 32] (fun v i wr => ∃ (x : Nat) (sc ec : List Value), x ≤ k ∧ i = .int .i64 x ∧ v = .int .i64 (cnt em x : Nat) ∧ CSt w wr gr gE nh ns ah aS [.slice ah nh nh, .slice (some ⟨gE, 0, none⟩) k k, .slice aS ns ns, x3, x4, x5, x6, x7] hc sc ec ∧
        Row ns (startA st em x) sc ∧ Ent k k (moved em k x (at' em)) (moved em k x (at' ei)) (moved em k x (at' er)) (moved em k x (at' en)) ec) (fun _ i _ => k - (intOf i).toNat)
      case atStart => exact ⟨0, sc, ec, Nat.zero_le _, rfl, rfl, h, row_congr hSr (fun p _ => startA_zero st em p), ent_zero hEn⟩
      case round =>
        clear h hSr hEn p1
        obtain ⟨x, sc, ec, hx, rfl, rfl, h, hSr, hEn⟩ := hrel
        have hcl := cnt_le em x
        by_cases hlt2 : x < k
        · obtain ⟨c0, c1, c2, c3⟩ := hEn.2 x hlt2
          rw [moved_self] at c0 c1 c2 c3
          have r0 := h.E.cell c0
          have r1 := h.E.cell c1
          have r2 := h.E.cell c2
          have r3 := h.E.cell c3
          have l2 := h.R.lt
          have l3 := h.E.lt
          have bm := im.get x
          have e1 : em.getD x 0 = at' em x := rfl
          rw [e1] at bm
          have p1 := h.R.cell (j := 1) rfl
          have p2 := h.R.cell (j := 2) rfl
          by_cases hneg : at' em x < 0
          · have HS : Hid _ := row_congr (G := startA st em (x + 1)) hSr (fun p _ => startA_dead hneg)
            have HE : Hid _ := ent_dead hneg hEn
            have HC : Hid (cnt em (x + 1) = cnt em x) := by rw [Hid, cnt, if_neg (by omega)]
            clear c0 c1 c2 c3 hSr hEn D im A e1
            go_wp2_with fail
            go_roundw
            case rel => exact ⟨x + 1, sc, ec, by omega, by go_num, by rw [HC.out], h.alloc _, HS.out, HE.out⟩
            case measure => simp [intOf]; omega
          · have h0 : 0 ≤ at' em x := by omega
            have hml := D.me x hlt2 h0
            obtain ⟨m, hm⟩ : ∃ m : Nat, at' em x = (m : Int) := ⟨(at' em x).toNat, by omega⟩
            have hmn : m < ns := by omega
            rcases h.S.2 with ⟨_, hz⟩ | ⟨gS, rfl, _, hSA⟩
            · omega
            obtain ⟨n1, n2⟩ := A.n3 gS rfl
            have u1 := hSA.cell (hSr.2 m hmn)
            have u2 := hSA.frozen m
            have l1 := hSA.lt
            have hlen := hEn.1
            have hcx : cnt em x < k := by omega
            obtain ⟨v0, hv0⟩ := at_get' (k := cnt em x * 4) hlen (by omega)
            obtain ⟨v1, hv1⟩ := at_get' (k := cnt em x * 4 + 1) hlen (by omega)
            obtain ⟨v2, hv2⟩ := at_get' (k := cnt em x * 4 + 2) hlen (by omega)
            obtain ⟨v3, hv3⟩ := at_get' (k := cnt em x * 4 + 3) hlen (by omega)
            have s0 := h.E.cell hv0
            have s1 := h.E.cell hv1
            have s2 := h.E.cell hv2
            have s3 := h.E.cell hv3
            have f0 := h.E.frozen (cnt em x * 4)
            have f1 := h.E.frozen (cnt em x * 4 + 1)
            have f2 := h.E.frozen (cnt em x * 4 + 2)
            have f3 := h.E.frozen (cnt em x * 4 + 3)
            have he := ent_move hlt2 h0 hEn
            rw [hm] at he r0
            have HE : Hid _ := he
            have HC : Hid (cnt em (x + 1) = cnt em x + 1) := by rw [Hid, cnt, if_pos h0]
            have n1' : gE ≠ gS := fun e => n1 e.symm
            have n2' : gr ≠ gS := fun e => n2 e.symm
            have nn := A.n1
            have HH : Hid _ := h
            by_cases heq : startA st em x m = x
            · have hbq : (startA st em x m == (x : Int)) = true := by simp [heq]
              have HS : Hid (Row ns (startA st em (x + 1)) (sc.set m (.int .i32 (cnt em x : Nat)))) := row_set hSr (startA_hit hm heq) (fun p hp => startA_other hm hp)
              clear c0 c1 c2 c3 hSr hEn D im e1 hv0 hv1 hv2 hv3 hSA hml bm hm hneg h0 heq h he
              generalize startA st em x m = sv at *
              generalize at' ei x = iv at *
              generalize at' er x = rv at *
              generalize at' en x = nv at *
              generalize cnt em x = c at *
              go_wp2_with fail
              go_quiet (fail)
              go_wp2_with fail
              go_region
              go_wp2_with fail
              go_region
              go_wp2_with fail
              go_roundw
              case rel => exact ⟨x + 1, _, _, by omega, by go_num, by rw [HC.out]; go_num, ((((((CSt.alloc HH.out _).drewN _).setS A _ _).drew.setE A _ _).setE A _ _).setE A _ _).setE A _ _, HS.out, HE.out⟩
              case measure => simp [intOf]; omega
            · have hbq : (startA st em x m == (x : Int)) = false := by simp [heq]
              have HS : Hid (Row ns (startA st em (x + 1)) sc) := row_congr hSr (fun p _ => by
                by_cases e : p = m
                · subst e; exact startA_miss heq
                · exact startA_other hm e)
              clear c0 c1 c2 c3 hSr hEn D im e1 hv0 hv1 hv2 hv3 hSA hml bm hm hneg h0 heq h he
              generalize startA st em x m = sv at *
              generalize at' ei x = iv at *
              generalize at' er x = rv at *
              generalize at' en x = nv at *
              generalize cnt em x = c at *
              go_wp2_with fail
              go_quiet (fail)
              go_wp2_with fail
              go_region
              go_wp2_with fail
              go_roundw
              case rel => exact ⟨x + 1, _, _, by omega, by go_num, by rw [HC.out]; go_num, (((((CSt.alloc HH.out _).drewN _).setE A _ _).setE A _ _).setE A _ _).setE A _ _, HS.out, HE.out⟩
              case measure => simp [intOf]; omega
        · obtain rfl : x = k := by omega
          have p1 := h.R.cell (j := 1) rfl
          have pf := h.R.frozen 1
          have HE : Hid _ := ent_third hEn
          have HS : Hid _ := hSr
          have h1 : CSt w (wr.setCell ⟨gr, 1, none⟩ (.slice (some ⟨gE, 0, none⟩) (cnt em x) x)) gr gE nh ns ah aS [.slice ah nh nh, .slice (some ⟨gE, 0, none⟩) (cnt em x) x, .slice aS ns ns, x3, x4, x5, x6, x7] hc sc ec := h.setR A 1 _
          have HH : Hid _ := h1
          clear h1 h hSr hEn hlt2 hlt hx hk
          go_wp2_with fail
          obtain ⟨wi, rfl⟩ : ∃ wi : World, wi = wr := ⟨_, rfl⟩
          go_loopw [84] (fun i wr => ∃ (p : Nat) (hc ec : List Value), p ≤ cnt em x ∧ i = .int .i64 p ∧ CSt w wr gr gE nh ns ah aS [.slice ah nh nh, .slice (some ⟨gE, 0, none⟩) (cnt em x) x, .slice aS ns ns, x3, x4, x5, x6, x7] hc sc ec ∧
            Row nh (fun q => lst (fun r => (at' ei (pick em x r)).toNat) (headA hd ei x q) q p) hc ∧ Ent x (cnt em x) (fun p => at' em (pick em x p)) (fun p => at' ei (pick em x p)) (fun p => at' er (pick em x p)) (nextA em ei en x p) ec) (fun i _ => cnt em x - (intOf i).toNat)
          case atStart => exact ⟨0, hc, ec, Nat.zero_le _, rfl, HH.out, row_congr hHr (fun p _ => rfl), HE.out⟩
          case round =>
            clear HH HE p1 pf hHr
            obtain ⟨p, hc, ec, hp, rfl, h, hHr, hEn⟩ := hrel
            by_cases hlt3 : p < cnt em x
            · obtain ⟨c0, c1, c2, c3⟩ := hEn.2 p hlt3
              obtain ⟨k1, k2, k3⟩ := pick_spec hlt3
              obtain ⟨t0, t1⟩ := D.it _ k1
              obtain ⟨q, hq⟩ : ∃ q : Nat, at' ei (pick em x p) = (q : Int) := ⟨(at' ei (pick em x p)).toNat, by omega⟩
              have hql : q < nh := by omega
              have hqn : (at' ei (pick em x p)).toNat = q := by rw [hq]; rfl
              have hse : headA hd ei x q = -1 := by
                unfold headA
                rw [if_pos ((seen_iff ei x q).2 ⟨_, k1, hq⟩)]
              have he := ent_link hlt3 hEn
              rw [hqn] at he
              have HE : Hid _ := he
              have r0 := h.E.cell c0
              have r1 := h.E.cell c1
              have r2 := h.E.cell c2
              have r3 := h.E.cell c3
              have f3 := h.E.frozen (p * 4 + 3)
              simp only [hq] at r1
              dsimp only at r0 r2
              rcases h.H.2 with ⟨_, hz⟩ | ⟨gH, rfl, _, hHA⟩
              · omega
              obtain ⟨n1, n2⟩ := A.n2 gH rfl
              have n1' : gE ≠ gH := fun e => n1 e.symm
              have n2' : gr ≠ gH := fun e => n2 e.symm
              have nn := A.n1
              have u1 := hHA.cell (hHr.2 q hql)
              have u2 := hHA.frozen q
              simp only [hse] at u1
              have HR : Hid (Row nh (fun q => lst (fun r => (at' ei (pick em x r)).toNat) (headA hd ei x q) q (p + 1)) (hc.set q (.int .i32 (p : Nat)))) := row_set hHr (by rw [lst, if_pos hqn]) (fun t ht => by rw [lst, if_neg (by rw [hqn]; exact fun e => ht e.symm)])
              have p0 := h.R.cell (j := 0) rfl
              have p1 := h.R.cell (j := 1) rfl
              have l1 := hHA.lt
              have l2 := h.R.lt
              have l3 := h.E.lt
              have hcl := cnt_le em x
              have HH : Hid _ := h
              clear c0 c1 c2 c3 hHA he k1 k2 k3 t0 t1 hq hqn hse h hHr hEn D im
              generalize lst (fun r => (at' ei (pick em x r)).toNat) (-1) q p = lv at *
              generalize at' em (pick em x p) = mv at *
              generalize at' er (pick em x p) = rv at *
              generalize nextA em ei en x p p = nv at *
              generalize cnt em x = c at *
              go_wp2_with fail
              go_region
              go_wp2_with fail
              go_region
              go_wp2_with fail
              go_roundw
              case rel => exact ⟨p + 1, _, _, by omega, by go_num, (((CSt.setE HH.out A _ _).setH A _ _).alloc _).drew.drew, HR.out, HE.out⟩
              case measure => simp [intOf]; omega
            · obtain rfl : p = cnt em x := by omega
              go_wp2_with fail
              go_end0
              exact ⟨rfl, hc, sc, ec, h.R, h.E, ent_last hEn, h.H, hHr, h.S, HS.out, h.K⟩
end Go.Proofs.Qxb6603867a
