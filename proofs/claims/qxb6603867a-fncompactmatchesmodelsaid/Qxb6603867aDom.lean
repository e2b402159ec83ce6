import Derived.Test.Qxb6603867aBytes
import Derived.Test.Qxb6603867aFin
namespace Go.Proofs.Qxb6603867a
open Go.RowKit Plf
/-- what finishDomain answers -/
def DomB (w : World) (nN nL : Nat) (vs us ps : List Int) (e : Ending) (w' : World) : Prop := ∃ b : Bool, e = .returned (.bool b) ∧ Keeps No w w' ∧ (b = true → FDom nN nL vs us ps)
theorem dom_no {w w' : World} {nN nL : Nat} {vs us ps : List Int} (h : Keeps No w w') : DomB w nN nL vs us ps (.returned (.bool false)) w' := ⟨false, rfl, h, fun h => by cases h⟩
/-- the marks: place q is marked just where one of the first k is q -/
def Marks (nL : Nat) (ps : List Int) (k : Nat) (cs : List Value) : Prop := cs.length = nL ∧ ∀ q, q < nL → cs[q]? = some (.bool (seenB ps k q))
theorem marks_zero (nL : Nat) (ps : List Int) : Marks nL ps 0 (List.replicate nL (.bool false)) := by
  refine ⟨by simp, fun q hq => ?_⟩
  simp [seen_zero, hq]
theorem marks_neg {nL : Nat} {ps : List Int} {k : Nat} {cs : List Value} (h : Marks nL ps k cs) (hn : at' ps k < 0) : Marks nL ps (k + 1) cs := by
  refine ⟨h.1, fun q hq => ?_⟩
  rw [h.2 q hq, seen_succ]
  have : ¬ at' ps k = (q : Int) := by omega
  simp [this]
theorem marks_pos {nL : Nat} {ps : List Int} {k p : Nat} {cs : List Value} (h : Marks nL ps k cs) (hp : at' ps k = (p : Int)) : Marks nL ps (k + 1) (cs.set p (.bool true)) := by
  refine ⟨by simpa using h.1, fun q hq => ?_⟩
  rw [seen_succ]
  by_cases e : q = p
  · subst e
    rw [List.getElem?_set_self (by rw [h.1]; exact hq), hp]
    simp
  · rw [List.getElem?_set_ne (by omega), h.2 q hq, hp]
    have : ¬ (p : Int) = (q : Int) := by omega
    simp [this]
set_option maxHeartbeats 2000000 in
theorem dom14 (nN nL n2 n3 n4 c2 c3 c4 : Nat) (a2 a3 a4 : Option Addr) (vs us ps : List Int) (w : World) (hN : nN ≤ 1048576) (hL : nL ≤ 1048576) (h2 : n2 ≤ 1048576) (h3 : n3 ≤ 1048576) (h4 : n4 ≤ 1048576)
    (hv : Rd w a2 n2 (vs.map (Value.int .i32))) (hu : Rd w a3 n3 (us.map (Value.int .i32))) (hp : Rd w a4 n4 (ps.map (Value.int .i32))) (iv : I32 vs) (ip : I32 ps) :
    Calls Try.prog 14 #[.int .i64 nN, .int .i64 nL, .slice a2 n2 c2, .slice a3 n3 c3, .slice a4 n4 c4] w (DomB w nN nL vs us ps) := by
  have lv : vs.length = n2 := by simpa using hv.1
  have lu : us.length = n3 := by simpa using hu.1
  have lp : ps.length = n4 := by simpa using hp.1
  by_cases e1 : n3 = n2
  · by_cases e2 : n4 = nN
    · subst e1 e2
      have LV : Hid (vs.length = n3) := lv
      have LU : Hid (us.length = n3) := lu
      have LP : Hid (ps.length = n4) := lp
      obtain ⟨i0, hi, hz0, hz1, hz2⟩ := info_parts Try.info4
      clear lv lu lp hu
      go_enter Try.func14, Try.ntmps14
      go_wp2_with (at_make; refine wpList_make_at _ rfl _ _ 29 rfl 4 i0 (.bool false) 1 1 Try.underlying29 hi hz0 hz1 hz2 .i64 .i64 _ _ nL rfl rfl rfl rfl (by omega) (by omega) ?_)
      intro w1 cs _ hcs hat hk1 hs1
      have hm : Marks nL ps 0 cs := by
        rw [show cs = List.replicate nL (.bool false) from by simpa using hcs]; exact marks_zero nL ps
      have HM : Hid (Marks nL ps 0 cs) := hm
      clear hm hcs
      go_wp2_with fail
      go_loopw [12, 13] (fun v i wr => ∃ (k : Nat) (cs : List Value), k ≤ n4 ∧ i = .int .i64 k ∧ v = .int .i64 (cnt ps k) ∧ At wr w.heap.size 4 cs ∧ Keeps No w wr ∧ Marks nL ps k cs ∧ OkTo nL ps k) (fun _ i _ => n4 - (intOf i).toNat)
      case atStart => exact ⟨0, cs, Nat.zero_le _, rfl, rfl, hat, hk1, HM.out, ok_zero nL ps⟩
      case round =>
        clear HM hat hk1 hs1
        obtain ⟨k, cs, hk, rfl, rfl, hat, hkp, hm, hok⟩ := hrel
        have hcl := cnt_le ps k
        by_cases hlt : k < n4
        · obtain ⟨b, off, rfl, hc⟩ := (hp.kept hkp).at 0 hlt
          have hck := hc k hlt
          have hb := ip.get k
          have hP : ps.getD k 0 = at' ps k := rfl
          rw [hP] at hck hb
          have hcs : cnt ps (k + 1) = if 0 ≤ at' ps k then cnt ps k + 1 else cnt ps k := rfl
          clear hc hP
          by_cases hneg : at' ps k < 0
          · have HM : Hid (Marks nL ps (k + 1) cs) := marks_neg hm hneg
            have HO : Hid (OkTo nL ps (k + 1)) := ok_neg hok hneg
            have HC : Hid (cnt ps (k + 1) = cnt ps k) := by rw [if_neg (by omega)] at hcs; exact hcs
            clear hm hok hcs
            generalize at' ps k = p at *
            go_wp2_with fail
            go_roundw
            case rel => exact ⟨k + 1, cs, by omega, by go_num, by rw [HC.out], hat, hkp, HM.out, HO.out⟩
            case measure => simp [intOf]; omega
          · obtain ⟨q, hq⟩ : ∃ q : Nat, at' ps k = (q : Int) := ⟨(at' ps k).toNat, by omega⟩
            have HC : Hid (cnt ps (k + 1) = cnt ps k + 1) := by rw [if_pos (by omega)] at hcs; exact hcs
            clear hcs hneg
            by_cases hqL : q < nL
            · have hcq := hat.cell (hm.2 q hqL)
              have hfq := hat.frozen q
              cases hsn : seenB ps k q with
              | true =>
                rw [hsn] at hcq
                clear hsn hm hok hat
                rw [hq] at hck hb
                clear hq
                go_wp2_with fail
                go_ret
                exact dom_no hkp
              | false =>
                have HM : Hid (Marks nL ps (k + 1) (cs.set q (.bool true))) := marks_pos hm hq
                have HO : Hid (OkTo nL ps (k + 1)) := ok_pos hok hq hqL hsn
                have HA : Hid (At (wr.setCell ⟨w.heap.size, q, none⟩ (.bool true)) w.heap.size 4 (cs.set q (.bool true))) := hat.set q _
                have HK : Hid (Keeps No w (wr.setCell ⟨w.heap.size, q, none⟩ (.bool true))) := hkp.setCell (fun h => absurd h (Nat.lt_irrefl _)) _
                rw [hsn] at hcq
                rw [hq] at hck hb
                clear hsn hm hok hat hq hkp
                go_wp2_with fail
                go_roundw
                case rel => exact ⟨k + 1, _, by omega, by go_num, by rw [HC.out]; go_num, HA.out, HK.out, HM.out, HO.out⟩
                case measure => simp [intOf]; omega
            · rw [hq] at hck hb
              clear hm hok hat hq
              go_wp2_with fail
              go_ret
              exact dom_no hkp
        · obtain rfl : k = n4 := by omega
          clear hm hat hlt hp
          by_cases hct : cnt ps k = nL
          · have hct' : (((cnt ps k : Nat) : Int) != (nL : Int)) = false := by simp [hct]
            have HCT : Hid (cnt ps k = nL) := hct
            have HO : Hid (OkTo nL ps k) := hok
            clear hct hok
            generalize cnt ps k = ct at hcl hct' ⊢
            go_wp2_with fail
            go_loop [15] (fun i => ∃ m : Nat, m ≤ n3 ∧ i = .int .i64 m ∧ ∀ x, x < m → 0 ≤ at' vs x → at' vs x < k) (fun i => n3 - (intOf i).toNat)
            case atStart => exact ⟨0, Nat.zero_le _, rfl, fun x h => absurd h (by omega)⟩
            case round =>
              obtain ⟨m, hm, rfl, hall⟩ := hrel
              have Hall : Hid (∀ x, x < m → 0 ≤ at' vs x → at' vs x < k) := hall
              clear hall
              by_cases hlt : m < n3
              · obtain ⟨b, off, rfl, hc⟩ := (hv.kept hkp).at 0 hlt
                have hck := hc m hlt
                have hb := iv.get m
                have hP : vs.getD m 0 = at' vs m := rfl
                rw [hP] at hck hb
                have Hst : Hid ((0 ≤ at' vs m → at' vs m < k) → ∀ x, x < m + 1 → 0 ≤ at' vs x → at' vs x < k) := fun h x hx => by
                  by_cases e : x = m
                  · subst e; exact h
                  · exact Hall.out x (by omega)
                clear hc hP hv Hall
                generalize at' vs m = p at *
                by_cases hneg : p < 0
                · have Hk : Hid _ := Hst.out (by omega)
                  go_wp2_with fail
                  go_round
                  case rel => exact ⟨m + 1, by omega, by go_num, Hk.out⟩
                  case measure => simp [intOf]; omega
                · by_cases hge : (k : Int) ≤ p
                  · go_wp2_with fail
                    go_ret
                    exact dom_no hkp
                  · have Hk : Hid _ := Hst.out (by omega)
                    go_wp2_with fail
                    go_round
                    case rel => exact ⟨m + 1, by omega, by go_num, Hk.out⟩
                    case measure => simp [intOf]; omega
              · go_wp2_with fail
                go_ret
                exact ⟨true, rfl, hkp, fun _ => ⟨by rw [LU.out, LV.out], LP.out, HO.out, HCT.out, fun x hx => Hall.out x (by rw [LV.out] at hx; omega)⟩⟩
          · have hct' : (((cnt ps k : Nat) : Int) != (nL : Int)) = true := by simp; omega
            clear hct hok
            generalize cnt ps k = ct at *
            go_wp2_with fail
            go_ret
            exact dom_no hkp
    · have e2' : ((n4 : Int) != (nN : Int)) = true := by simp; omega
      have e1' : ((n3 : Int) != (n2 : Int)) = false := by simp [e1]
      clear hv hu hp iv ip lv lu lp e1 e2
      go_enter Try.func14, Try.ntmps14
      go_wp2_with fail
      go_ret
      exact dom_no (Keeps.refl _ _)
  · have e1' : ((n3 : Int) != (n2 : Int)) = true := by simp; omega
    clear hv hu hp iv ip lv lu lp e1
    go_enter Try.func14, Try.ntmps14
    go_wp2_with fail
    go_ret
    exact dom_no (Keeps.refl _ _)
end Go.Proofs.Qxb6603867a
