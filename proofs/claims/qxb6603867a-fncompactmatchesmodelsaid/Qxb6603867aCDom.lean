import Derived.Test.Qxb6603867aBytes
import Derived.Test.Qxb6603867aCmp
namespace Go.Proofs.Qxb6603867a
open Go.RowKit Plf Plc
def CDomB (w : World) (nh ns n : Nat) (em ei er en : List Int) (e : Ending) (w' : World) : Prop := ∃ b : Bool, e = .returned (.bool b) ∧ Keeps No w w' ∧ (b = true → CDom nh ns n em ei er en)
theorem cdom_no {w w' : World} {nh ns n : Nat} {em ei er en : List Int} (h : Keeps No w w') : CDomB w nh ns n em ei er en (.returned (.bool false)) w' := ⟨false, rfl, h, fun h => by cases h⟩
set_option maxHeartbeats 2000000 in
theorem cdom9 (nh ns n n4 n5 n6 c0 c1 c3 c4 c5 c6 : Nat) (a0 a1 a3 a4 a5 a6 : Option Addr) (em ei er en : List Int) (w : World) (_hh : nh ≤ 1048576) (_hs : ns ≤ 1048576) (hn : n ≤ 1048576)
    (h4 : n4 ≤ 1048576) (h5 : n5 ≤ 1048576) (h6 : n6 ≤ 1048576)
    (hm : Rd w a3 n (em.map (Value.int .i32))) (hi : Rd w a4 n4 (ei.map (Value.int .i32))) (hr : Rd w a5 n5 (er.map (Value.int .i32))) (hx : Rd w a6 n6 (en.map (Value.int .i32))) (im : I32 em) (ii : I32 ei) :
    Calls Try.prog 9 #[.slice a0 nh c0, .slice a1 ns c1, .slice a3 n c3, .slice a4 n4 c4, .slice a5 n5 c5, .slice a6 n6 c6] w (CDomB w nh ns n em ei er en) := by
  have li : ei.length = n4 := by simpa using hi.1
  have lr : er.length = n5 := by simpa using hr.1
  have ln : en.length = n6 := by simpa using hx.1
  clear hr hx
  by_cases e4 : n4 = n
  · have d4 : ((n4 : Int) != (n : Int)) = false := by simp [e4]
    by_cases e5 : n5 = n
    · have d5 : ((n5 : Int) != (n : Int)) = false := by simp [e5]
      by_cases e6 : n6 = n
      · subst e4 e5 e6
        clear d4 d5
        have LI : Hid (ei.length = n6) := li
        have LR : Hid (er.length = n6) := lr
        have LN : Hid (en.length = n6) := ln
        clear li lr ln h4 h5
        go_enter Try.func9, Try.ntmps9
        go_wp2_with fail
        go_loop [13] (fun i => ∃ k : Nat, k ≤ n6 ∧ i = .int .i64 k ∧ ∀ j, j < k → (0 ≤ at' ei j ∧ at' ei j < nh) ∧ (0 ≤ at' em j → at' em j < ns)) (fun i => n6 - (intOf i).toNat)
        case atStart => exact ⟨0, Nat.zero_le _, rfl, fun j h => absurd h (by omega)⟩
        case round =>
          obtain ⟨k, hk, rfl, hall⟩ := hrel
          have Hall : Hid (∀ j, j < k → (0 ≤ at' ei j ∧ at' ei j < nh) ∧ (0 ≤ at' em j → at' em j < ns)) := hall
          clear hall
          by_cases hlt : k < n6
          · obtain ⟨b3, o3, rfl, hc3⟩ := hm.at 0 hlt
            obtain ⟨b4, o4, rfl, hc4⟩ := hi.at 0 hlt
            have q3 := hc3 k hlt
            have q4 := hc4 k hlt
            have bm := im.get k
            have bi := ii.get k
            have e1 : em.getD k 0 = at' em k := rfl
            have e2 : ei.getD k 0 = at' ei k := rfl
            rw [e1] at q3 bm
            rw [e2] at q4 bi
            have Hst : Hid ((0 ≤ at' ei k ∧ at' ei k < nh) ∧ (0 ≤ at' em k → at' em k < ns) → ∀ j, j < k + 1 → (0 ≤ at' ei j ∧ at' ei j < nh) ∧ (0 ≤ at' em j → at' em j < ns)) := fun h j hj => by
              by_cases e : j = k
              · subst e; exact h
              · exact Hall.out j (by omega)
            clear hc3 hc4 e1 e2 hm hi im ii Hall
            generalize at' em k = m at *
            generalize at' ei k = t at *
            by_cases t0 : t < 0
            · go_wp2_with fail
              go_ret
              exact cdom_no (Keeps.refl _ _)
            · by_cases t1 : (nh : Int) ≤ t
              · go_wp2_with fail
                go_ret
                exact cdom_no (Keeps.refl _ _)
              · by_cases m0 : m < 0
                · have Hk : Hid _ := Hst.out ⟨⟨by omega, by omega⟩, by omega⟩
                  go_wp2_with fail
                  go_round
                  case rel => exact ⟨k + 1, by omega, by go_num, Hk.out⟩
                  case measure => simp [intOf]; omega
                · by_cases m1 : (ns : Int) ≤ m
                  · go_wp2_with fail
                    go_ret
                    exact cdom_no (Keeps.refl _ _)
                  · have Hk : Hid _ := Hst.out ⟨⟨by omega, by omega⟩, by omega⟩
                    go_wp2_with fail
                    go_round
                    case rel => exact ⟨k + 1, by omega, by go_num, Hk.out⟩
                    case measure => simp [intOf]; omega
          · go_wp2_with fail
            go_ret
            exact ⟨true, rfl, Keeps.refl _ _, fun _ => ⟨LI.out, LR.out, LN.out, fun i hi => (Hall.out i (by omega)).1, fun i hi => (Hall.out i (by omega)).2⟩⟩
      · have d6 : ((n6 : Int) != (n : Int)) = true := by simp; omega
        clear hm hi im ii li lr ln e4 e5 e6
        go_enter Try.func9, Try.ntmps9
        go_wp2_with fail
        go_ret
        exact cdom_no (Keeps.refl _ _)
    · have d5 : ((n5 : Int) != (n : Int)) = true := by simp; omega
      clear hm hi im ii li lr ln e4 e5
      go_enter Try.func9, Try.ntmps9
      go_wp2_with fail
      go_ret
      exact cdom_no (Keeps.refl _ _)
  · have d4 : ((n4 : Int) != (n : Int)) = true := by simp; omega
    clear hm hi im ii li lr ln e4
    go_enter Try.func9, Try.ntmps9
    go_wp2_with fail
    go_ret
    exact cdom_no (Keeps.refl _ _)
end Go.Proofs.Qxb6603867a
