import Derived.Test.Qxb6603867aZC
import Derived.Test.Qxb6603867aDom
namespace Go.Proofs.Qxb6603867a
open Go.RowKit Plf Plc
def LawPost3 (w : World) (e : Ending) (w' : World) : Prop := e = .returned (.bool true) ∧ Keeps No w w'
theorem At.rd3 {w : World} {g n : Nat} {e : TypeId} {cs : List Value} (h : At w g e cs) (hl : cs.length = n) : Rd w (some ⟨g, 0, none⟩) n cs :=
  ⟨hl, fun _ => ⟨g, 0, rfl, fun j v hv => by rw [Nat.zero_add]; exact h.cell hv⟩⟩
/-- the address and the cells of a row -/
theorem Rd.row {w : World} {a : Option Addr} {n : Nat} {cs : List Value} {F : Nat → Int} (h : Rd w a n cs) (hr : Row n F cs) {k : Nat} (hk : k < n) :
    ∃ b off, a = some ⟨b, off, none⟩ ∧ ∀ j, j < n → w.cell? ⟨b, off + j, none⟩ = some (.int .i32 (F j)) := by
  obtain ⟨b, off, e, hc⟩ := h.2 (by omega)
  exact ⟨b, off, e, fun j hj => hc j _ (hr.2 j hj)⟩
/-- what the law reads behind the call of ZZCompact -/
structure LF (w : World) (nh ns n K : Nat) (b0 b1 b3 b4 b5 d0 d1 : Option Addr) (gM gI gR gN : Nat) (F0 F1 F3 F4 F5 FH FS FM FI FR FN : Nat → Int) : Prop where
  r0 : ∃ cs, Rd w b0 nh cs ∧ Row nh F0 cs
  r1 : ∃ cs, Rd w b1 ns cs ∧ Row ns F1 cs
  r3 : ∃ cs, Rd w b3 n cs ∧ Row n F3 cs
  r4 : ∃ cs, Rd w b4 n cs ∧ Row n F4 cs
  r5 : ∃ cs, Rd w b5 n cs ∧ Row n F5 cs
  rH : ∃ cs, Rd w d0 nh cs ∧ Row nh FH cs
  rS : ∃ cs, Rd w d1 ns cs ∧ Row ns FS cs
  rM : ∃ cs, At w gM 21 cs ∧ Row K FM cs
  rI : ∃ cs, At w gI 21 cs ∧ Row K FI cs
  rR : ∃ cs, At w gR 21 cs ∧ Row K FR cs
  rN : ∃ cs, At w gN 21 cs ∧ Row K FN cs
theorem LF.kept {w w' : World} {nh ns n K : Nat} {b0 b1 b3 b4 b5 d0 d1 : Option Addr} {gM gI gR gN : Nat} {F0 F1 F3 F4 F5 FH FS FM FI FR FN : Nat → Int} (h : LF w nh ns n K b0 b1 b3 b4 b5 d0 d1 gM gI gR gN F0 F1 F3 F4 F5 FH FS FM FI FR FN) (k : Keeps No w w') :
    LF w' nh ns n K b0 b1 b3 b4 b5 d0 d1 gM gI gR gN F0 F1 F3 F4 F5 FH FS FM FI FR FN :=
  ⟨(match h.r0 with | ⟨z, h⟩ => ⟨z, h.1.kept k, h.2⟩), (match h.r1 with | ⟨z, h⟩ => ⟨z, h.1.kept k, h.2⟩), (match h.r3 with | ⟨z, h⟩ => ⟨z, h.1.kept k, h.2⟩), (match h.r4 with | ⟨z, h⟩ => ⟨z, h.1.kept k, h.2⟩), (match h.r5 with | ⟨z, h⟩ => ⟨z, h.1.kept k, h.2⟩), (match h.rH with | ⟨z, h⟩ => ⟨z, h.1.kept k, h.2⟩), (match h.rS with | ⟨z, h⟩ => ⟨z, h.1.kept k, h.2⟩),
    (match h.rM with | ⟨z, h⟩ => ⟨z, h.1.kept k, h.2⟩), (match h.rI with | ⟨z, h⟩ => ⟨z, h.1.kept k, h.2⟩), (match h.rR with | ⟨z, h⟩ => ⟨z, h.1.kept k, h.2⟩), (match h.rN with | ⟨z, h⟩ => ⟨z, h.1.kept k, h.2⟩)⟩
/-- the ranks told up to k -/
def RankTo (em : List Int) (n k : Nat) (cs : List Value) : Prop := cs.length = n + 1 ∧ ∀ j, j ≤ k → cs[j]? = some (.int .i32 (cnt em j : Nat))
theorem rank_zero (em : List Int) (n : Nat) : RankTo em n 0 (List.replicate (n + 1) (.int .i32 0)) := by
  refine ⟨by simp, fun j hj => ?_⟩
  obtain rfl : j = 0 := by omega
  simp [cnt]
theorem rank_dead {em : List Int} {n k : Nat} {cs : List Value} (h0 : at' em k < 0) (h : RankTo em n k cs) (hk : k < n) : RankTo em n (k + 1) (cs.set (k + 1) (.int .i32 (cnt em k : Nat))) := by
  refine ⟨by simpa using h.1, fun j hj => ?_⟩
  by_cases e : j = k + 1
  · subst e
    rw [List.getElem?_set_self (by rw [h.1]; omega), cnt, if_neg (by omega)]
  · rw [List.getElem?_set_ne (by omega)]; exact h.2 j (by omega)
theorem rank_live {em : List Int} {n k : Nat} {cs : List Value} (h0 : 0 ≤ at' em k) (h : RankTo em n k cs) (hk : k < n) : RankTo em n (k + 1) ((cs.set (k + 1) (.int .i32 (cnt em k : Nat))).set (k + 1) (.int .i32 ((cnt em k : Nat) + 1))) := by
  refine ⟨by simpa using h.1, fun j hj => ?_⟩
  by_cases e : j = k + 1
  · subst e
    rw [List.getElem?_set_self (by simp [h.1]; omega), cnt, if_pos h0]
    simp
  · rw [List.getElem?_set_ne (by omega), List.getElem?_set_ne (by omega)]; exact h.2 j (by omega)
set_option maxRecDepth 100000 in
set_option maxHeartbeats 8000000 in
theorem law3 (a0 a1 a2 a3 a4 a5 a6 : Option Addr) (n0 n1 n2 n3 n4 n5 n6 c0 c1 c2 c3 c4 c5 c6 : Nat) (y7 y8 y9 y10 : Int) (hd st ct em ei er en : List Int) (w : World)
    (m0 : n0 ≤ 9223372036854775807) (m1 : n1 ≤ 9223372036854775807) (m2 : n2 ≤ 9223372036854775807) (m3 : n3 ≤ 9223372036854775807) (m4 : n4 ≤ 9223372036854775807) (m5 : n5 ≤ 9223372036854775807) (m6 : n6 ≤ 9223372036854775807)
    (z0 : a0 = none → n0 = 0) (z1 : a1 = none → n1 = 0) (z2 : a2 = none → n2 = 0) (z3 : a3 = none → n3 = 0) (z4 : a4 = none → n4 = 0) (z5 : a5 = none → n5 = 0) (z6 : a6 = none → n6 = 0)
    (r0 : Rd w a0 n0 (hd.map (Value.int .i32))) (r1 : Rd w a1 n1 (st.map (Value.int .i32))) (r2 : Rd w a2 n2 (ct.map (Value.int .i32))) (r3 : Rd w a3 n3 (em.map (Value.int .i32))) (r4 : Rd w a4 n4 (ei.map (Value.int .i32)))
    (r5 : Rd w a5 n5 (er.map (Value.int .i32))) (r6 : Rd w a6 n6 (en.map (Value.int .i32))) (is : I32 st) (im : I32 em) (ii : I32 ei) :
    Calls Try.prog 3 #[.slice a0 n0 c0, .slice a1 n1 c1, .slice a2 n2 c2, .slice a3 n3 c3, .slice a4 n4 c4, .slice a5 n5 c5, .slice a6 n6 c6, .int .i64 y7, .int .i64 y8, .int .i64 y9, .int .i64 y10] w (LawPost3 w) := by
  go_enter Try.func3, Try.ntmps3
  go_wp2_with fail
  refine (bytes8 a0 a1 a2 a3 a4 a5 a6 n0 n1 n2 n3 n4 n5 n6 c0 c1 c2 c3 c4 c5 c6 y7 y8 y9 y10 _ m0 m1 m2 m3 m4 m5 m6).mono ?_
  rintro e w1 ⟨b, rfl, k1⟩
  have HK : Hid (Keeps No w w1) := k1
  cases b with
  | false =>
    clear r0 r1 r2 r3 r4 r5 r6 is im ii k1 z0 z1 z2 z3 z4 z5 z6
    go_wp2_with fail
    go_ret
    exact ⟨rfl, HK.out⟩
  | true =>
    by_cases s0 : n0 ≤ 1048576
    case neg =>
      have d0 : decide ((1048576 : Int) < (n0 : Int)) = true := by simp; omega
      clear r0 r1 r2 r3 r4 r5 r6 is im ii k1 z0 z1 z2 z3 z4 z5 z6
      go_wp2_with fail
      go_ret
      exact ⟨rfl, HK.out⟩
    have d0 : decide ((1048576 : Int) < (n0 : Int)) = false := by simp; omega
    by_cases s1 : n1 ≤ 1048576
    case neg =>
      have d1 : decide ((1048576 : Int) < (n1 : Int)) = true := by simp; omega
      clear r0 r1 r2 r3 r4 r5 r6 is im ii k1 z0 z1 z2 z3 z4 z5 z6
      go_wp2_with fail
      go_ret
      exact ⟨rfl, HK.out⟩
    have d1 : decide ((1048576 : Int) < (n1 : Int)) = false := by simp; omega
    by_cases s2 : n2 ≤ 1048576
    case neg =>
      have d2 : decide ((1048576 : Int) < (n2 : Int)) = true := by simp; omega
      clear r0 r1 r2 r3 r4 r5 r6 is im ii k1 z0 z1 z2 z3 z4 z5 z6
      go_wp2_with fail
      go_ret
      exact ⟨rfl, HK.out⟩
    have d2 : decide ((1048576 : Int) < (n2 : Int)) = false := by simp; omega
    by_cases s3 : n3 ≤ 1048576
    case neg =>
      have d3 : decide ((1048576 : Int) < (n3 : Int)) = true := by simp; omega
      clear r0 r1 r2 r3 r4 r5 r6 is im ii k1 z0 z1 z2 z3 z4 z5 z6
      go_wp2_with fail
      go_ret
      exact ⟨rfl, HK.out⟩
    have d3 : decide ((1048576 : Int) < (n3 : Int)) = false := by simp; omega
    by_cases s4 : n4 ≤ 1048576
    case neg =>
      have d4 : decide ((1048576 : Int) < (n4 : Int)) = true := by simp; omega
      clear r0 r1 r2 r3 r4 r5 r6 is im ii k1 z0 z1 z2 z3 z4 z5 z6
      go_wp2_with fail
      go_ret
      exact ⟨rfl, HK.out⟩
    have d4 : decide ((1048576 : Int) < (n4 : Int)) = false := by simp; omega
    by_cases s5 : n5 ≤ 1048576
    case neg =>
      have d5 : decide ((1048576 : Int) < (n5 : Int)) = true := by simp; omega
      clear r0 r1 r2 r3 r4 r5 r6 is im ii k1 z0 z1 z2 z3 z4 z5 z6
      go_wp2_with fail
      go_ret
      exact ⟨rfl, HK.out⟩
    have d5 : decide ((1048576 : Int) < (n5 : Int)) = false := by simp; omega
    by_cases s6 : n6 ≤ 1048576
    case neg =>
      have d6 : decide ((1048576 : Int) < (n6 : Int)) = true := by simp; omega
      clear r0 r1 r2 r3 r4 r5 r6 is im ii k1 z0 z1 z2 z3 z4 z5 z6
      go_wp2_with fail
      go_ret
      exact ⟨rfl, HK.out⟩
    have d6 : decide ((1048576 : Int) < (n6 : Int)) = false := by simp; omega
    by_cases sz : 4 * (n0 + n1 + n2 + n3 + n4 + n5 + n6) ≤ 1048576
    case neg =>
      clear r0 r1 r2 r3 r4 r5 r6 is im ii k1 z0 z1 z2 z3 z4 z5 z6
      go_wp2_with fail
      go_ret
      exact ⟨rfl, HK.out⟩
    clear m0 m1 m2 m3 m4 m5 m6
    go_wp2_with fail
    refine (cdom9 n0 n1 n3 n4 n5 n6 c0 c1 c3 c4 c5 c6 a0 a1 a3 a4 a5 a6 em ei er en _ s0 s1 s3 s4 s5 s6 (r3.kept k1) (r4.kept k1) (r5.kept k1) (r6.kept k1) im ii).mono ?_
    rintro e w2 ⟨b, rfl, k2, hD⟩
    have kw2 := k1.tr k2
    have HK2 : Hid (Keeps No w w2) := kw2
    cases b with
    | false =>
      clear r0 r1 r2 r3 r4 r5 r6 is im ii k1 k2 kw2 z0 z1 z2 z3 z4 z5 z6 hD
      go_wp2_with fail
      go_ret
      exact ⟨rfl, HK2.out⟩
    | true =>
    have D := hD rfl
    have lm : em.length = n3 := by simpa using r3.1
    have li : ei.length = n4 := by simpa using r4.1
    have lr : er.length = n5 := by simpa using r5.1
    have ln : en.length = n6 := by simpa using r6.1
    obtain rfl : n4 = n3 := by have := D.li; omega
    obtain rfl : n5 = n4 := by have := D.lr; omega
    obtain rfl : n6 = n5 := by have := D.ln; omega
    have HD : Hid (CDom n0 n1 n6 em ei er en) := D
    have LM : Hid (em.length = n6) := lm
    have LI : Hid (ei.length = n6) := li
    have LR : Hid (er.length = n6) := lr
    clear hD D k1 k2 lm li lr ln d0 d1 d2 d3 d4 d5 d6 s3 s4 s5 HK
    go_wp2_with fail
    refine (cloneI32 a0 n0 c0 hd _ s0 z0 (r0.kept kw2)).mono ?_
    rintro e w3 ⟨b0, rfl, C0, k3, y100⟩
    have kw3 := kw2.tr k3
    clear kw2
    go_wp2_with fail
    refine (cloneI32 a1 n1 c1 st _ s1 z1 (r1.kept kw3)).mono ?_
    rintro e w4 ⟨b1, rfl, C1, k4, y101⟩
    have kw4 := kw3.tr k4
    have C0 := C0.kept k4
    clear kw3
    go_wp2_with fail
    refine (cloneI32 a2 n2 c2 ct _ s2 z2 (r2.kept kw4)).mono ?_
    rintro e w5 ⟨b2, rfl, C2, k5, y102⟩
    have kw5 := kw4.tr k5
    have C0 := C0.kept k5
    have C1 := C1.kept k5
    clear kw4
    go_wp2_with fail
    refine (cloneI32 a3 n6 c3 em _ s6 z3 (r3.kept kw5)).mono ?_
    rintro e w6 ⟨b3, rfl, C3, k6, y103⟩
    have kw6 := kw5.tr k6
    have C0 := C0.kept k6
    have C1 := C1.kept k6
    have C2 := C2.kept k6
    clear kw5
    go_wp2_with fail
    refine (cloneI32 a4 n6 c4 ei _ s6 z4 (r4.kept kw6)).mono ?_
    rintro e w7 ⟨b4, rfl, C4, k7, y104⟩
    have kw7 := kw6.tr k7
    have C0 := C0.kept k7
    have C1 := C1.kept k7
    have C2 := C2.kept k7
    have C3 := C3.kept k7
    clear kw6
    go_wp2_with fail
    refine (cloneI32 a5 n6 c5 er _ s6 z5 (r5.kept kw7)).mono ?_
    rintro e w8 ⟨b5, rfl, C5, k8, y105⟩
    have kw8 := kw7.tr k8
    have C0 := C0.kept k8
    have C1 := C1.kept k8
    have C2 := C2.kept k8
    have C3 := C3.kept k8
    have C4 := C4.kept k8
    clear kw7
    go_wp2_with fail
    refine (cloneI32 a6 n6 c6 en _ s6 z6 (r6.kept kw8)).mono ?_
    rintro e w9 ⟨b6, rfl, C6, k9, y106⟩
    have kw9 := kw8.tr k9
    have C0 := C0.kept k9
    have C1 := C1.kept k9
    have C2 := C2.kept k9
    have C3 := C3.kept k9
    have C4 := C4.kept k9
    have C5 := C5.kept k9
    clear kw8
    clear r0 r1 r2 r3 r4 r5 r6
    go_wp2_with fail
    refine (cloneI32 b0 n0 n0 hd _ s0 (fun h => z0 (y100.1 h)) C0.rd).mono ?_
    rintro e w10 ⟨d0, rfl, E0, k10, x100⟩
    have l200 := E0
    have kk10 := k10
    go_wp2_with fail
    refine (cloneI32 b1 n1 n1 st _ s1 (fun h => z1 (y101.1 h)) (C1.rd.kept kk10)).mono ?_
    rintro e w11 ⟨d1, rfl, E1, k11, x101⟩
    have l201 := E1
    have kk11 := kk10.tr k11
    go_wp2_with fail
    refine (cloneI32 b2 n2 n2 ct _ s2 (fun h => z2 (y102.1 h)) (C2.rd.kept kk11)).mono ?_
    rintro e w12 ⟨d2, rfl, E2, k12, x102⟩
    have l202 := E2
    have kk12 := kk11.tr k12
    have E0 := (E0.kept k11).kept k12
    have E1 := E1.kept k12
    have hne : ∀ g, d0 = some ⟨g, 0, none⟩ → d1 ≠ some ⟨g, 0, none⟩ := fun g hg hg' => by
      have q1 := sl_lt l200 hg
      rcases l201.2 with ⟨h0, _⟩ | ⟨g', ha, hb, _⟩
      · rw [h0] at hg'; cases hg'
      · rw [ha, Option.some.injEq, Addr.mk.injEq] at hg'; omega
    have hge0 : ∀ g, d0 = some ⟨g, 0, none⟩ → w9.heap.size ≤ g := fun g hg => by
      rcases l200.2 with ⟨h0, _⟩ | ⟨g', ha, hb, _⟩
      · rw [h0] at hg; cases hg
      · rw [ha, Option.some.injEq, Addr.mk.injEq] at hg; omega
    have hge1 : ∀ g, d1 = some ⟨g, 0, none⟩ → w9.heap.size ≤ g := fun g hg => by
      have hs := k10.size
      rcases l201.2 with ⟨h0, _⟩ | ⟨g', ha, hb, _⟩
      · rw [h0] at hg; cases hg
      · rw [ha, Option.some.injEq, Addr.mk.injEq] at hg; omega
    have HNE : Hid _ := hne
    clear z0 z1 z2 z3 z4 z5 z6 y100 y101 y102 y103 y104 y105 y106 x100 x101 x102
    go_wp2_with fail
    refine (zc11 n0 n1 n6 n2 n2 n6 n6 n6 n6 d0 d1 d2 b3 b4 b5 b6 y7 y8 y9 y10 hd st em ei er en _ s6 (E0.mono (Nat.zero_le _)) (E1.mono (Nat.zero_le _)) (C3.rd.kept kk12) (C4.rd.kept kk12) (C5.rd.kept kk12) (C6.rd.kept kk12) HD.out im HNE.out).mono ?_
    rintro e w13 ⟨gM, gI, gR, gN, hc, sc, cm, ci, cr, cn, rfl, hH, hHr, hS, hSr, aM, qM, aI, qI, aR, qR, aN, qN, k13⟩
    have kk13 : Keeps No w9 w13 := kk12.trans k13 (fun _ _ h => h) (fun k hk e => by
      rcases e with e | e
      · have := hge0 k e; omega
      · have := hge1 k e; omega)
    have kw13 := kw9.tr kk13
    have E2 : Rd w13 d2 n2 (ct.map (Value.int .i32)) := by
      refine Sl.rd (base := 0) (e := 21) ⟨E2.1, E2.2.elim .inl fun ⟨g, ha, hb, hg⟩ => .inr ⟨g, ha, Nat.zero_le _, hg.keep k13 ?_⟩⟩
      rintro (e | e)
      · have := sl_lt l200 e
        have := k11.size
        omega
      · have := sl_lt l201 e
        omega
    have R2 := C2.rd.kept kk13
    have hLF : LF w13 n0 n1 n6 (cnt em n6) b0 b1 b3 b4 b5 d0 d1 gM gI gR gN (at' hd) (at' st) (at' em) (at' ei) (at' er) (fun q => lst (fun r => (at' ei (pick em n6 r)).toNat) (headA hd ei n6 q) q (cnt em n6)) (startA st em n6)
        (fun p => at' em (pick em n6 p)) (fun p => at' ei (pick em n6 p)) (fun p => at' er (pick em n6 p)) (fun p => lst (fun r => (at' ei (pick em n6 r)).toNat) (-1) (at' ei (pick em n6 p)).toNat p) :=
      ⟨⟨_, C0.rd.kept kk13, row_of_map (by simpa using C0.1)⟩, ⟨_, C1.rd.kept kk13, row_of_map (by simpa using C1.1)⟩, ⟨_, C3.rd.kept kk13, row_of_map LM.out⟩, ⟨_, C4.rd.kept kk13, row_of_map LI.out⟩, ⟨_, C5.rd.kept kk13, row_of_map LR.out⟩,
        ⟨_, hH.rd, hHr⟩, ⟨_, hS.rd, hSr⟩, ⟨_, aM, qM⟩, ⟨_, aI, qI⟩, ⟨_, aR, qR⟩, ⟨_, aN, qN⟩⟩
    clear C0 C1 C2 C3 C4 C5 C6 E0 E1 l200 l201 l202 k3 k4 k5 k6 k7 k8 k9 k10 k11 k12 kk10 kk11 kk12 kw9 k13 kk13 hH hHr hS hSr aM qM aI qI aR qR aN qN hne hge0 hge1 HNE HK2
    go_wp2_with fail
    refine (sameI32 d2 b2 n2 n2 n2 ct _ s2 E2 R2).mono ?_
    rintro e w14 ⟨rfl, k14⟩
    have hLF := hLF.kept k14
    have kw14 := kw13.tr k14
    have hcl := cnt_le em n6
    clear k14 kw13 E2 R2
    obtain ⟨K, hK⟩ : ∃ K, K = cnt em n6 := ⟨_, rfl⟩
    have HKc : Hid (K = cnt em n6) := hK
    rw [← hK] at hLF hcl ⊢
    clear hK
    go_wp2_with fail
    go_loopw [35, 36] (fun jv i wr => ∃ x q : Nat, x ≤ n6 ∧ i = .int .i64 x ∧ jv = .int .i64 (cnt em x : Nat) ∧ wr = w14.drewN q) (fun _ i _ => n6 - (intOf i).toNat)
    case atStart => exact ⟨0, 0, Nat.zero_le _, rfl, rfl, rfl⟩
    case round =>
      obtain ⟨x, dn, hx, rfl, rfl, rfl⟩ := hrel
      have hcx := cnt_le em x
      by_cases hlt : x < n6
      · obtain ⟨cs3, R3, Q3⟩ := hLF.r3
        obtain ⟨g3b, o3, rfl, hc3⟩ := R3.row Q3 hlt
        have q3 := hc3 x hlt
        have bm := im.get x
        have e1 : em.getD x 0 = at' em x := rfl
        rw [e1] at bm
        by_cases hneg : at' em x < 0
        · have HC : Hid (cnt em (x + 1) = cnt em x) := by rw [Hid, cnt, if_neg (by omega)]
          clear hLF R3 Q3 hc3 im ii is e1
          generalize at' em x = v at *
          generalize cnt em x = c at *
          go_wp2_with fail
          go_roundw
          case rel => exact ⟨x + 1, _, by omega, by go_num, by rw [HC.out], rfl⟩
          case measure => simp [intOf]; omega
        · have h0 : 0 ≤ at' em x := by omega
          have HC : Hid (cnt em (x + 1) = cnt em x + 1) := by rw [Hid, cnt, if_pos h0]
          have hcK : cnt em x < K := by rw [HKc.out]; exact cnt_lt hlt h0
          have hpk := pick_cnt hlt h0
          obtain ⟨cs4, R4, Q4⟩ := hLF.r4
          obtain ⟨g4b, o4, rfl, hc4⟩ := R4.row Q4 hlt
          have q4 := hc4 x hlt
          obtain ⟨cs5, R5, Q5⟩ := hLF.r5
          obtain ⟨g5b, o5, rfl, hc5⟩ := R5.row Q5 hlt
          have q5 := hc5 x hlt
          obtain ⟨csM, AM, QM⟩ := hLF.rM
          have tM := AM.cell (QM.2 _ hcK)
          obtain ⟨csI, AI, QI⟩ := hLF.rI
          have tI := AI.cell (QI.2 _ hcK)
          obtain ⟨csR, AR, QR⟩ := hLF.rR
          have tR := AR.cell (QR.2 _ hcK)
          simp only [hpk] at tM tI tR
          clear hLF R3 Q3 hc3 R4 Q4 hc4 R5 Q5 hc5 AM QM AI QI AR QR im ii is e1 hpk
          generalize at' em x = v at *
          generalize at' ei x = u at *
          generalize at' er x = t at *
          generalize cnt em x = c at *
          go_wp2_with fail
          go_quiet (fail)
          go_wp2_with fail
          go_roundw
          case rel => exact ⟨x + 1, _, by omega, by go_num, by rw [HC.out]; go_num, rfl⟩
          case measure => simp [intOf]; omega
      · obtain rfl : x = n6 := by omega
        have k15 : Keeps No w14 (w14.drewN dn) := (Keeps.refl _ _).drewN dn
        have hLF := hLF.kept k15
        have kw15 := kw14.tr k15
        rw [← HKc.out]
        generalize w14.drewN dn = w15 at *
        clear k15 kw14
        obtain ⟨i4, hi4, hu0, hu1, hu2⟩ := info_parts Try.info4
        go_wp2_with (at_make; refine wpList_make_at _ rfl (.tmp 270) (.tmp 270) 29 rfl 4 i4 (.bool false) 1 1 Try.underlying29 hi4 hu0 hu1 hu2 .i64 .i64 _ _ n0 rfl rfl rfl rfl (by omega) (by omega) ?_)
        intro w16 mcs _ hmcs hmA k16 hs16
        have hm0 : Marks n0 ei 0 mcs := by
          rw [show mcs = List.replicate n0 (.bool false) from by simpa using hmcs]; exact marks_zero n0 ei
        have HM0 : Hid _ := hm0
        obtain ⟨G, hG⟩ : ∃ G, G = w15.heap.size := ⟨_, rfl⟩
        have HG : Hid (G = w15.heap.size) := hG
        rw [← hG] at hmA ⊢
        clear hG hs16 hm0 hmcs
        go_wp2_with fail
        go_loopw [38] (fun i wr => ∃ (y : Nat) (mcs : List Value), y ≤ x ∧ i = .int .i64 y ∧ At wr G 4 mcs ∧ Marks n0 ei y mcs ∧ Keeps No w15 wr) (fun i _ => x - (intOf i).toNat)
        case atStart => exact ⟨0, mcs, Nat.zero_le _, rfl, hmA, HM0.out, k16⟩
        case round =>
          clear hmA HM0 k16
          obtain ⟨y, mcs, hy, rfl, hmA, hM, kr⟩ := hrel
          by_cases hlt2 : y < x
          · obtain ⟨cs4, R4, Q4⟩ := (hLF.kept kr).r4
            obtain ⟨g4b, o4, rfl, hc4⟩ := R4.row Q4 hlt2
            have q4 := hc4 y hlt2
            obtain ⟨t0, t1⟩ := HD.out.it y hlt2
            obtain ⟨q, hq⟩ : ∃ q : Nat, at' ei y = (q : Int) := ⟨(at' ei y).toNat, by omega⟩
            have hql : q < n0 := by omega
            have u1 := hmA.cell (hM.2 q hql)
            have u2 := hmA.frozen q
            have HM' : Hid _ := marks_pos hM hq
            have HA : Hid _ := hmA.set q (.bool true)
            have HKr : Hid _ := kr.setCell (p := ⟨G, q, none⟩) (fun h => absurd h (by rw [HG.out]; exact Nat.lt_irrefl _)) (.bool true)
            rw [hq] at q4
            clear hLF R4 Q4 hc4 t0 t1 hq hmA hM kr im ii is
            generalize seenB ei y q = bq at *
            go_wp2_with fail
            go_roundw
            case rel => exact ⟨y + 1, _, by omega, by go_num, HA.out, HM'.out, HKr.out⟩
            case measure => simp [intOf]; omega
          · obtain rfl : y = x := by omega
            have hLF := hLF.kept kr
            have kwr := kw15.tr kr
            have HMM : Hid _ := hM
            clear hM kr kw15 HG
            go_wp2_with fail
            obtain ⟨J, hJ⟩ : ∃ J : Nat → Nat, J = fun r => (at' ei (pick em y r)).toNat := ⟨_, rfl⟩
            have HI : Hid (∀ p, p < K → at' ei (pick em y p) = (J p : Int)) := fun p hp => by
              obtain ⟨k1, _, _⟩ := pick_spec (em := em) (n := y) (p := p) (by rw [← HKc.out]; exact hp)
              have := (HD.out.it _ k1).1
              rw [hJ]
              show at' ei (pick em y p) = ((at' ei (pick em y p)).toNat : Int)
              omega
            have HJl : Hid (∀ r, r < K → J r < n0) := fun r hr => by
              obtain ⟨k1, _, _⟩ := pick_spec (em := em) (n := y) (p := r) (by rw [← HKc.out]; exact hr)
              have h1 := (HD.out.it _ k1).2
              have h2 := HI.out r hr
              omega
            have HNS : Hid (∀ t, seenB ei y t = false → ∀ r, r < K → J r ≠ t) := fun t ht r hr he => by
              obtain ⟨k1, _, _⟩ := pick_spec (em := em) (n := y) (p := r) (by rw [← HKc.out]; exact hr)
              have h2 := HI.out r hr
              have : seenB ei y t = true := (seen_iff ei y t).2 ⟨_, k1, by rw [h2, he]⟩
              simp [ht] at this
            rw [← hJ] at hLF
            have HJ : Hid (J = fun r => (at' ei (pick em y r)).toNat) := hJ
            clear hJ
            have hcl0 := cntLt_zero J K
            obtain ⟨wo, rfl⟩ : ∃ wo : World, wo = wr := ⟨_, rfl⟩
            go_loopw [39, 40] (fun vv i wr => ∃ t q : Nat, t ≤ n0 ∧ i = .int .i64 t ∧ vv = .int .i64 (cntLt J t K : Nat) ∧ wr = wo.drewN q) (fun _ i _ => n0 - (intOf i).toNat)
            case atStart => exact ⟨0, 0, Nat.zero_le _, rfl, by rw [hcl0]; rfl, rfl⟩
            case round =>
              clear hcl0
              obtain ⟨t, dq, ht, rfl, rfl, rfl⟩ := hrel
              have hvl := cntLt_le J t K
              by_cases hlt3 : t < n0
              · have u1 := hmA.cell (HMM.out.2 t hlt3)
                obtain ⟨csH, RH, QH⟩ := hLF.rH
                obtain ⟨gHb, oH, rfl, hcH⟩ := RH.row QH hlt3
                have qH := hcH t hlt3
                try dsimp only at qH
                have hcs := cntLt_succ J t K
                cases hsn : seenB ei y t with
                | false =>
                  have hA : headA hd ei y t = at' hd t := by unfold headA; rw [hsn]; rfl
                  rw [hA, lst_none (HNS.out t hsn)] at qH
                  rw [cntEq_none (HNS.out t hsn)] at hcs
                  have HCS : Hid (cntLt J (t + 1) K = cntLt J t K) := hcs
                  rw [hsn] at u1
                  obtain ⟨cs0, R0, Q0⟩ := hLF.r0
                  obtain ⟨g0b, o0, rfl, hc0⟩ := R0.row Q0 hlt3
                  have q0 := hc0 t hlt3
                  clear hcs hA hsn hLF RH QH hcH R0 Q0 hc0 hmA im ii is
                  generalize at' hd t = hv at *
                  generalize cntLt J t K = cv at *
                  go_wp2_with fail
                  go_quiet (fail)
                  go_wp2_with fail
                  go_roundw
                  case rel => exact ⟨t + 1, _, by omega, by go_num, by rw [HCS.out], rfl⟩
                  case measure => simp [intOf]; omega
                | true =>
                  have hA : headA hd ei y t = -1 := by unfold headA; rw [hsn]; rfl
                  rw [hA] at qH
                  rw [hsn] at u1
                  have HCS : Hid (cntLt J (t + 1) K = cntLt J t K + cntEq J t K) := hcs
                  have hel := cntEq_le J t K
                  obtain ⟨csI, AI, QI⟩ := hLF.rI
                  obtain ⟨csN, AN, QN⟩ := hLF.rN
                  have HQI : Hid (∀ r, r < K → wo.cell? ⟨gI, r, none⟩ = some (.int .i32 (J r : Nat))) := fun r hr => by
                    have := AI.cell (QI.2 r hr)
                    try dsimp only at this
                    rw [HI.out r hr] at this
                    exact this
                  have HQN : Hid (∀ r, r < K → wo.cell? ⟨gN, r, none⟩ = some (.int .i32 (lst J (-1) (J r) r))) := fun r hr => by
                    have := AN.cell (QN.2 r hr)
                    try dsimp only at this
                    rw [HI.out r hr, Int.toNat_natCast] at this
                    exact this
                  clear hcs hA hsn hLF RH QH hcH hmA im ii is AI QI AN QN
                  have HL0 : Hid _ := (rfl : lst J (-1) t K = lst J (-1) t K)
                  generalize hc0 : cntLt J t K = cv at hvl ⊢
                  have HC0 : Hid (cntLt J t K = cv) := hc0
                  clear hc0
                  go_wp2_with fail
                  go_loop [39, 41, 42] (fun vv bv av => ∃ b : Nat, b ≤ K ∧ bv = .int .i64 b ∧ av = .int .i32 (lst J (-1) t b) ∧ vv = .int .i64 (cv + (cntEq J t K - cntEq J t b) : Nat) ∧ cntEq J t b ≤ cntEq J t K) (fun _ bv _ => (intOf bv).toNat)
                  case atStart => exact ⟨K, Nat.le_refl _, rfl, rfl, by simp, Nat.le_refl _⟩
                  case round =>
                    obtain ⟨b, hb, rfl, rfl, rfl, hce⟩ := hrel
                    have hle := cntLt_succ J t K
                    have hlk := cntLt_le J (t + 1) K
                    rcases lst_cases J t b with ⟨e1, e2⟩ | ⟨r, e1, e2, e3, e4⟩
                    · rw [e1, e2]
                      have HE : Hid (cntLt J (t + 1) K = cv + (cntEq J t K - 0)) := by rw [HCS.out, HC0.out]; rfl
                      clear e1 e2 hle hlk hce
                      generalize cntEq J t K - 0 = ev at *
                      go_wp2_with fail
                      go_roundw
                      case rel => exact ⟨t + 1, _, by omega, by go_num, by rw [HE.out], rfl⟩
                      case measure => simp [intOf]; omega
                    · have qi := HQI.out r (by omega)
                      have qn := HQN.out r (by omega)
                      rw [e3] at qi qn
                      rw [e1, e4]
                      have HV : Hid (cv + (cntEq J t K - cntEq J t r) = cv + (cntEq J t K - (cntEq J t r + 1)) + 1) := by rw [Hid]; omega
                      have hvb : cv + (cntEq J t K - (cntEq J t r + 1)) + 1 ≤ K := by rw [HC0.out] at hle; omega
                      have hce' : cntEq J t r ≤ cntEq J t K := by omega
                      have HCE : Hid _ := hce'
                      clear e1 e3 e4 hle hlk hce hce'
                      generalize hlv : lst J (-1) t r = lv at *
                      have HLV : Hid (lst J (-1) t r = lv) := hlv
                      generalize hcv : cv + (cntEq J t K - (cntEq J t r + 1)) = vv at *
                      clear hcv hlv
                      go_wp2_with fail
                      go_round
                      case rel => exact ⟨r, by omega, rfl, by rw [HLV.out], by rw [HV.out]; go_num, HCE.out⟩
                      case measure => simp [intOf]; omega
              · obtain rfl : t = n0 := by omega
                have hca : cntLt J t K = K := cntLt_all HJl.out
                rw [hca]
                have k20 : Keeps No wo (wo.drewN dq) := (Keeps.refl _ _).drewN dq
                have hLF := hLF.kept k20
                have kw20 := kwr.tr k20
                generalize wo.drewN dq = w20 at *
                clear k20 kwr hmA HMM HNS HJl HI HJ hca hvl
                obtain ⟨i0, hi, hz0, hz1, hz2⟩ := info_parts Try.info21
                go_wp2_with (at_make; refine wpList_make_at _ rfl (.tmp 337) (.tmp 337) 22 rfl 21 i0 (.int .i32 0) 1 4 Try.underlying22 hi hz0 hz1 hz2 .i64 .i64 _ _ (y + 1) rfl rfl (by omega) (by omega) (by omega) (by omega) ?_)
                intro w21 rcs _ hrcs hrA k21 hs21
                have hr0 : RankTo em y 0 rcs := by
                  rw [show rcs = List.replicate (y + 1) (.int .i32 0) from by simpa using hrcs]; exact rank_zero em y
                have HR0 : Hid _ := hr0
                obtain ⟨G2, hG2⟩ : ∃ G, G = w20.heap.size := ⟨_, rfl⟩
                have HG2 : Hid (G2 = w20.heap.size) := hG2
                rw [← hG2] at hrA ⊢
                clear hG2 hs21 hr0 hrcs
                go_wp2_with fail
                go_loopw [44] (fun i wr => ∃ (z : Nat) (rcs : List Value), z ≤ y ∧ i = .int .i64 z ∧ At wr G2 21 rcs ∧ RankTo em y z rcs ∧ Keeps No w20 wr) (fun i _ => y - (intOf i).toNat)
                case atStart => exact ⟨0, rcs, Nat.zero_le _, rfl, hrA, HR0.out, k21⟩
                case round =>
                  clear hrA HR0 k21
                  obtain ⟨z, rcs, hz, rfl, hrA, hR, kr⟩ := hrel
                  by_cases hlt4 : z < y
                  · obtain ⟨cs3, R3, Q3⟩ := (hLF.kept kr).r3
                    obtain ⟨g3b, o3, rfl, hc3⟩ := R3.row Q3 hlt4
                    have q3 := hc3 z hlt4
                    have l3 : g3b < G2 := by
                      obtain ⟨cs3', R3', Q3'⟩ := hLF.r3
                      obtain ⟨g3', o3', he, hc3'⟩ := R3'.row Q3' hlt4
                      rw [Option.some.injEq, Addr.mk.injEq] at he
                      rw [HG2.out, he.1]
                      exact World.block_lt_of_cell? _ _ (hc3' z hlt4)
                    have bm := im.get z
                    have e1 : em.getD z 0 = at' em z := rfl
                    rw [e1] at bm
                    have hcz := cnt_le em z
                    have u1 := hrA.cell (hR.2 z (Nat.le_refl _))
                    obtain ⟨v2, hv2⟩ := at_get' (k := z + 1) hR.1 (by omega)
                    have u2 := hrA.cell hv2
                    have f2 := hrA.frozen (z + 1)
                    have nG : ∀ v, No (Addr.block ⟨G2, v, none⟩) ↔ False := fun v => Iff.rfl
                    have HA : Hid _ := fun c : Int => hrA.set (z + 1) (.int .i32 c)
                    have HKr : Hid _ := fun c : Int => kr.setCell (p := ⟨G2, z + 1, none⟩) (fun h => absurd h (by rw [HG2.out]; exact Nat.lt_irrefl _)) (.int .i32 c)
                    have HHR : Hid _ := hR
                    clear nG
                    by_cases hneg : at' em z < 0
                    · have HN : Hid _ := rank_dead hneg hR hlt4
                      clear hLF R3 Q3 hc3 hR kr hrA hv2 im ii is e1
                      generalize at' em z = v at *
                      generalize cnt em z = c at *
                      go_wp2_with fail
                      go_roundw
                      case rel => exact ⟨z + 1, _, by omega, by go_num, HA.out _, HN.out, HKr.out _⟩
                      case measure => simp [intOf]; omega
                    · have HN : Hid _ := rank_live (show 0 ≤ at' em z by omega) hR hlt4
                      have HA2 : Hid _ := fun c d : Int => (hrA.set (z + 1) (.int .i32 c)).set (z + 1) (.int .i32 d)
                      have HKr2 : Hid _ := fun c d : Int => (kr.setCell (p := ⟨G2, z + 1, none⟩) (fun h => absurd h (by rw [HG2.out]; exact Nat.lt_irrefl _)) (.int .i32 c)).setCell (p := ⟨G2, z + 1, none⟩) (fun h => absurd h (by rw [HG2.out]; exact Nat.lt_irrefl _)) (.int .i32 d)
                      clear hLF R3 Q3 hc3 hR kr hrA hv2 im ii is e1 HA HKr
                      generalize at' em z = v at *
                      generalize cnt em z = c at *
                      go_wp2_with fail
                      go_roundw
                      case rel => exact ⟨z + 1, _, by omega, by go_num, HA2.out _ _, HN.out, HKr2.out _ _⟩
                      case measure => simp [intOf]; omega
                  · obtain rfl : z = y := by omega
                    have hLF := hLF.kept kr
                    have kw22 : Hid _ := kw20.tr kr
                    have HRR : Hid _ := hR
                    clear hR kr kw20 HG2
                    go_wp2_with fail
                    go_loop [45] (fun i => ∃ m : Nat, m ≤ n1 ∧ i = .int .i64 m) (fun i => n1 - (intOf i).toNat)
                    case atStart => exact ⟨0, Nat.zero_le _, rfl⟩
                    case round =>
                      obtain ⟨m, hm, rfl⟩ := hrel
                      by_cases hlt5 : m < n1
                      · obtain ⟨cs1, R1, Q1⟩ := hLF.r1
                        obtain ⟨g1b, o1, rfl, hc1⟩ := R1.row Q1 hlt5
                        have q1 := hc1 m hlt5
                        obtain ⟨csS, RS, QS⟩ := hLF.rS
                        obtain ⟨gSb, oS, rfl, hcS⟩ := RS.row QS hlt5
                        have qS := hcS m hlt5
                        have bs := is.get m
                        have e1 : st.getD m 0 = at' st m := rfl
                        rw [e1] at bs
                        by_cases hneg : at' st m < 0
                        · have hsa : startA st em z m = at' st m := by unfold startA; rw [if_neg (by omega)]
                          rw [hsa] at qS
                          clear hLF R1 Q1 hc1 RS QS hcS is im ii e1 hrA hsa
                          generalize at' st m = sv at *
                          go_wp2_with fail
                          go_round
                          case rel => exact ⟨m + 1, by omega, by go_num⟩
                          case measure => simp [intOf]; omega
                        · obtain ⟨q, hq⟩ : ∃ q : Nat, at' st m = (q : Int) := ⟨(at' st m).toNat, by omega⟩
                          by_cases hqz : q < z
                          · obtain ⟨cs3, R3, Q3⟩ := hLF.r3
                            obtain ⟨g3b, o3, rfl, hc3⟩ := R3.row Q3 hqz
                            have q3 := hc3 q hqz
                            have bm := im.get q
                            have e2 : em.getD q 0 = at' em q := rfl
                            rw [e2] at bm
                            have u1 := hrA.cell (HRR.out.2 q (by omega))
                            by_cases hem : at' em q = (m : Int)
                            · have hsa : startA st em z m = (cnt em q : Nat) := by unfold startA; rw [hq, Int.toNat_natCast, if_pos ⟨by omega, by omega, hem⟩]
                              rw [hsa] at qS
                              rw [hq] at q1 bs
                              have hbm : (at' em q == (m : Int)) = true := by simp [hem]
                              have hcz := cnt_le em q
                              clear hLF R1 Q1 hc1 RS QS hcS R3 Q3 hc3 is im ii e1 e2 hrA hsa hem hneg hq
                              generalize at' em q = mv at *
                              generalize cnt em q = c at *
                              go_wp2_with fail
                              go_round
                              case rel => exact ⟨m + 1, by omega, by go_num⟩
                              case measure => simp [intOf]; omega
                            · have hsa : startA st em z m = at' st m := by unfold startA; rw [hq, Int.toNat_natCast, if_neg (fun h => hem h.2.2)]
                              rw [hsa] at qS
                              rw [hq] at q1 qS bs
                              have hbm : (at' em q == (m : Int)) = false := by simp [hem]
                              clear hLF R1 Q1 hc1 RS QS hcS R3 Q3 hc3 is im ii e1 e2 hrA hsa hem hneg hq u1
                              generalize at' em q = mv at *
                              go_wp2_with fail
                              go_round
                              case rel => exact ⟨m + 1, by omega, by go_num⟩
                              case measure => simp [intOf]; omega
                          · have hsa : startA st em z m = at' st m := by unfold startA; rw [if_neg (by omega)]
                            rw [hsa] at qS
                            rw [hq] at q1 qS bs
                            clear hLF R1 Q1 hc1 RS QS hcS is im ii e1 hrA hsa hneg hq
                            go_wp2_with fail
                            go_round
                            case rel => exact ⟨m + 1, by omega, by go_num⟩
                            case measure => simp [intOf]; omega
                      · go_wp2_with fail
                        go_ret
                        exact ⟨rfl, kw22.out⟩
end Go.Proofs.Qxb6603867a

