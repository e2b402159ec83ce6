import Derived.Test.Qxb6603867aShare
namespace Go.Proofs.Qxb6603867a
open Go.RowKit Plf
set_option maxRecDepth 100000 in
set_option maxHeartbeats 4000000 in
theorem law5 (a0 a1 a2 a3 a4 a5 a6 : Option Addr) (n0 n1 n2 n3 n4 n5 n6 c0 c1 c2 c3 c4 c5 c6 : Nat) (ss : List ByteArray) (ls cs : List Int) (sts vs us ps : List Int) (w : World)
    (m0 : n0 ≤ 9223372036854775807) (m1 : n1 ≤ 9223372036854775807) (m2 : n2 ≤ 9223372036854775807) (m3 : n3 ≤ 9223372036854775807) (m4 : n4 ≤ 9223372036854775807) (m5 : n5 ≤ 9223372036854775807) (m6 : n6 ≤ 9223372036854775807)
    (z0 : a0 = none → n0 = 0) (z1 : a1 = none → n1 = 0) (z2 : a2 = none → n2 = 0) (z3 : a3 = none → n3 = 0) (z4 : a4 = none → n4 = 0) (z5 : a5 = none → n5 = 0) (z6 : a6 = none → n6 = 0)
    (r0 : Rd w a0 n0 (ss.map Value.string)) (r1 : Rd w a1 n1 (ls.map (Value.int .i64))) (r2 : Rd w a2 n2 (cs.map (Value.int .i64))) (r3 : Rd w a3 n3 (sts.map (Value.int .i32))) (r4 : Rd w a4 n4 (vs.map (Value.int .i32)))
    (r5 : Rd w a5 n5 (us.map (Value.int .i32))) (r6 : Rd w a6 n6 (ps.map (Value.int .i32))) (hss : ∀ k, (ss.getD k ByteArray.empty).size ≤ 9223372036854775807) (iv : I32 vs) (ip : I32 ps) :
    Calls Try.prog 5 #[.slice a0 n0 c0, .slice a1 n1 c1, .slice a2 n2 c2, .slice a3 n3 c3, .slice a4 n4 c4, .slice a5 n5 c5, .slice a6 n6 c6] w (LawPost w) := by
  go_enter Try.func5, Try.ntmps5
  go_wp2_with fail
  refine (bytes21 a0 a1 a2 a3 a4 a5 a6 n0 n1 n2 n3 n4 n5 n6 c0 c1 c2 c3 c4 c5 c6 ss _ m0 m1 m2 m3 m4 m5 m6 r0 hss).mono ?_
  rintro e w1 ⟨b, rfl, k1⟩
  have HK : Hid (Keeps No w w1) := k1
  cases b with
  | false =>
    clear r0 r1 r2 r3 r4 r5 r6 hss iv ip k1 z0 z1 z2 z3 z4 z5 z6
    go_wp2_with fail
    go_ret
    exact ⟨rfl, HK.out⟩
  | true =>
    by_cases s0 : n0 ≤ 1048576
    case neg =>
      have d0 : decide ((1048576 : Int) < (n0 : Int)) = true := by simp; omega
      clear r0 r1 r2 r3 r4 r5 r6 hss iv ip k1 z0 z1 z2 z3 z4 z5 z6
      go_wp2_with fail
      go_ret
      exact ⟨rfl, HK.out⟩
    have d0 : decide ((1048576 : Int) < (n0 : Int)) = false := by simp; omega
    by_cases s1 : n1 ≤ 1048576
    case neg =>
      have d1 : decide ((1048576 : Int) < (n1 : Int)) = true := by simp; omega
      clear r0 r1 r2 r3 r4 r5 r6 hss iv ip k1 z0 z1 z2 z3 z4 z5 z6
      go_wp2_with fail
      go_ret
      exact ⟨rfl, HK.out⟩
    have d1 : decide ((1048576 : Int) < (n1 : Int)) = false := by simp; omega
    by_cases s2 : n2 ≤ 1048576
    case neg =>
      have d2 : decide ((1048576 : Int) < (n2 : Int)) = true := by simp; omega
      clear r0 r1 r2 r3 r4 r5 r6 hss iv ip k1 z0 z1 z2 z3 z4 z5 z6
      go_wp2_with fail
      go_ret
      exact ⟨rfl, HK.out⟩
    have d2 : decide ((1048576 : Int) < (n2 : Int)) = false := by simp; omega
    by_cases s3 : n3 ≤ 1048576
    case neg =>
      have d3 : decide ((1048576 : Int) < (n3 : Int)) = true := by simp; omega
      clear r0 r1 r2 r3 r4 r5 r6 hss iv ip k1 z0 z1 z2 z3 z4 z5 z6
      go_wp2_with fail
      go_ret
      exact ⟨rfl, HK.out⟩
    have d3 : decide ((1048576 : Int) < (n3 : Int)) = false := by simp; omega
    by_cases s4 : n4 ≤ 1048576
    case neg =>
      have d4 : decide ((1048576 : Int) < (n4 : Int)) = true := by simp; omega
      clear r0 r1 r2 r3 r4 r5 r6 hss iv ip k1 z0 z1 z2 z3 z4 z5 z6
      go_wp2_with fail
      go_ret
      exact ⟨rfl, HK.out⟩
    have d4 : decide ((1048576 : Int) < (n4 : Int)) = false := by simp; omega
    by_cases s5 : n5 ≤ 1048576
    case neg =>
      have d5 : decide ((1048576 : Int) < (n5 : Int)) = true := by simp; omega
      clear r0 r1 r2 r3 r4 r5 r6 hss iv ip k1 z0 z1 z2 z3 z4 z5 z6
      go_wp2_with fail
      go_ret
      exact ⟨rfl, HK.out⟩
    have d5 : decide ((1048576 : Int) < (n5 : Int)) = false := by simp; omega
    by_cases s6 : n6 ≤ 1048576
    case neg =>
      have d6 : decide ((1048576 : Int) < (n6 : Int)) = true := by simp; omega
      clear r0 r1 r2 r3 r4 r5 r6 hss iv ip k1 z0 z1 z2 z3 z4 z5 z6
      go_wp2_with fail
      go_ret
      exact ⟨rfl, HK.out⟩
    have d6 : decide ((1048576 : Int) < (n6 : Int)) = false := by simp; omega
    by_cases sz : 16 * n0 + 8 * n1 + 8 * n2 + 4 * (n3 + n4 + n5 + n6) ≤ 1048576
    case neg =>
      clear r0 r1 r2 r3 r4 r5 r6 hss iv ip k1 z0 z1 z2 z3 z4 z5 z6
      go_wp2_with fail
      go_ret
      exact ⟨rfl, HK.out⟩
    clear m0 m1 m2 m3 m4 m5 m6
    go_wp2_with fail
    go_loop [15, 16] (fun v i => ∃ (k : Nat) (z : Int), k ≤ n0 ∧ i = .int .i64 k ∧ v = .int .i64 z) (fun _ i => n0 - (intOf i).toNat)
    case atStart => exact ⟨0, _, Nat.zero_le _, rfl, rfl⟩
    case round =>
      obtain ⟨k, z, hk, rfl, rfl⟩ := hrel
      by_cases hlt : k < n0
      · obtain ⟨b0, o0, rfl, hc⟩ := (r0.kept k1).at ByteArray.empty hlt
        have hck := hc k hlt
        have hsk := hss k
        clear hc r0 hss r1 r2 r3 r4 r5 r6 iv ip k1
        generalize ss.getD k ByteArray.empty = s at *
        go_wp2_with fail
        · go_ret
          exact ⟨rfl, HK.out⟩
        · go_round
          case rel => exact ⟨k + 1, _, by omega, by go_num, rfl⟩
          case measure => simp [intOf]; omega
      · have hlt' : n0 ≤ k := by omega
        have HS : Hid (∀ k, (ss.getD k ByteArray.empty).size ≤ 9223372036854775807) := hss
        clear hss
        go_wp2_with fail
        refine (dom14 n0 n1 n4 n5 n6 c4 c5 c6 a4 a5 a6 vs us ps _ s0 s1 s4 s5 s6 (r4.kept k1) (r5.kept k1) (r6.kept k1) iv ip).mono ?_
        rintro e w2 ⟨b, rfl, k2, hD⟩
        have kw2 := k1.tr k2
        have HK2 : Hid (Keeps No w w2) := kw2
        cases b with
        | false =>
          clear r0 r1 r2 r3 r4 r5 r6 iv ip k1 k2 kw2 z0 z1 z2 z3 z4 z5 z6 hD
          go_wp2_with fail
          go_ret
          exact ⟨rfl, HK2.out⟩
        | true =>
        have D := hD rfl
        have lv : vs.length = n4 := by simpa using r4.1
        have lu : us.length = n5 := by simpa using r5.1
        have lp : ps.length = n6 := by simpa using r6.1
        obtain rfl : n5 = n4 := by have := D.ul; omega
        obtain rfl : n6 = n0 := by have := D.pl; omega
        have HD : Hid (FDom n6 n1 vs us ps) := D
        have LV : Hid (vs.length = n5) := lv
        have LU : Hid (us.length = n5) := lu
        clear hD D k1 k2 lv lu lp d0 d1 d2 d3 d4 d5 d6 s4 HK
        go_wp2_with fail
        refine (cloneStr a0 n6 c0 ss _ s6 z0 (r0.kept kw2)).mono ?_
        rintro e w3 ⟨b0, rfl, C0, k3, y0⟩
        have kw3 := kw2.tr k3
        clear kw2
        go_wp2_with fail
        refine (cloneInt a1 n1 c1 ls _ s1 z1 (r1.kept kw3)).mono ?_
        rintro e w4 ⟨b1, rfl, C1, k4, y1⟩
        have kw4 := kw3.tr k4
        have C0 := C0.kept k4
        clear kw3
        go_wp2_with fail
        refine (cloneI64 a2 n2 c2 cs _ s2 z2 (r2.kept kw4)).mono ?_
        rintro e w5 ⟨b2, rfl, C2, k5, y2⟩
        have kw5 := kw4.tr k5
        have C0 := C0.kept k5
        have C1 := C1.kept k5
        clear kw4
        go_wp2_with fail
        refine (cloneI32 a3 n3 c3 sts _ s3 z3 (r3.kept kw5)).mono ?_
        rintro e w6 ⟨b3, rfl, C3, k6, y3⟩
        have kw6 := kw5.tr k6
        have C0 := C0.kept k6
        have C1 := C1.kept k6
        have C2 := C2.kept k6
        clear kw5
        go_wp2_with fail
        refine (cloneI32 a4 n5 c4 vs _ s5 z4 (r4.kept kw6)).mono ?_
        rintro e w7 ⟨b4, rfl, C4, k7, y4⟩
        have kw7 := kw6.tr k7
        have C0 := C0.kept k7
        have C1 := C1.kept k7
        have C2 := C2.kept k7
        have C3 := C3.kept k7
        clear kw6
        go_wp2_with fail
        refine (cloneI32 a5 n5 c5 us _ s5 z5 (r5.kept kw7)).mono ?_
        rintro e w8 ⟨b5, rfl, C5, k8, y5⟩
        have kw8 := kw7.tr k8
        have C0 := C0.kept k8
        have C1 := C1.kept k8
        have C2 := C2.kept k8
        have C3 := C3.kept k8
        have C4 := C4.kept k8
        clear kw7
        go_wp2_with fail
        refine (cloneI32 a6 n6 c6 ps _ s6 z6 (r6.kept kw8)).mono ?_
        rintro e w9 ⟨b6, rfl, C6, k9, y6⟩
        have kw9 := kw8.tr k9
        have C0 := C0.kept k9
        have C1 := C1.kept k9
        have C2 := C2.kept k9
        have C3 := C3.kept k9
        have C4 := C4.kept k9
        have C5 := C5.kept k9
        clear kw8
        clear r0 r1 r2 r3 r4 r5 r6
        go_wp2_with fail
        refine (cloneInt b1 n1 n1 ls _ s1 (fun h => z1 (y1.1 h)) C1.rd).mono ?_
        rintro e w10 ⟨d1, rfl, E1, k10, x1⟩
        have kw10 := kw9.tr k10
        have C0 := C0.kept k10
        have C1 := C1.kept k10
        have C2 := C2.kept k10
        have C3 := C3.kept k10
        have C4 := C4.kept k10
        have C5 := C5.kept k10
        have C6 := C6.kept k10
        clear kw9 k10
        go_wp2_with fail
        refine (cloneI64 b2 n2 n2 cs _ s2 (fun h => z2 (y2.1 h)) C2.rd).mono ?_
        rintro e w11 ⟨d2, rfl, E2, k11, x2⟩
        have kw11 := kw10.tr k11
        have C0 := C0.kept k11
        have C1 := C1.kept k11
        have C2 := C2.kept k11
        have C3 := C3.kept k11
        have C4 := C4.kept k11
        have C5 := C5.kept k11
        have C6 := C6.kept k11
        have E1 := E1.kept k11
        clear kw10 k11
        go_wp2_with fail
        refine (cloneI32 b3 n3 n3 sts _ s3 (fun h => z3 (y3.1 h)) C3.rd).mono ?_
        rintro e w12 ⟨d3, rfl, E3, k12, x3⟩
        have kw12 := kw11.tr k12
        have C0 := C0.kept k12
        have C1 := C1.kept k12
        have C2 := C2.kept k12
        have C3 := C3.kept k12
        have C4 := C4.kept k12
        have C5 := C5.kept k12
        have C6 := C6.kept k12
        have E1 := E1.kept k12
        have E2 := E2.kept k12
        clear kw11 k12
        go_wp2_with fail
        refine (zz18 n6 n1 n2 n3 n5 n6 n1 n2 n3 n5 n5 n6 b0 d1 d2 d3 b4 b5 b6 ss vs us ps _ s6 s1 s5 C0.rd C4.rd C5.rd C6.rd iv ip HD.out).mono ?_
        rintro e w13 ⟨g0, g4, g5, NN, cv, cu, rfl, h0A, hNN, hvA, hFV, huA, hFU, k13⟩
        have kw13 := kw12.tr k13
        have C0 := C0.kept k13
        have C1 := C1.kept k13
        have C2 := C2.kept k13
        have C3 := C3.kept k13
        have C4 := C4.kept k13
        have C5 := C5.kept k13
        have C6 := C6.kept k13
        have E1 := E1.kept k13
        have E2 := E2.kept k13
        have E3 := E3.kept k13
        obtain rfl := fill_all hFU LU.out
        have HNN : Hid _ := hNN
        have HFV : Hid _ := hFV
        clear kw12 k13 hNN hFV hFU
        go_wp2_with (go_at_call 12; refine (sameI32 (some ⟨g5, 0, none⟩) b5 n5 n5 n5 us _ s5 (huA.rd (by simp [LU.out])) C5.rd).mono ?_; rintro e w14 ⟨rfl, k14⟩)
        have kw14 : Hid _ := kw13.tr k14
        have R0 := (C0.kept k14).rd
        have R4 := (C4.kept k14).rd
        have R6 := (C6.kept k14).rd
        have h0A := h0A.kept k14
        have hvA := hvA.kept k14
        clear C0 C1 C2 C3 C4 C5 C6 E1 E2 E3 k14 kw13 huA z0 z1 z2 z3 z4 z5 z6 y0 y1 y2 y3 y4 y5 y6 x1 x2 x3
        go_loopw [24] (fun i wr => ∃ x q : Nat, x ≤ n5 ∧ i = .int .i64 x ∧ wr = w14.drewN q) (fun i _ => n5 - (intOf i).toNat)
        case atStart => exact ⟨0, 0, Nat.zero_le _, rfl, rfl⟩
        case round =>
          obtain ⟨x, dn, hx, rfl, rfl⟩ := hrel
          by_cases hlt : x < n5
          · obtain ⟨g4b, o4, rfl, hc4⟩ := R4.at 0 hlt
            have hcx := hc4 x hlt
            have hcv := hvA.cell (HFV.out.2 x hlt)
            have hb := iv.get x
            have hP : vs.getD x 0 = at' vs x := rfl
            rw [hP] at hcx hb
            clear hc4 hP
            by_cases hneg : at' vs x < 0
            · have hnv : newVal n1 ps (at' vs x) = at' vs x := if_pos hneg
              simp only [hnv] at hcv
              clear hnv R0 R4 R6 h0A hvA iv ip
              generalize at' vs x = v at *
              go_wp2_with fail
              go_roundw
              case rel => exact ⟨x + 1, _, by omega, by go_num, rfl⟩
              case measure => simp [intOf]; omega
            · obtain ⟨q, hq⟩ : ∃ q : Nat, at' vs x = (q : Int) := ⟨(at' vs x).toNat, by omega⟩
              have hql : q < n6 := by have := HD.out.vb x (by rw [LV.out]; exact hlt) (by omega); omega
              have hnv : newVal n1 ps (at' vs x) = (ren n1 ps q : Nat) := by unfold newVal; rw [if_neg hneg, hq, Int.toNat_natCast]
              simp only [hnv] at hcv
              have hrl := ren_lt HD.out hql
              have hon := h0A.cell (HNN.out.2 q hql)
              obtain ⟨g0b, o0, rfl, hc0⟩ := R0.at ByteArray.empty hql
              have hcn := hc0 q hql
              rw [hq] at hcx hb
              clear hnv R0 R4 R6 h0A hvA iv ip hc0 hq hneg
              generalize ss.getD q ByteArray.empty = sq at *
              generalize ren n1 ps q = r at *
              go_wp2_with fail
              go_quiet (fail)
              go_wp2_with fail
              go_roundw
              case rel => exact ⟨x + 1, _, by omega, by go_num, rfl⟩
              case measure => simp [intOf]; omega
          · clear R4 hvA iv
            go_wp2_with fail
            go_loopw [27] (fun i wr => ∃ y q : Nat, y ≤ n6 ∧ i = .int .i64 y ∧ wr = w14.drewN q) (fun i _ => n6 - (intOf i).toNat)
            case atStart => exact ⟨0, dn, Nat.zero_le _, rfl, rfl⟩
            case round =>
              obtain ⟨y, en, hy, rfl, rfl⟩ := hrel
              by_cases hlt : y < n6
              · obtain ⟨g6b, o6, rfl, hc6⟩ := R6.at 0 hlt
                have hcy := hc6 y hlt
                have hb := ip.get y
                have hP : ps.getD y 0 = at' ps y := rfl
                rw [hP] at hcy hb
                clear hc6 hP
                by_cases hneg : at' ps y < 0
                · have hd : decide ((0 : Int) ≤ at' ps y) = false := by simp; omega
                  clear R0 R6 h0A ip
                  generalize at' ps y = v at *
                  go_wp2_with fail
                  go_quiet (fail)
                  go_wp2_with fail
                  go_roundw
                  case rel => exact ⟨y + 1, _, by omega, by go_num, rfl⟩
                  case measure => simp [intOf]; omega
                · obtain ⟨q, hq⟩ : ∃ q : Nat, at' ps y = (q : Int) := ⟨(at' ps y).toNat, by omega⟩
                  have hrn : ren n1 ps y = q := by unfold ren; rw [if_neg hneg, hq, Int.toNat_natCast]
                  have hrl := ren_lt HD.out hlt
                  have hon := h0A.cell (HNN.out.2 y hlt)
                  rw [hrn] at hrl hon
                  obtain ⟨g0b, o0, rfl, hc0⟩ := R0.at ByteArray.empty hlt
                  have hcn := hc0 y hlt
                  rw [hq] at hcy hb
                  clear R0 R6 h0A ip hc0 hq hneg hrn
                  generalize ss.getD y ByteArray.empty = sq at *
                  go_wp2_with fail
                  go_quiet (fail)
                  go_wp2_with fail
                  go_roundw
                  case rel => exact ⟨y + 1, _, by omega, by go_num, rfl⟩
                  case measure => simp [intOf]; omega
              · go_wp2_with fail
                go_ret
                exact ⟨rfl, Keeps.drewN kw14.out _⟩
end Go.Proofs.Qxb6603867a
