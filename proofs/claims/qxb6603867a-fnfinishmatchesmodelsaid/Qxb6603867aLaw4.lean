import Derived.Test.Qxb6603867aShare
namespace Go.Proofs.Qxb6603867a
open Go.RowKit Plf
set_option maxRecDepth 100000 in
set_option maxHeartbeats 4000000 in
theorem law4 (a0 a1 a2 a3 a4 a5 a6 : Option Addr) (n0 n1 n2 n3 n4 n5 n6 c0 c1 c2 c3 c4 c5 c6 : Nat) (ss : List ByteArray) (ls cs : List Int) (sts vs us ps : List Int) (w : World)
    (m0 : n0 ≤ 9223372036854775807) (m1 : n1 ≤ 9223372036854775807) (m2 : n2 ≤ 9223372036854775807) (m3 : n3 ≤ 9223372036854775807) (m4 : n4 ≤ 9223372036854775807) (m5 : n5 ≤ 9223372036854775807) (m6 : n6 ≤ 9223372036854775807)
    (z0 : a0 = none → n0 = 0) (z1 : a1 = none → n1 = 0) (z2 : a2 = none → n2 = 0) (z3 : a3 = none → n3 = 0) (z4 : a4 = none → n4 = 0) (z5 : a5 = none → n5 = 0) (z6 : a6 = none → n6 = 0)
    (r0 : Rd w a0 n0 (ss.map Value.string)) (r1 : Rd w a1 n1 (ls.map (Value.int .i64))) (r2 : Rd w a2 n2 (cs.map (Value.int .i64))) (r3 : Rd w a3 n3 (sts.map (Value.int .i32))) (r4 : Rd w a4 n4 (vs.map (Value.int .i32)))
    (r5 : Rd w a5 n5 (us.map (Value.int .i32))) (r6 : Rd w a6 n6 (ps.map (Value.int .i32))) (hss : ∀ k, (ss.getD k ByteArray.empty).size ≤ 9223372036854775807) (iv : I32 vs) (ip : I32 ps) :
    Calls Try.prog 4 #[.slice a0 n0 c0, .slice a1 n1 c1, .slice a2 n2 c2, .slice a3 n3 c3, .slice a4 n4 c4, .slice a5 n5 c5, .slice a6 n6 c6] w (LawPost w) := by
  go_enter Try.func4, Try.ntmps4
  go_wp2_with fail
  refine (bytes13 a0 a1 a2 a3 a4 a5 a6 n0 n1 n2 n3 n4 n5 n6 c0 c1 c2 c3 c4 c5 c6 ss _ m0 m1 m2 m3 m4 m5 m6 r0 hss).mono ?_
  rintro e w1 ⟨b, rfl, k1⟩
  have HK : Hid (Keeps No w w1) := k1
  cases b with
  | false =>
    clear r0 r1 r2 r3 r4 r5 r6 hss iv ip k1 z0 z1 z2 z3 z4 z5 z6
    go_wp2_with fail
    go_ret
    exact ⟨rfl, HK.out⟩
  | true =>
    by_cases s0 : n0 ≤ 1048576
    case neg =>
      have d0 : decide ((1048576 : Int) < (n0 : Int)) = true := by simp; omega
      clear r0 r1 r2 r3 r4 r5 r6 hss iv ip k1 z0 z1 z2 z3 z4 z5 z6
      go_wp2_with fail
      go_ret
      exact ⟨rfl, HK.out⟩
    have d0 : decide ((1048576 : Int) < (n0 : Int)) = false := by simp; omega
    by_cases s1 : n1 ≤ 1048576
    case neg =>
      have d1 : decide ((1048576 : Int) < (n1 : Int)) = true := by simp; omega
      clear r0 r1 r2 r3 r4 r5 r6 hss iv ip k1 z0 z1 z2 z3 z4 z5 z6
      go_wp2_with fail
      go_ret
      exact ⟨rfl, HK.out⟩
    have d1 : decide ((1048576 : Int) < (n1 : Int)) = false := by simp; omega
    by_cases s2 : n2 ≤ 1048576
    case neg =>
      have d2 : decide ((1048576 : Int) < (n2 : Int)) = true := by simp; omega
      clear r0 r1 r2 r3 r4 r5 r6 hss iv ip k1 z0 z1 z2 z3 z4 z5 z6
      go_wp2_with fail
      go_ret
      exact ⟨rfl, HK.out⟩
    have d2 : decide ((1048576 : Int) < (n2 : Int)) = false := by simp; omega
    by_cases s3 : n3 ≤ 1048576
    case neg =>
      have d3 : decide ((1048576 : Int) < (n3 : Int)) = true := by simp; omega
      clear r0 r1 r2 r3 r4 r5 r6 hss iv ip k1 z0 z1 z2 z3 z4 z5 z6
      go_wp2_with fail
      go_ret
      exact ⟨rfl, HK.out⟩
    have d3 : decide ((1048576 : Int) < (n3 : Int)) = false := by simp; omega
    by_cases s4 : n4 ≤ 1048576
    case neg =>
      have d4 : decide ((1048576 : Int) < (n4 : Int)) = true := by simp; omega
      clear r0 r1 r2 r3 r4 r5 r6 hss iv ip k1 z0 z1 z2 z3 z4 z5 z6
      go_wp2_with fail
      go_ret
      exact ⟨rfl, HK.out⟩
    have d4 : decide ((1048576 : Int) < (n4 : Int)) = false := by simp; omega
    by_cases s5 : n5 ≤ 1048576
    case neg =>
      have d5 : decide ((1048576 : Int) < (n5 : Int)) = true := by simp; omega
      clear r0 r1 r2 r3 r4 r5 r6 hss iv ip k1 z0 z1 z2 z3 z4 z5 z6
      go_wp2_with fail
      go_ret
      exact ⟨rfl, HK.out⟩
    have d5 : decide ((1048576 : Int) < (n5 : Int)) = false := by simp; omega
    by_cases s6 : n6 ≤ 1048576
    case neg =>
      have d6 : decide ((1048576 : Int) < (n6 : Int)) = true := by simp; omega
      clear r0 r1 r2 r3 r4 r5 r6 hss iv ip k1 z0 z1 z2 z3 z4 z5 z6
      go_wp2_with fail
      go_ret
      exact ⟨rfl, HK.out⟩
    have d6 : decide ((1048576 : Int) < (n6 : Int)) = false := by simp; omega
    by_cases sz : 16 * n0 + 8 * n1 + 8 * n2 + 4 * (n3 + n4 + n5 + n6) ≤ 1048576
    case neg =>
      clear r0 r1 r2 r3 r4 r5 r6 hss iv ip k1 z0 z1 z2 z3 z4 z5 z6
      go_wp2_with fail
      go_ret
      exact ⟨rfl, HK.out⟩
    clear m0 m1 m2 m3 m4 m5 m6
    go_wp2_with fail
    go_loop [15, 16] (fun v i => ∃ (k : Nat) (z : Int), k ≤ n0 ∧ i = .int .i64 k ∧ v = .int .i64 z) (fun _ i => n0 - (intOf i).toNat)
    case atStart => exact ⟨0, _, Nat.zero_le _, rfl, rfl⟩
    case round =>
      obtain ⟨k, z, hk, rfl, rfl⟩ := hrel
      by_cases hlt : k < n0
      · obtain ⟨b0, o0, rfl, hc⟩ := (r0.kept k1).at ByteArray.empty hlt
        have hck := hc k hlt
        have hsk := hss k
        clear hc r0 hss r1 r2 r3 r4 r5 r6 iv ip k1
        generalize ss.getD k ByteArray.empty = s at *
        go_wp2_with fail
        · go_ret
          exact ⟨rfl, HK.out⟩
        · go_round
          case rel => exact ⟨k + 1, _, by omega, by go_num, rfl⟩
          case measure => simp [intOf]; omega
      · have hlt' : n0 ≤ k := by omega
        have HS : Hid (∀ k, (ss.getD k ByteArray.empty).size ≤ 9223372036854775807) := hss
        clear hss
        go_wp2_with fail
        refine (dom14 n0 n1 n4 n5 n6 c4 c5 c6 a4 a5 a6 vs us ps _ s0 s1 s4 s5 s6 (r4.kept k1) (r5.kept k1) (r6.kept k1) iv ip).mono ?_
        rintro e w2 ⟨b, rfl, k2, hD⟩
        have kw2 := k1.tr k2
        have HK2 : Hid (Keeps No w w2) := kw2
        cases b with
        | false =>
          clear r0 r1 r2 r3 r4 r5 r6 iv ip k1 k2 kw2 z0 z1 z2 z3 z4 z5 z6 hD
          go_wp2_with fail
          go_ret
          exact ⟨rfl, HK2.out⟩
        | true =>
        have D := hD rfl
        have lv : vs.length = n4 := by simpa using r4.1
        have lu : us.length = n5 := by simpa using r5.1
        have lp : ps.length = n6 := by simpa using r6.1
        obtain rfl : n5 = n4 := by have := D.ul; omega
        obtain rfl : n6 = n0 := by have := D.pl; omega
        have HD : Hid (FDom n6 n1 vs us ps) := D
        have LV : Hid (vs.length = n5) := lv
        have LU : Hid (us.length = n5) := lu
        clear hD D k1 k2 lv lu lp d0 d1 d2 d3 d4 d5 d6 s4 HK
        go_wp2_with fail
        refine (cloneStr a0 n6 c0 ss _ s6 z0 (r0.kept kw2)).mono ?_
        rintro e w3 ⟨b0, rfl, C0, k3, y0⟩
        have kw3 := kw2.tr k3
        clear kw2
        go_wp2_with fail
        refine (cloneInt a1 n1 c1 ls _ s1 z1 (r1.kept kw3)).mono ?_
        rintro e w4 ⟨b1, rfl, C1, k4, y1⟩
        have kw4 := kw3.tr k4
        have C0 := C0.kept k4
        clear kw3
        go_wp2_with fail
        refine (cloneI64 a2 n2 c2 cs _ s2 z2 (r2.kept kw4)).mono ?_
        rintro e w5 ⟨b2, rfl, C2, k5, y2⟩
        have kw5 := kw4.tr k5
        have C0 := C0.kept k5
        have C1 := C1.kept k5
        clear kw4
        go_wp2_with fail
        refine (cloneI32 a3 n3 c3 sts _ s3 z3 (r3.kept kw5)).mono ?_
        rintro e w6 ⟨b3, rfl, C3, k6, y3⟩
        have kw6 := kw5.tr k6
        have C0 := C0.kept k6
        have C1 := C1.kept k6
        have C2 := C2.kept k6
        clear kw5
        go_wp2_with fail
        refine (cloneI32 a4 n5 c4 vs _ s5 z4 (r4.kept kw6)).mono ?_
        rintro e w7 ⟨b4, rfl, C4, k7, y4⟩
        have kw7 := kw6.tr k7
        have C0 := C0.kept k7
        have C1 := C1.kept k7
        have C2 := C2.kept k7
        have C3 := C3.kept k7
        clear kw6
        go_wp2_with fail
        refine (cloneI32 a5 n5 c5 us _ s5 z5 (r5.kept kw7)).mono ?_
        rintro e w8 ⟨b5, rfl, C5, k8, y5⟩
        have kw8 := kw7.tr k8
        have C0 := C0.kept k8
        have C1 := C1.kept k8
        have C2 := C2.kept k8
        have C3 := C3.kept k8
        have C4 := C4.kept k8
        clear kw7
        go_wp2_with fail
        refine (cloneI32 a6 n6 c6 ps _ s6 z6 (r6.kept kw8)).mono ?_
        rintro e w9 ⟨b6, rfl, C6, k9, y6⟩
        have kw9 := kw8.tr k9
        have C0 := C0.kept k9
        have C1 := C1.kept k9
        have C2 := C2.kept k9
        have C3 := C3.kept k9
        have C4 := C4.kept k9
        have C5 := C5.kept k9
        clear kw8
        clear r0 r1 r2 r3 r4 r5 r6
        go_wp2_with fail
        refine (cloneInt b1 n1 n1 ls _ s1 (fun h => z1 (y1.1 h)) C1.rd).mono ?_
        rintro e w10 ⟨d1, rfl, E1, k10, x1⟩
        have kw10 := kw9.tr k10
        have C0 := C0.kept k10
        have C1 := C1.kept k10
        have C2 := C2.kept k10
        have C3 := C3.kept k10
        have C4 := C4.kept k10
        have C5 := C5.kept k10
        have C6 := C6.kept k10
        clear kw9 k10
        go_wp2_with fail
        refine (cloneI64 b2 n2 n2 cs _ s2 (fun h => z2 (y2.1 h)) C2.rd).mono ?_
        rintro e w11 ⟨d2, rfl, E2, k11, x2⟩
        have kw11 := kw10.tr k11
        have C0 := C0.kept k11
        have C1 := C1.kept k11
        have C2 := C2.kept k11
        have C3 := C3.kept k11
        have C4 := C4.kept k11
        have C5 := C5.kept k11
        have C6 := C6.kept k11
        have E1 := E1.kept k11
        clear kw10 k11
        go_wp2_with fail
        refine (cloneI32 b3 n3 n3 sts _ s3 (fun h => z3 (y3.1 h)) C3.rd).mono ?_
        rintro e w12 ⟨d3, rfl, E3, k12, x3⟩
        have kw12 := kw11.tr k12
        have C0 := C0.kept k12
        have C1 := C1.kept k12
        have C2 := C2.kept k12
        have C3 := C3.kept k12
        have C4 := C4.kept k12
        have C5 := C5.kept k12
        have C6 := C6.kept k12
        have E1 := E1.kept k12
        have E2 := E2.kept k12
        clear kw11 k12
        go_wp2_with fail
        refine (zz18 n6 n1 n2 n3 n5 n6 n1 n2 n3 n5 n5 n6 b0 d1 d2 d3 b4 b5 b6 ss vs us ps _ s6 s1 s5 C0.rd C4.rd C5.rd C6.rd iv ip HD.out).mono ?_
        rintro e w13 ⟨g0, g4, g5, NN, cv, cu, rfl, h0A, hNN, hvA, hFV, huA, hFU, k13⟩
        have kw13 := kw12.tr k13
        have C0 := C0.kept k13
        have C1 := C1.kept k13
        have C2 := C2.kept k13
        have C3 := C3.kept k13
        have C4 := C4.kept k13
        have C5 := C5.kept k13
        have C6 := C6.kept k13
        have E1 := E1.kept k13
        have E2 := E2.kept k13
        have E3 := E3.kept k13
        obtain rfl := fill_all hFU LU.out
        have HNN : Hid _ := hNN
        have HFV : Hid _ := hFV
        clear kw12 k13 hNN hFV hFU
        have hx2 : d2.isNone = b2.isNone := by
          cases d2 with
          | none => rw [x2.1 rfl]
          | some u => cases b2 with
            | none => exact absurd (x2.2 rfl) (by simp)
            | some u' => rfl
        obtain ⟨bn, hbn⟩ : ∃ bn : Bool, b2.isNone = bn := ⟨_, rfl⟩
        have hnl1 := fun wx => Lib.run_eql_slice_nil (P := Try.prog) wx 32 2 d2 n2 n2 0 0 Try.underlying32
        have hnl2 := fun wx => Lib.run_eql_slice_nil (P := Try.prog) wx 32 2 b2 n2 n2 0 0 Try.underlying32
        rw [hx2, hbn] at hnl1
        rw [hbn] at hnl2
        clear hx2 hbn x1 x2 x3 y0 y1 y2 y3 y4 y5 y6 z0 z1 z2 z3 z4 z5 z6
        go_wp2_with fail
        refine (sameInt d1 b1 n1 n1 n1 ls _ s1 E1.rd C1.rd).mono ?_
        rintro e w14 ⟨rfl, k14⟩
        have E2 := (E2.kept k14).rd
        have C2 := (C2.kept k14).rd
        go_wp2_with fail
        refine (sameI64 d2 b2 n2 n2 n2 cs _ s2 E2 C2).mono ?_
        rintro e w15 ⟨rfl, k15⟩
        have E3 := ((E3.kept k14).kept k15).rd
        have C3 := ((C3.kept k14).kept k15).rd
        go_wp2_with fail
        refine (sameI32 d3 b3 n3 n3 n3 sts _ s3 E3 C3).mono ?_
        rintro e w16 ⟨rfl, k16⟩
        have k1416 := (k14.tr k15).tr k16
        have kw16 := kw13.tr k1416
        have R0 := (C0.kept k1416).rd
        have R4 := (C4.kept k1416).rd
        have R5 := (C5.kept k1416).rd
        have R6 := (C6.kept k1416).rd
        have h0A := h0A.kept k1416
        have hvA := hvA.kept k1416
        have huR := (huA.kept k1416).rd (n := n5) (by simp [LU.out])
        clear C0 C1 C2 C3 C4 C5 C6 E1 E2 E3 k14 k15 k16 k1416 kw13 huA hnl1 hnl2
        obtain ⟨i0, hi, hz0, hz1, hz2⟩ := info_parts Try.info3
        go_wp2_with (at_make; refine wpList_make_at _ rfl (.tmp 183) (.tmp 183) 31 rfl 3 i0 (.int .i64 0) 1 8 Try.underlying31 hi hz0 hz1 hz2 .i64 .i64 _ _ n6 rfl rfl rfl rfl (by omega) (by omega) ?_)
        intro w17 scs hsl _ hsA k17 hs17
        have HS0 : Hid (SrcTo n6 n1 ps 0 scs) := ⟨by omega, fun j h => absurd h (by omega)⟩
        have lG := kw16.size
        obtain ⟨G, hG⟩ : ∃ g, g = w16.heap.size := ⟨_, rfl⟩
        rw [← hG] at hsA lG ⊢
        have HG : Hid (G = w16.heap.size) := hG
        clear hG hs17 hsl
        go_wp2_with fail
        go_loopw [26, 27] (fun qv i wr => ∃ (y : Nat) (scs : List Value), y ≤ n6 ∧ i = .int .i64 y ∧ qv = .int .i64 (nx n1 ps y : Nat) ∧ At wr G 3 scs ∧ SrcTo n6 n1 ps y scs ∧ Keeps No w16 wr) (fun _ i _ => n6 - (intOf i).toNat)
        case atStart => exact ⟨0, scs, Nat.zero_le _, rfl, rfl, hsA, HS0.out, k17⟩
        case round =>
          clear HS0 hsA k17
          obtain ⟨y, scs, hy, rfl, rfl, hsA, hST, kr⟩ := hrel
          have hxl := nx_le HD.out hy
          by_cases hlt : y < n6
          · obtain ⟨g6b, o6, rfl, hc6⟩ := (R6.kept kr).at 0 hlt
            have hcy := hc6 y hlt
            have hb := ip.get y
            have hP : ps.getD y 0 = at' ps y := rfl
            rw [hP] at hcy hb
            have hrn := ren_lt HD.out hlt
            obtain ⟨v1, hv1⟩ := at_get hST.1 hrn
            have q1 := hsA.cell hv1
            have f1 := hsA.frozen (ren n1 ps y)
            have HQ : Hid (∀ r, ren n1 ps y = r → At (wr.setCell ⟨G, r, none⟩ (.int .i64 (y : Nat))) G 3 (scs.set r (.int .i64 (y : Nat))) ∧ SrcTo n6 n1 ps (y + 1) (scs.set r (.int .i64 (y : Nat))) ∧ Keeps No w16 (wr.setCell ⟨G, r, none⟩ (.int .i64 (y : Nat)))) :=
              fun r hr => ⟨hsA.set r _, srcTo_step HD.out hST hlt hr, kr.setCell (fun h => absurd h (by rw [HG.out]; exact Nat.lt_irrefl _)) _⟩
            clear hc6 hP hv1 hST hsA kr R0 R4 R5 R6 h0A hvA huR iv ip kw16
            by_cases hneg : at' ps y < 0
            · have hren : ren n1 ps y = nx n1 ps y := if_pos hneg
              have HN : Hid (nx n1 ps (y + 1) = nx n1 ps y + 1) := nx_succ_neg hneg
              have HQ' : Hid _ := HQ.out _ hren
              rw [hren] at q1 f1 hrn
              clear HQ hren
              generalize at' ps y = p at *
              generalize nx n1 ps y = r at *
              go_wp2_with fail
              go_roundw
              case rel => exact ⟨y + 1, _, by omega, by go_num, by rw [HN.out]; go_num, HQ'.out.1, HQ'.out.2.1, HQ'.out.2.2⟩
              case measure => simp [intOf]; omega
            · have hren : ren n1 ps y = (at' ps y).toNat := if_neg hneg
              have HN : Hid (nx n1 ps (y + 1) = nx n1 ps y) := nx_succ_pos (by omega)
              obtain ⟨r, hr⟩ : ∃ r : Nat, at' ps y = (r : Int) := ⟨(at' ps y).toNat, by omega⟩
              rw [hr, Int.toNat_natCast] at hren
              have HQ' : Hid _ := HQ.out _ hren
              rw [hren] at q1 f1 hrn
              rw [hr] at hcy hb
              clear HQ hren hr hneg
              generalize nx n1 ps y = t at *
              go_wp2_with fail
              go_roundw
              case rel => exact ⟨y + 1, _, by omega, by go_num, by rw [HN.out], HQ'.out.1, HQ'.out.2.1, HQ'.out.2.2⟩
              case measure => simp [intOf]; omega
          · obtain rfl : y = n6 := by omega
            have HST : Hid _ := hST
            have kwr := kw16.tr kr
            have R0 := R0.kept kr
            have R4 := R4.kept kr
            have R5 := R5.kept kr
            have h0A := h0A.kept kr
            have hvA := hvA.kept kr
            have huR := huR.kept kr
            clear hST R6 kr kw16 ip
            go_wp2_with fail
            obtain ⟨wo, rfl⟩ : ∃ wo : World, wo = wr := ⟨_, rfl⟩
            go_loopw [28] (fun i wr => ∃ x q : Nat, x ≤ y ∧ i = .int .i64 x ∧ wr = wo.drewN q) (fun i _ => y - (intOf i).toNat)
            case atStart => exact ⟨0, 0, Nat.zero_le _, rfl, rfl⟩
            case round =>
              obtain ⟨x, dn, hx, rfl, rfl⟩ := hrel
              by_cases hlt : x < y
              · obtain ⟨q, hql, hqr⟩ := ren_onto HD.out hlt
                have hon := h0A.cell (HNN.out.2 q hql)
                have hsc := hsA.cell (HST.out.2 q hql)
                obtain ⟨g0b, o0, rfl, hc0⟩ := R0.at ByteArray.empty hql
                have hcn := hc0 q hql
                rw [hqr] at hon hsc
                clear R0 R4 R5 h0A hvA huR iv hc0 hqr hsA
                generalize ss.getD q ByteArray.empty = sq at *
                go_wp2_with fail
                go_quiet (fail)
                go_wp2_with fail
                go_roundw
                case rel => exact ⟨x + 1, _, by omega, by go_num, rfl⟩
                case measure => simp [intOf]; omega
              · have kd := (Keeps.refl No wo).drewN dn
                go_wp2_with fail
                refine (sameI32 (some ⟨g5, 0, none⟩) b5 n5 n5 n5 us _ s5 (huR.kept kd) (R5.kept kd)).mono ?_
                rintro e w20 ⟨rfl, k20⟩
                have kd := kd.tr k20
                have KW : Hid _ := kwr.tr kd
                have R4 := R4.kept kd
                have hvA := hvA.kept kd
                have hsA := hsA.kept kd
                clear R0 R5 h0A huR kwr kd k20
                go_wp2_with fail
                go_loop [29] (fun i => ∃ t : Nat, t ≤ n5 ∧ i = .int .i64 t) (fun i => n5 - (intOf i).toNat)
                case atStart => exact ⟨0, Nat.zero_le _, rfl⟩
                case round =>
                  obtain ⟨t, ht, rfl⟩ := hrel
                  by_cases hlt2 : t < n5
                  · obtain ⟨g4b, o4, rfl, hc4⟩ := R4.at 0 hlt2
                    have hcx := hc4 t hlt2
                    have hcv := hvA.cell (HFV.out.2 t hlt2)
                    have hb := iv.get t
                    have hP : vs.getD t 0 = at' vs t := rfl
                    rw [hP] at hcx hb
                    clear hc4 hP
                    by_cases hneg : at' vs t < 0
                    · have hnv : newVal n1 ps (at' vs t) = at' vs t := if_pos hneg
                      simp only [hnv] at hcv
                      clear hnv R4 hvA hsA iv
                      generalize at' vs t = v at *
                      go_wp2_with fail
                      go_round
                      case rel => exact ⟨t + 1, by omega, by go_num⟩
                      case measure => simp [intOf]; omega
                    · obtain ⟨q, hq⟩ : ∃ q : Nat, at' vs t = (q : Int) := ⟨(at' vs t).toNat, by omega⟩
                      have hql : q < y := by have := HD.out.vb t (by rw [LV.out]; exact hlt2) (by omega); omega
                      have hnv : newVal n1 ps (at' vs t) = (ren n1 ps q : Nat) := by unfold newVal; rw [if_neg hneg, hq, Int.toNat_natCast]
                      simp only [hnv] at hcv
                      have hrl := ren_lt HD.out hql
                      have hsc := hsA.cell (HST.out.2 q hql)
                      rw [hq] at hcx hb
                      clear hnv R4 hvA hsA iv hq hneg
                      generalize ren n1 ps q = r at *
                      go_wp2_with fail
                      go_round
                      case rel => exact ⟨t + 1, by omega, by go_num⟩
                      case measure => simp [intOf]; omega
                  · go_wp2_with fail
                    go_ret
                    exact ⟨rfl, KW.out⟩
end Go.Proofs.Qxb6603867a
