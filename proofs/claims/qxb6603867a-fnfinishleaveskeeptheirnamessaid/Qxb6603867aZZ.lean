import Derived.Test.Qxb6603867aFinish
namespace Go.Proofs.Qxb6603867a
open Go.RowKit Plf
theorem Try.info67 : (Try.prog.info? 67).map (fun i => (i.zero, i.size, i.bytes)) = some (some (.agg #[.int .i32 0, .int .i32 0]), 2, 8) := by kernel_rfl
def NodesTo (m : Nat) (V U : Nat → Int) (x : Nat) (cs : List Value) : Prop := cs.length = m * 2 ∧ ∀ y, y < x → cs[y * 2]? = some (.int .i32 (V y)) ∧ cs[y * 2 + 1]? = some (.int .i32 (U y))
theorem nodesTo_step {m x : Nat} {V U : Nat → Int} {cs : List Value} (h : NodesTo m V U x cs) (hx : x < m) : NodesTo m V U (x + 1) ((cs.set (x * 2) (.int .i32 (V x))).set (x * 2 + 1) (.int .i32 (U x))) := by
  refine ⟨by simpa using h.1, fun y hy => ?_⟩
  by_cases e : y = x
  · subst e
    exact ⟨by rw [List.getElem?_set_ne (by omega), List.getElem?_set_self (by rw [h.1]; omega)], by rw [List.getElem?_set_self (by simp [h.1]; omega)]⟩
  · rw [List.getElem?_set_ne (by omega), List.getElem?_set_ne (by omega), List.getElem?_set_ne (by omega), List.getElem?_set_ne (by omega)]
    exact h.2 y (by omega)
/-- a row of int32 that is filled up to x -/
def FillTo (m : Nat) (F : Nat → Int) (x : Nat) (cs : List Value) : Prop := cs.length = m ∧ ∀ y, y < x → cs[y]? = some (.int .i32 (F y))
theorem fillTo_step {m x : Nat} {F : Nat → Int} {cs : List Value} (h : FillTo m F x cs) (hx : x < m) : FillTo m F (x + 1) (cs.set x (.int .i32 (F x))) := by
  refine ⟨by simpa using h.1, fun y hy => ?_⟩
  by_cases e : y = x
  · subst e; rw [List.getElem?_set_self (by rw [h.1]; exact hx)]
  · rw [List.getElem?_set_ne (by omega)]; exact h.2 y (by omega)
def ZZPost (w : World) (n0 n1 m : Nat) (x1 x2 x3 : Value) (ss : List ByteArray) (vs us ps : List Int) (e : Ending) (w' : World) : Prop :=
  ∃ (g0 g4 g5 : Nat) (NN cv cu : List Value), e = .returned (.tuple #[.slice (some ⟨g0, 0, none⟩) n0 n0, x1, x2, x3, .slice (some ⟨g4, 0, none⟩) m m, .slice (some ⟨g5, 0, none⟩) m m]) ∧ At w' g0 9 NN ∧ NamesTo n0 n1 ps ss n0 NN ∧
    At w' g4 21 cv ∧ FillTo m (fun i => newVal n1 ps (at' vs i)) m cv ∧ At w' g5 21 cu ∧ FillTo m (at' us) m cu ∧ Keeps No w w'
set_option maxHeartbeats 2000000 in
theorem zz18 (n0 n1 n2 n3 m c0 c1 c2 c3 c4 c5 c6 : Nat) (a0 a1 a2 a3 a4 a5 a6 : Option Addr) (ss : List ByteArray) (vs us ps : List Int) (w : World)
    (hn0 : n0 ≤ 1048576) (hn1 : n1 ≤ 1048576) (hm : m ≤ 1048576) (hr0 : Rd w a0 n0 (ss.map Value.string)) (hr4 : Rd w a4 m (vs.map (Value.int .i32))) (hr5 : Rd w a5 m (us.map (Value.int .i32))) (hr6 : Rd w a6 n0 (ps.map (Value.int .i32)))
    (iv : I32 vs) (ip : I32 ps) (D : FDom n0 n1 vs us ps) :
    Calls Try.prog 18 #[.slice a0 n0 c0, .slice a1 n1 c1, .slice a2 n2 c2, .slice a3 n3 c3, .slice a4 m c4, .slice a5 m c5, .slice a6 n0 c6] w (ZZPost w n0 n1 m (.slice a1 n1 c1) (.slice a2 n2 c2) (.slice a3 n3 c3) ss vs us ps) := by
  obtain ⟨i0, hi, hz0, hz1, hz2⟩ := info_parts Try.info21
  obtain ⟨i7, hi7, hy0, hy1, hy2⟩ := info_parts Try.info67
  have lv : vs.length = m := by simpa using hr4.1
  go_enter Try.func18, Try.ntmps18
  go_wp2_with (at_make; refine wpList_make_at _ rfl (.tmp 34) (.tmp 34) 59 rfl 67 i7 (.agg #[.int .i32 0, .int .i32 0]) 2 8 Try.underlying59 hi7 hy0 hy1 hy2 .i64 .i64 _ _ m rfl rfl rfl rfl (by omega) (by omega) ?_)
  intro w1 ncs hnl hna hk1 hs1
  have hba := (At.new w 65 #[.slice a0 n0 c0, .slice a1 n1 c1, .slice a2 n2 c2, .slice a3 n3 c3, .slice none 0 0, .map none, .slice a6 n0 c6, .slice none 0 0, .map none]).kept hk1
  have hkw : Keeps No w w1 := ((Keeps.refl No w).alloc _).tr hk1
  have HND : Hid (NodesTo m (at' vs) (at' us) 0 ncs) := ⟨hnl, fun y h => absurd h (by omega)⟩
  have p4 := hba.cell (j := 4) rfl
  have f4 := hba.frozen 4
  obtain ⟨B, hB⟩ : ∃ B, B = w.heap.size := ⟨_, rfl⟩
  have HB : Hid (B = w.heap.size) := hB
  rw [← hB] at hba hna p4 f4 ⊢
  have HBA : Hid (At (w1.setCell ⟨B, 4, none⟩ (.slice (some ⟨B + 1, 0, none⟩) m m)) B 65 [.slice a0 n0 c0, .slice a1 n1 c1, .slice a2 n2 c2, .slice a3 n3 c3, .slice (some ⟨B + 1, 0, none⟩) m m, .map none, .slice a6 n0 c6, .slice none 0 0, .map none]) := by
    exact hba.set 4 (.slice (some ⟨B + 1, 0, none⟩) m m)
  have hne : B + 1 ≠ B := by omega
  have HNA : Hid _ := hna.other (p := ⟨B, 4, none⟩) hne (.slice (some ⟨B + 1, 0, none⟩) m m)
  have HKW : Hid (Keeps No w (w1.setCell ⟨B, 4, none⟩ (.slice (some ⟨B + 1, 0, none⟩) m m))) := hkw.setCell (fun h => absurd h (by rw [← hB]; exact Nat.lt_irrefl _)) _
  clear hk1 hs1 hnl hba hna hkw hB hne
  go_wp2_with fail
  go_loopw [21] (fun i wr => ∃ (x : Nat) (cs : List Value), x ≤ m ∧ i = .int .i64 x ∧ At wr (B + 1) 67 cs ∧ NodesTo m (at' vs) (at' us) x cs ∧ At wr B 65 [.slice a0 n0 c0, .slice a1 n1 c1, .slice a2 n2 c2, .slice a3 n3 c3, .slice (some ⟨B + 1, 0, none⟩) m m, .map none, .slice a6 n0 c6, .slice none 0 0, .map none] ∧ Keeps No w wr) (fun i _ => m - (intOf i).toNat)
  case atStart => exact ⟨0, ncs, Nat.zero_le _, rfl, HNA.out, HND.out, HBA.out, HKW.out⟩
  case round =>
    clear HNA HND HBA HKW p4 f4
    obtain ⟨x, cs, hx, rfl, hnA, hND, hbA, hkw⟩ := hrel
    by_cases hlt : x < m
    · obtain ⟨b4, o4, rfl, hc4⟩ := hr4.at 0 hlt
      obtain ⟨b5, o5, rfl, hc5⟩ := hr5.at 0 hlt
      have hcv := hkw.cell (hc4 x hlt) (fun h => h)
      have hcu := hkw.cell (hc5 x hlt) (fun h => h)
      have l4 : b4 < B := by rw [HB.out]; exact World.block_lt_of_cell? _ _ (hc4 x hlt)
      have l5 : b5 < B := by rw [HB.out]; exact World.block_lt_of_cell? _ _ (hc5 x hlt)
      have e4 : vs.getD x 0 = at' vs x := rfl
      have e5 : us.getD x 0 = at' us x := rfl
      rw [e4] at hcv
      rw [e5] at hcu
      have p4 := hbA.cell (j := 4) rfl
      obtain ⟨v1, hv1⟩ := at_get (k := x * 2) hND.1 (by omega)
      obtain ⟨v2, hv2⟩ := at_get (k := x * 2 + 1) hND.1 (by omega)
      have r1 := hnA.cell hv1
      have f1 := hnA.frozen (x * 2)
      have r2 := hnA.cell hv2
      have f2 := hnA.frozen (x * 2 + 1)
      have hne : B ≠ B + 1 := by omega
      have HND : Hid _ := nodesTo_step hND hlt
      have HNA : Hid _ := (hnA.set (x * 2) (.int .i32 (at' vs x))).set (x * 2 + 1) (.int .i32 (at' us x))
      have HBA : Hid _ := (hbA.other (p := ⟨B + 1, x * 2, none⟩) hne (.int .i32 (at' vs x))).other (p := ⟨B + 1, x * 2 + 1, none⟩) hne (.int .i32 (at' us x))
      have HKW : Hid _ := (hkw.setCell (p := ⟨B + 1, x * 2, none⟩) (fun h => absurd h (by rw [HB.out]; simp)) (.int .i32 (at' vs x))).setCell (p := ⟨B + 1, x * 2 + 1, none⟩) (fun h => absurd h (by rw [HB.out]; simp)) (.int .i32 (at' us x))
      clear hc4 hc5 e4 e5 hv1 hv2 hne hND hnA hbA hkw
      generalize at' vs x = v at *
      generalize at' us x = u at *
      go_wp2_with fail
      go_region
      go_wp2_with fail
      go_roundw
      case rel => exact ⟨x + 1, _, by omega, by go_num, HNA.out, HND.out, HBA.out, Keeps.drew HKW.out⟩
      case measure => simp [intOf]; omega
    · obtain rfl : x = m := by omega
      have hND' : Nodes x (at' vs) (at' us) cs := ⟨hND.1, hND.2⟩
      have HND : Hid (Nodes x (at' vs) (at' us) cs) := hND'
      have hV2 : ∀ y, -2147483648 ≤ at' vs y := fun y => (iv.get y).1
      have hV : ∀ y, y < x → at' vs y < n0 := fun y hy => by
        by_cases h0 : 0 ≤ at' vs y
        · exact D.vb y (by omega) h0
        · omega
      have HV : Hid (∀ y, -2147483648 ≤ at' vs y) := hV2
      have HV2 : Hid (∀ y, y < x → at' vs y < n0) := hV
      clear hND hND' hV hV2
      go_wp2_with fail
      refine (finish29 B (B + 1) n0 n1 n2 n3 x c0 c1 c2 c3 c6 a0 a1 a2 a3 a6 (.map none) (.slice none 0 0) (.map none) ss vs us ps (at' vs) (at' us) cs _ hn0 hn1 hm hbA hnA HND.out (hr0.kept hkw) (hr6.kept hkw) ip D HV2.out HV.out).mono ?_
      rintro e w3 ⟨gs, g0, NN, cs3, rfl, hsA, h0A, hNN, hnA3, hND3, hK3, lgs, lg0⟩
      have hkw3 : Keeps No w w3 := hkw.trans hK3 (fun _ _ h => h) (fun k hk e => by have := HB.out; omega)
      have HNN : Hid _ := hNN
      have HND3 : Hid _ := hND3
      have p4 := hsA.cell (j := 4) rfl
      clear hK3 HND hNN hND3 hbA hnA hkw hr4 hr5 hr0 hr6 lgs lg0
      go_wp2_with (at_make; refine wpList_make_at _ rfl (.tmp 67) (.tmp 67) 22 rfl 21 i0 (.int .i32 0) 1 4 Try.underlying22 hi hz0 hz1 hz2 .i64 .i64 _ _ x rfl rfl rfl rfl (by omega) (by omega) ?_)
      intro w4 cv hvl _ hvA hk4 hs4
      have hsA4 := hsA.kept hk4
      have p4 := hsA4.cell (j := 4) rfl
      have HFV : Hid (FillTo x (fun i => newVal n1 ps (at' vs i)) 0 cv) := ⟨by omega, fun y h => absurd h (by omega)⟩
      have l4 : w3.heap.size < w4.heap.size := by omega
      clear hvl hs4
      go_wp2_with (at_make; refine wpList_make_at _ rfl (.tmp 73) (.tmp 73) 22 rfl 21 i0 (.int .i32 0) 1 4 Try.underlying22 hi hz0 hz1 hz2 .i64 .i64 _ _ x rfl rfl rfl rfl (by omega) (by omega) ?_)
      intro w5 cu hul _ huA hk5 hs5
      have HFU : Hid (FillTo x (at' us) 0 cu) := ⟨by omega, fun y h => absurd h (by omega)⟩
      have hsA5 := hsA4.kept hk5
      have hvA5 := hvA.kept hk5
      have h0A5 := (h0A.kept hk4).kept hk5
      have hnA5 := (hnA3.kept hk4).kept hk5
      have hkw5 := (hkw3.tr hk4).tr hk5
      have l1 := hsA.lt
      have l2 := h0A.lt
      have l3 := hnA3.lt
      have l5 := hkw3.size
      clear hul hs5 hk4 hk5 hkw3 hsA hsA4 hvA h0A hnA3 p4
      obtain ⟨g4, hg4⟩ : ∃ g, g = w3.heap.size := ⟨_, rfl⟩
      obtain ⟨g5, hg5⟩ : ∃ g, g = w4.heap.size := ⟨_, rfl⟩
      rw [← hg4] at hvA5 l1 l2 l3 l4 l5 ⊢
      rw [← hg5] at huA l4 ⊢
      clear hg4 hg5
      go_wp2_with fail
      go_loopw [23] (fun i wr => ∃ (y : Nat) (cv cu : List Value), y ≤ x ∧ i = .int .i64 y ∧ At wr g4 21 cv ∧ FillTo x (fun i => newVal n1 ps (at' vs i)) y cv ∧ At wr g5 21 cu ∧ FillTo x (at' us) y cu ∧
        At wr gs 61 [.slice (some ⟨g0, 0, none⟩) n0 n0, .slice a1 n1 c1, .slice a2 n2 c2, .slice a3 n3 c3, .slice (some ⟨B + 1, 0, none⟩) x x] ∧ At wr g0 9 NN ∧ At wr (B + 1) 67 cs3 ∧ Keeps No w wr) (fun i _ => x - (intOf i).toNat)
      case atStart => exact ⟨0, cv, cu, Nat.zero_le _, rfl, hvA5, HFV.out, huA, HFU.out, hsA5, h0A5, hnA5, hkw5⟩
      case round =>
        clear HFV HFU hvA5 huA hsA5 h0A5 hnA5 hkw5
        obtain ⟨y, cv, cu, hy, rfl, hvA, hFV, huA, hFU, hsA, h0A, hnA, hkw⟩ := hrel
        have p4 := hsA.cell (j := 4) rfl
        by_cases hlt : y < x
        · have hN := hnA.cell (HND3.out.2 y hlt).1
          have hU := hnA.cell (HND3.out.2 y hlt).2
          obtain ⟨v1, hv1⟩ := at_get hFV.1 hlt
          obtain ⟨v2, hv2⟩ := at_get hFU.1 hlt
          have r1 := hvA.cell hv1
          have f1 := hvA.frozen y
          have r2 := huA.cell hv2
          have f2 := huA.frozen y
          have lB : B + 1 < g4 := l3
          have HV' : Hid _ := fillTo_step hFV hlt
          have HU' : Hid _ := fillTo_step hFU hlt
          have e1 : g4 ≠ g5 := by omega
          have e2 : g5 ≠ g4 := by omega
          have e3 : gs ≠ g4 := by omega
          have e4 : gs ≠ g5 := by omega
          have e5 : g0 ≠ g4 := by omega
          have e6 : g0 ≠ g5 := by omega
          have e7 : B + 1 ≠ g4 := by omega
          have e8 : B + 1 ≠ g5 := by omega
          have HA : Hid _ := (hvA.set y (.int .i32 (newVal n1 ps (at' vs y)))).other (p := ⟨g5, y, none⟩) e1 (.int .i32 (at' us y))
          have HB' : Hid _ := (huA.other (p := ⟨g4, y, none⟩) e2 (.int .i32 (newVal n1 ps (at' vs y)))).set y (.int .i32 (at' us y))
          have HC : Hid _ := (hsA.other (p := ⟨g4, y, none⟩) e3 (.int .i32 (newVal n1 ps (at' vs y)))).other (p := ⟨g5, y, none⟩) e4 (.int .i32 (at' us y))
          have HD : Hid _ := (h0A.other (p := ⟨g4, y, none⟩) e5 (.int .i32 (newVal n1 ps (at' vs y)))).other (p := ⟨g5, y, none⟩) e6 (.int .i32 (at' us y))
          have HE : Hid _ := (hnA.other (p := ⟨g4, y, none⟩) e7 (.int .i32 (newVal n1 ps (at' vs y)))).other (p := ⟨g5, y, none⟩) e8 (.int .i32 (at' us y))
          have HK : Hid _ := (hkw.setCell (p := ⟨g4, y, none⟩) (fun h => absurd h (by simp; omega)) (.int .i32 (newVal n1 ps (at' vs y)))).setCell (p := ⟨g5, y, none⟩) (fun h => absurd h (by simp; omega)) (.int .i32 (at' us y))
          clear hvA hFV huA hFU hsA h0A hnA hkw hv1 hv2
          generalize newVal n1 ps (at' vs y) = v at *
          generalize at' us y = u at *
          go_wp2_with fail
          go_roundw
          case rel => exact ⟨y + 1, _, _, by omega, by go_num, HA.out, HV'.out, HB'.out, HU'.out, HC.out, HD.out, HE.out, HK.out⟩
          case measure => simp [intOf]; omega
        · obtain rfl : y = x := by omega
          have p0 := hsA.cell (j := 0) rfl
          have p1 := hsA.cell (j := 1) rfl
          have p2 := hsA.cell (j := 2) rfl
          have p3 := hsA.cell (j := 3) rfl
          go_wp2_with fail
          go_quiet (fail)
          go_wp2_with fail
          refine bodyPost_ret (v := .tuple #[.slice (some ⟨g0, 0, none⟩) n0 n0, .slice a1 n1 c1, .slice a2 n2 c2, .slice a3 n3 c3, .slice (some ⟨g4, 0, none⟩) y y, .slice (some ⟨g5, 0, none⟩) y y]) (by simp [results, Try.results18, go_sem]) rfl ?_
          exact ⟨g0, g4, g5, NN, cv, cu, rfl, h0A, HNN.out, hvA, hFV, huA, hFU, hkw.drewN _⟩
end Go.Proofs.Qxb6603867a
