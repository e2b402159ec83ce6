import Derived.Test.Qxb6603867aDom
import Derived.BigRegion
import Derived.RegionTactic
namespace Go.Proofs.Qxb6603867a
open Go.RowKit Plf
/-- the nodes' cells: value and up, by turns -/
def Nodes (m : Nat) (V U : Nat → Int) (cs : List Value) : Prop := cs.length = m * 2 ∧ ∀ x, x < m → cs[x * 2]? = some (.int .i32 (V x)) ∧ cs[x * 2 + 1]? = some (.int .i32 (U x))
theorem len31 (g n1 c1 : Nat) (w : World) (x : Option Addr) (h : w.cell? ⟨g, 1, none⟩ = some (.slice x n1 c1)) : Calls Try.prog 31 #[.pointer (some ⟨g, 0, none⟩)] w fun e w' => e = .returned (.int .i64 n1) ∧ w = w' := by
  go_enter Try.func31, Try.ntmps31
  go_wp2
  go_ret
  exact ⟨rfl, rfl⟩
/-- renumber after k rounds; the new names after k rounds -/
def RenTo (n0 n1 : Nat) (ps : List Int) (k : Nat) (cs : List Value) : Prop := cs.length = n0 ∧ ∀ j, j < k → cs[j]? = some (.int .i32 (ren n1 ps j : Nat))
def NamesTo (n0 n1 : Nat) (ps : List Int) (ss : List ByteArray) (k : Nat) (cs : List Value) : Prop := cs.length = n0 ∧ ∀ j, j < k → cs[ren n1 ps j]? = some (.string (ss.getD j ByteArray.empty))
theorem renTo_step {n0 n1 : Nat} {ps : List Int} {k : Nat} {cs : List Value} (h : RenTo n0 n1 ps k cs) (hk : k < n0) : RenTo n0 n1 ps (k + 1) (cs.set k (.int .i32 (ren n1 ps k : Nat))) := by
  refine ⟨by simpa using h.1, fun j hj => ?_⟩
  by_cases e : j = k
  · subst e; rw [List.getElem?_set_self (by rw [h.1]; exact hk)]
  · rw [List.getElem?_set_ne (by omega)]; exact h.2 j (by omega)
theorem namesTo_step {n0 n1 : Nat} {vs us ps : List Int} {ss : List ByteArray} {k : Nat} {cs : List Value} (D : FDom n0 n1 vs us ps) (h : NamesTo n0 n1 ps ss k cs) (hk : k < n0) :
    NamesTo n0 n1 ps ss (k + 1) (cs.set (ren n1 ps k) (.string (ss.getD k ByteArray.empty))) := by
  refine ⟨by simpa using h.1, fun j hj => ?_⟩
  by_cases e : j = k
  · subst e; rw [List.getElem?_set_self (by rw [h.1]; exact ren_lt D hk)]
  · rw [List.getElem?_set_ne (fun he => ren_inj D (i := j) (j := k) (by omega) hk he.symm)]; exact h.2 j (by omega)
/-- the values after x rounds -/
def turned (n1 : Nat) (ps : List Int) (V : Nat → Int) (x i : Nat) : Int := if i < x then newVal n1 ps (V i) else V i
theorem turned_lt {n1 : Nat} {ps : List Int} {V : Nat → Int} {x i : Nat} (h : i < x) : turned n1 ps V x i = newVal n1 ps (V i) := if_pos h
theorem turned_ge {n1 : Nat} {ps : List Int} {V : Nat → Int} {x i : Nat} (h : x ≤ i) : turned n1 ps V x i = V i := if_neg (by omega)
theorem turned_other {n1 : Nat} {ps : List Int} {V : Nat → Int} {x i : Nat} (h : i ≠ x) : turned n1 ps V (x + 1) i = turned n1 ps V x i := by
  by_cases l : i < x
  · rw [turned_lt l, turned_lt (by omega)]
  · rw [turned_ge (by omega), turned_ge (by omega)]
theorem nodes_start {m n1 : Nat} {ps : List Int} {V U : Nat → Int} {cs : List Value} (h : Nodes m V U cs) : Nodes m (turned n1 ps V 0) U cs :=
  ⟨h.1, fun x hx => by rw [turned_ge (by omega)]; exact h.2 x hx⟩
theorem nodes_end {m n1 : Nat} {ps : List Int} {V U : Nat → Int} {cs : List Value} (h : Nodes m (turned n1 ps V m) U cs) : Nodes m (fun i => newVal n1 ps (V i)) U cs :=
  ⟨h.1, fun x hx => by have := h.2 x hx; rw [turned_lt hx] at this; exact this⟩
theorem nodes_step {m n1 : Nat} {ps : List Int} {V U : Nat → Int} {x : Nat} {cs : List Value} (h : Nodes m (turned n1 ps V x) U cs) (hx : x < m) (h0 : 0 ≤ V x) :
    Nodes m (turned n1 ps V (x + 1)) U (cs.set (x * 2) (.int .i32 (ren n1 ps (V x).toNat : Nat))) := by
  refine ⟨by simpa using h.1, fun y hy => ?_⟩
  have hv : newVal n1 ps (V x) = (ren n1 ps (V x).toNat : Nat) := by unfold newVal; rw [if_neg (by omega)]
  by_cases e : y = x
  · subst e
    rw [List.getElem?_set_self (by rw [h.1]; omega), List.getElem?_set_ne (by omega)]
    exact ⟨by rw [turned_lt (by omega), hv], (h.2 y hy).2⟩
  · rw [List.getElem?_set_ne (by omega), List.getElem?_set_ne (by omega), turned_other e]
    exact h.2 y hy
theorem nodes_skip {m n1 : Nat} {ps : List Int} {V U : Nat → Int} {x : Nat} {cs : List Value} (h : Nodes m (turned n1 ps V x) U cs) (h0 : V x < 0) :
    Nodes m (turned n1 ps V (x + 1)) U cs := by
  refine ⟨h.1, fun y hy => ?_⟩
  have hv : newVal n1 ps (V x) = V x := by unfold newVal; rw [if_pos h0]
  have := h.2 y hy
  by_cases e : y = x
  · subst e
    rw [turned_ge (by omega)] at this
    rw [turned_lt (by omega), hv]; exact this
  · rw [turned_other e]; exact this
/-- what finish leaves -/
def FinPost (w : World) (gn n0 n1 m : Nat) (x1 x2 x3 : Value) (ss : List ByteArray) (ps : List Int) (V U : Nat → Int) (e : Ending) (w' : World) : Prop :=
  ∃ (gs g0 : Nat) (NN cs : List Value), e = .returned (.pointer (some ⟨gs, 0, none⟩)) ∧ At w' gs 61 [.slice (some ⟨g0, 0, none⟩) n0 n0, x1, x2, x3, .slice (some ⟨gn, 0, none⟩) m m] ∧ At w' g0 9 NN ∧ NamesTo n0 n1 ps ss n0 NN ∧
    At w' gn 67 cs ∧ Nodes m (fun i => newVal n1 ps (V i)) U cs ∧ Keeps (fun k => k = gn) w w' ∧ w.heap.size ≤ gs ∧ w.heap.size ≤ g0
theorem at_get {cs : List Value} {n k : Nat} (h : cs.length = n) (hk : k < n) : ∃ v, cs[k]? = some v := ⟨cs[k], by simp⟩
/-- one round of the first loop: two stores -/
theorem fin_round {w wr : World} {GS GN n0 n1 k r : Nat} {vs us ps : List Int} {ss : List ByteArray} {rcs nms scs : List Value} (D : FDom n0 n1 vs us ps) (hk : k < n0) (hr : ren n1 ps k = r) (hGS : GS = w.heap.size) (hGN : GS + 1 < GN)
    (hra : At wr (GS + 1) 21 rcs) (hna : At wr GN 9 nms) (hsa : At wr GS 61 scs) (hkw : Keeps No w wr) (hR : RenTo n0 n1 ps k rcs) (hN : NamesTo n0 n1 ps ss k nms) :
    At ((wr.setCell ⟨GS + 1, k, none⟩ (.int .i32 (r : Nat))).setCell ⟨GN, r, none⟩ (.string (ss.getD k ByteArray.empty))) (GS + 1) 21 (rcs.set k (.int .i32 (r : Nat))) ∧
    At ((wr.setCell ⟨GS + 1, k, none⟩ (.int .i32 (r : Nat))).setCell ⟨GN, r, none⟩ (.string (ss.getD k ByteArray.empty))) GN 9 (nms.set r (.string (ss.getD k ByteArray.empty))) ∧
    At ((wr.setCell ⟨GS + 1, k, none⟩ (.int .i32 (r : Nat))).setCell ⟨GN, r, none⟩ (.string (ss.getD k ByteArray.empty))) GS 61 scs ∧
    Keeps No w ((wr.setCell ⟨GS + 1, k, none⟩ (.int .i32 (r : Nat))).setCell ⟨GN, r, none⟩ (.string (ss.getD k ByteArray.empty))) ∧
    RenTo n0 n1 ps (k + 1) (rcs.set k (.int .i32 (r : Nat))) ∧ NamesTo n0 n1 ps ss (k + 1) (nms.set r (.string (ss.getD k ByteArray.empty))) := by
  subst hr hGS
  have h1 : w.heap.size + 1 ≠ GN := by omega
  have h2 : GN ≠ w.heap.size + 1 := by omega
  have h3 : w.heap.size ≠ w.heap.size + 1 := by omega
  have h4 : w.heap.size ≠ GN := by omega
  exact ⟨(hra.set k _).other h1 _, (hna.other h2 _).set _ _, (hsa.other h3 _).other h4 _, (hkw.setCell (fun h => absurd h (by simp)) _).setCell (fun h => absurd h (by simp; omega)) _, renTo_step hR hk, namesTo_step D hN hk⟩
set_option maxHeartbeats 2000000 in
theorem finish29 (gb gn n0 n1 n2 n3 m c0 c1 c2 c3 c6 : Nat) (a0 a1 a2 a3 a6 : Option Addr) (x5 x7 x8 : Value) (ss : List ByteArray) (vs us ps : List Int) (V U : Nat → Int) (ncs : List Value) (w : World)
    (hn0 : n0 ≤ 1048576) (hn1 : n1 ≤ 1048576) (hm : m ≤ 1048576)
    (hb : At w gb 65 [.slice a0 n0 c0, .slice a1 n1 c1, .slice a2 n2 c2, .slice a3 n3 c3, .slice (some ⟨gn, 0, none⟩) m m, x5, .slice a6 n0 c6, x7, x8])
    (hn : At w gn 67 ncs) (hnodes : Nodes m V U ncs) (hr0 : Rd w a0 n0 (ss.map Value.string)) (hr6 : Rd w a6 n0 (ps.map (Value.int .i32))) (ip : I32 ps) (D : FDom n0 n1 vs us ps) (hV : ∀ x, x < m → V x < n0) (hV2 : ∀ x, -2147483648 ≤ V x) :
    Calls Try.prog 29 #[.pointer (some ⟨gb, 0, none⟩)] w (FinPost w gn n0 n1 m (.slice a1 n1 c1) (.slice a2 n2 c2) (.slice a3 n3 c3) ss ps V U) := by
  have q0 := hb.cell (j := 0) rfl
  have q1 := hb.cell (j := 1) rfl
  have q2 := hb.cell (j := 2) rfl
  have q3 := hb.cell (j := 3) rfl
  have q4 := hb.cell (j := 4) rfl
  have q6 := hb.cell (j := 6) rfl
  have gbl := hb.lt
  have gnl := hn.lt
  obtain ⟨i0, hi, hz0, hz1, hz2⟩ := info_parts Try.info21
  obtain ⟨i9, hi9, hy0, hy1, hy2⟩ := info_parts Try.info9
  go_enter Try.func29, Try.ntmps29
  go_wp2_with (at_make; refine wpList_make_at _ rfl (.tmp 17) (.tmp 17) 22 rfl 21 i0 (.int .i32 0) 1 4 Try.underlying22 hi hz0 hz1 hz2 .i64 .i64 _ _ n0 rfl rfl rfl rfl (by omega) (by omega) ?_)
  intro w1 rcs hrl _ hra hk1 hs1
  have hsa := (At.new w 61 #[.slice a0 n0 c0, .slice a1 n1 c1, .slice a2 n2 c2, .slice a3 n3 c3, .slice (some ⟨gn, 0, none⟩) m m]).kept hk1
  have hkw1 : Keeps No w w1 := ((Keeps.refl No w).alloc _).tr hk1
  have hlt1 : w.heap.size + 1 < w1.heap.size := by first | omega | (simp at hs1; omega)
  have hrl' : rcs.length = n0 := by omega
  have p0 := hsa.cell (j := 0) rfl
  have HR : Hid (RenTo n0 n1 ps 0 rcs) := ⟨hrl', fun j h => absurd h (by omega)⟩
  clear hk1 hs1 hrl hrl' q0 q1 q2 q3 q4
  go_wp2_with (at_make; refine wpList_make_at _ rfl (.tmp 21) (.tmp 21) 30 rfl 9 i9 (.string ByteArray.empty) 1 16 Try.underlying30 hi9 hy0 hy1 hy2 .i64 .i64 _ _ n0 rfl rfl rfl rfl (by omega) (by omega) ?_)
  intro w2 nms hnl _ hna hk2 hs2
  have hsa2 := hsa.kept hk2
  have hra2 := hra.kept hk2
  have hkw2 : Keeps No w w2 := hkw1.tr hk2
  have hlt2 : w1.heap.size < w2.heap.size := by omega
  have hnl' : nms.length = n0 := by omega
  have p1 := hsa2.cell (j := 1) rfl
  have p6 := hkw2.cell q6 (fun h => h)
  have HN : Hid (NamesTo n0 n1 ps ss 0 nms) := ⟨hnl', fun j h => absurd h (by omega)⟩
  clear hk2 hs2 hnl hnl' p0 hra hsa hkw1 q6
  obtain ⟨GN, hGN⟩ : ∃ GN, GN = w1.heap.size := ⟨_, rfl⟩
  rw [← hGN] at hna hlt1 hlt2 ⊢
  clear hGN
  obtain ⟨GS, hGS⟩ : ∃ GS, GS = w.heap.size := ⟨_, rfl⟩
  rw [← hGS] at hra2 hsa2 hlt1 p1 gbl gnl ⊢
  have HGS : Hid (GS = w.heap.size) := hGS
  clear hGS
  go_wp2_with (go_at_call 31; refine (len31 _ _ _ _ _ p1).mono ?_; rintro e w' ⟨rfl, rfl⟩)
  go_loopw [6, 30] (fun nv i wr => ∃ (k : Nat) (rcs nms : List Value), k ≤ n0 ∧ i = .int .i64 k ∧ nv = .int .i32 (nx n1 ps k : Nat) ∧ At wr (GS + 1) 21 rcs ∧ At wr GN 9 nms ∧
      At wr GS 61 [.slice a0 n0 c0, .slice a1 n1 c1, .slice a2 n2 c2, .slice a3 n3 c3, .slice (some ⟨gn, 0, none⟩) m m] ∧ Keeps No w wr ∧ RenTo n0 n1 ps k rcs ∧ NamesTo n0 n1 ps ss k nms) (fun _ i _ => n0 - (intOf i).toNat)
  case atStart => exact ⟨0, rcs, nms, Nat.zero_le _, rfl, rfl, hra2, hna, by simpa using hsa2, hkw2, HR.out, HN.out⟩
  case round =>
    clear HR HN hra2 hna hsa2 hkw2 p1 p6
    obtain ⟨k, rcs, nms, hk, rfl, rfl, hra, hna, hsa, hkw, hR, hN⟩ := hrel
    have hxl := nx_le D hk
    by_cases hlt : k < n0
    · obtain ⟨b6, o6, rfl, hc6⟩ := hr6.at 0 hlt
      obtain ⟨b0, o0, rfl, hc0⟩ := hr0.at ByteArray.empty hlt
      have hck := hkw.cell (hc6 k hlt) (fun h => h)
      have hcn := hkw.cell (hc0 k hlt) (fun h => h)
      have l0 : b0 < GS := by rw [HGS.out]; exact World.block_lt_of_cell? _ _ (hc0 k hlt)
      have hb := ip.get k
      have hP : ps.getD k 0 = at' ps k := rfl
      rw [hP] at hck hb
      have hrn := ren_lt D hlt
      have p0 := hsa.cell (j := 0) rfl
      obtain ⟨v1, hv1⟩ := at_get hR.1 hlt
      obtain ⟨v2, hv2⟩ := at_get hN.1 hrn
      have r1 := hra.cell hv1
      have f1 := hra.frozen k
      have r2 := hna.cell hv2
      have f2 := hna.frozen (ren n1 ps k)
      have HQ : Hid (∀ r, ren n1 ps k = r → _) := fun r hr => fin_round (r := r) D hlt hr HGS.out hlt1 hra hna hsa hkw hR hN
      clear hc6 hc0 hP hv1 hv2 hR hN hra hna hsa hkw hr6 hr0
      generalize ss.getD k ByteArray.empty = sk at *
      by_cases hneg : at' ps k < 0
      · have hren : ren n1 ps k = nx n1 ps k := if_pos hneg
        have HN : Hid (nx n1 ps (k + 1) = nx n1 ps k + 1) := nx_succ_neg hneg
        have HQ := HQ.out _ hren
        rw [hren] at r2 f2 hrn
        have HQ' : Hid _ := HQ
        clear HQ hren
        generalize at' ps k = p at *
        generalize nx n1 ps k = r at *
        go_wp2_with fail
        go_roundw
        case rel => exact ⟨k + 1, _, _, by omega, by go_num, by rw [HN.out]; go_num, HQ'.out.1, HQ'.out.2.1, HQ'.out.2.2.1, HQ'.out.2.2.2.1, HQ'.out.2.2.2.2.1, HQ'.out.2.2.2.2.2⟩
        case measure => simp [intOf]; omega
      · have hren : ren n1 ps k = (at' ps k).toNat := if_neg hneg
        have HN : Hid (nx n1 ps (k + 1) = nx n1 ps k) := nx_succ_pos (by omega)
        obtain ⟨r, hr⟩ : ∃ r : Nat, at' ps k = (r : Int) := ⟨(at' ps k).toNat, by omega⟩
        rw [hr, Int.toNat_natCast] at hren
        have HQ := HQ.out _ hren
        rw [hren] at r2 f2 hrn
        rw [hr] at hck hb
        have HQ' : Hid _ := HQ
        clear HQ hren hr hneg
        generalize nx n1 ps k = y at *
        go_wp2_with fail
        go_roundw
        case rel => exact ⟨k + 1, _, _, by omega, by go_num, by rw [HN.out], HQ'.out.1, HQ'.out.2.1, HQ'.out.2.2.1, HQ'.out.2.2.2.1, HQ'.out.2.2.2.2.1, HQ'.out.2.2.2.2.2⟩
        case measure => simp [intOf]; omega
    · obtain rfl : k = n0 := by omega
      have HR : Hid (RenTo k n1 ps k rcs) := hR
      have HN : Hid (NamesTo k n1 ps ss k nms) := hN
      have p4 := hsa.cell (j := 4) rfl
      have hn' := hn.kept hkw
      have HK : Hid (Keeps (fun k => k = gn) w wr) := hkw.trans (Keeps.refl No wr) (fun _ _ h => h.elim) (fun _ _ h => h.elim)
      have HND : Hid (Nodes m (turned n1 ps V 0) U ncs) := nodes_start hnodes
      clear hR hN hnodes hr0 hr6 hb
      go_wp2_with fail
      obtain ⟨wo, rfl⟩ : ∃ wo : World, wo = wr := ⟨_, rfl⟩
      go_loopw [56] (fun i wr => ∃ (x : Nat) (cs : List Value), x ≤ m ∧ i = .int .i64 x ∧ At wr gn 67 cs ∧ Nodes m (turned n1 ps V x) U cs ∧ At wr (GS + 1) 21 rcs ∧ At wr GN 9 nms ∧
        At wr GS 61 [.slice a0 k c0, .slice a1 n1 c1, .slice a2 n2 c2, .slice a3 n3 c3, .slice (some ⟨gn, 0, none⟩) m m] ∧ Keeps (fun k => k = gn) w wr) (fun i _ => m - (intOf i).toNat)
      case atStart => exact ⟨0, ncs, Nat.zero_le _, rfl, hn', HND.out, hra, hna, hsa, HK.out⟩
      case round =>
        clear HND hn' hra hna hsa hkw HK p4
        obtain ⟨x, cs, hx, rfl, hnA, hND, hra, hna, hsa, hkw⟩ := hrel
        have p4 := hsa.cell (j := 4) rfl
        by_cases hlt : x < m
        · have hcx := (hND.2 x hlt).1
          rw [turned_ge (Nat.le_refl _)] at hcx
          have hc := hnA.cell hcx
          have hf := hnA.frozen (x * 2)
          have hb1 := hV x hlt
          have hb2 := hV2 x
          by_cases hneg : V x < 0
          · have HND : Hid (Nodes m (turned n1 ps V (x + 1)) U cs) := nodes_skip hND hneg
            clear hND hV hV2 hcx
            generalize V x = v at *
            go_wp2_with fail
            go_roundw
            case rel => exact ⟨x + 1, cs, by omega, by go_num, hnA, HND.out, hra, hna, hsa, hkw⟩
            case measure => simp [intOf]; omega
          · obtain ⟨q, hq⟩ : ∃ q : Nat, V x = (q : Int) := ⟨(V x).toNat, by omega⟩
            have HND := nodes_step hND hlt (by omega)
            rw [hq, Int.toNat_natCast] at HND
            have hrc := hra.cell (HR.out.2 q (by omega))
            rw [hq] at hc hb1 hb2
            have hrq := ren_lt D (k := q) (by omega)
            have HND' : Hid _ := HND
            clear hND hV hV2 hcx HND hneg hq
            have e1 : GS + 1 ≠ gn := by omega
            have e2 : GN ≠ gn := by omega
            have e3 : GS ≠ gn := by omega
            have HA : Hid _ := hnA.set (x * 2) (.int .i32 (ren n1 ps q : Nat))
            have HB : Hid _ := hra.other (p := ⟨gn, x * 2, none⟩) e1 (.int .i32 (ren n1 ps q : Nat))
            have HC : Hid _ := hna.other (p := ⟨gn, x * 2, none⟩) e2 (.int .i32 (ren n1 ps q : Nat))
            have HD : Hid _ := hsa.other (p := ⟨gn, x * 2, none⟩) e3 (.int .i32 (ren n1 ps q : Nat))
            have HE : Hid _ := hkw.setCell (p := ⟨gn, x * 2, none⟩) (fun _ => rfl) (.int .i32 (ren n1 ps q : Nat))
            clear hnA hra hna hsa hkw
            generalize ren n1 ps q = r at *
            go_wp2_with fail
            go_region
            go_wp2_with fail
            go_roundw
            case rel => exact ⟨x + 1, _, by omega, by go_num, HA.out, HND'.out, HB.out, HC.out, HD.out, Keeps.drew HE.out⟩
            case measure => simp [intOf]; omega
        · obtain rfl : x = m := by omega
          have p0 := hsa.cell (j := 0) rfl
          have pf := hsa.frozen 0
          have HND : Hid _ := nodes_end hND
          have e2 : GN ≠ GS := by omega
          have e3 : gn ≠ GS := by omega
          have HA : Hid _ := hnA.other (p := ⟨GS, 0, none⟩) e3 (.slice (some ⟨GN, 0, none⟩) k k)
          have HC : Hid _ := hna.other (p := ⟨GS, 0, none⟩) e2 (.slice (some ⟨GN, 0, none⟩) k k)
          have HD : Hid _ := hsa.set 0 (.slice (some ⟨GN, 0, none⟩) k k)
          have HE : Hid _ := hkw.setCell (p := ⟨GS, 0, none⟩) (fun h => absurd h (by rw [← HGS.out]; exact Nat.lt_irrefl _)) (.slice (some ⟨GN, 0, none⟩) k k)
          clear hnA hra hna hsa hkw hND
          go_wp2_with fail
          go_ret
          exact ⟨GS, GN, nms, cs, rfl, HD.out, HC.out, HN.out, HA.out, HND.out, HE.out, by rw [HGS.out]; exact Nat.le_refl _, by rw [← HGS.out]; omega⟩
end Go.Proofs.Qxb6603867a
