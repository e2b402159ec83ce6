import Derived.Test.Qxb6603867aCompact
import Derived.Test.Qxb6603867aClone
namespace Go.Proofs.Qxb6603867a
open Go.RowKit Plf Plc
theorem Try.info57 : (Try.prog.info? 57).map (fun i => (i.zero, i.size, i.bytes)) = some (some (.agg #[.int .i32 0, .int .i32 0, .int .i32 0, .int .i32 0]), 4, 16) := by kernel_rfl
theorem ent_fill {n x : Nat} {M I R N : Nat → Int} {cs : List Value} (hx : x < n) (h : Ent n x M I R N cs) :
    Ent n (x + 1) M I R N ((((cs.set (x * 4) (.int .i32 (M x))).set (x * 4 + 1) (.int .i32 (I x))).set (x * 4 + 2) (.int .i32 (R x))).set (x * 4 + 3) (.int .i32 (N x))) := by
  have hlen := h.1
  refine ⟨by simpa using h.1, fun y hy => ?_⟩
  by_cases e : y = x
  · subst e
    refine ⟨?_, ?_, ?_, ?_⟩
    · rw [List.getElem?_set_ne (by omega), List.getElem?_set_ne (by omega), List.getElem?_set_ne (by omega), List.getElem?_set_self (by omega)]
    · rw [List.getElem?_set_ne (by omega), List.getElem?_set_ne (by omega), List.getElem?_set_self (by simp; omega)]
    · rw [List.getElem?_set_ne (by omega), List.getElem?_set_self (by simp; omega)]
    · rw [List.getElem?_set_self (by simp; omega)]
  · rw [List.getElem?_set_ne (by omega), List.getElem?_set_ne (by omega), List.getElem?_set_ne (by omega), List.getElem?_set_ne (by omega),
      List.getElem?_set_ne (by omega), List.getElem?_set_ne (by omega), List.getElem?_set_ne (by omega), List.getElem?_set_ne (by omega),
      List.getElem?_set_ne (by omega), List.getElem?_set_ne (by omega), List.getElem?_set_ne (by omega), List.getElem?_set_ne (by omega),
      List.getElem?_set_ne (by omega), List.getElem?_set_ne (by omega), List.getElem?_set_ne (by omega), List.getElem?_set_ne (by omega)]
    exact h.2 y (by omega)
/-- a row that is told up to x -/
def RowTo (n : Nat) (F : Nat → Int) (x : Nat) (cs : List Value) : Prop := cs.length = n ∧ ∀ q, q < x → cs[q]? = some (.int .i32 (F q))
theorem rowTo_step {n x : Nat} {F : Nat → Int} {cs : List Value} (h : RowTo n F x cs) (hx : x < n) : RowTo n F (x + 1) (cs.set x (.int .i32 (F x))) := by
  refine ⟨by simpa using h.1, fun y hy => ?_⟩
  by_cases e : y = x
  · subst e; rw [List.getElem?_set_self (by rw [h.1]; exact hx)]
  · rw [List.getElem?_set_ne (by omega)]; exact h.2 y (by omega)
theorem row_of_map {n : Nat} {zs : List Int} (h : zs.length = n) : Row n (at' zs) (zs.map (Value.int .i32)) := ⟨by simpa using h, fun q hq => get_map _ _ 0 (by omega)⟩
/-- head and start may be written -/
def Two (a0 a1 : Option Addr) (k : Nat) : Prop := a0 = some ⟨k, 0, none⟩ ∨ a1 = some ⟨k, 0, none⟩
def ZCPost (w : World) (nh ns n : Nat) (a0 a1 : Option Addr) (x2 x7 x8 x9 x10 : Value) (hd st em ei er : List Int) (e : Ending) (w' : World) : Prop :=
  ∃ (gM gI gR gN : Nat) (hc sc cm ci cr cn : List Value), e = .returned (.tuple #[.slice a0 nh nh, .slice a1 ns ns, x2, .slice (some ⟨gM, 0, none⟩) (cnt em n) (cnt em n), .slice (some ⟨gI, 0, none⟩) (cnt em n) (cnt em n),
      .slice (some ⟨gR, 0, none⟩) (cnt em n) (cnt em n), .slice (some ⟨gN, 0, none⟩) (cnt em n) (cnt em n), x7, x8, x9, x10]) ∧
    Sl w' 0 21 a0 nh hc ∧ Row nh (fun q => lst (fun r => (at' ei (pick em n r)).toNat) (headA hd ei n q) q (cnt em n)) hc ∧ Sl w' 0 21 a1 ns sc ∧ Row ns (startA st em n) sc ∧
    At w' gM 21 cm ∧ Row (cnt em n) (fun p => at' em (pick em n p)) cm ∧ At w' gI 21 ci ∧ Row (cnt em n) (fun p => at' ei (pick em n p)) ci ∧ At w' gR 21 cr ∧ Row (cnt em n) (fun p => at' er (pick em n p)) cr ∧
    At w' gN 21 cn ∧ Row (cnt em n) (fun p => lst (fun r => (at' ei (pick em n r)).toNat) (-1) (at' ei (pick em n p)).toNat p) cn ∧ Keeps (Two a0 a1) w w'
/-- ZZCompact's memory in its second loop -/
structure ZSt (w wr : World) (B nh ns : Nat) (a0 a1 : Option Addr) (rc ec hc sc : List Value) (g1 g2 g3 g4 : Nat) (cm ci cr cn : List Value) : Prop where
  R : At wr B 53 rc
  E : At wr (B + 1) 57 ec
  H : Sl wr 0 21 a0 nh hc
  S : Sl wr 0 21 a1 ns sc
  c1 : At wr g1 21 cm
  c2 : At wr g2 21 ci
  c3 : At wr g3 21 cr
  c4 : At wr g4 21 cn
  K : Keeps (Two a0 a1) w wr
theorem ZSt.alloc {w wr : World} {B nh ns : Nat} {a0 a1 : Option Addr} {rc ec hc sc : List Value} {g1 g2 g3 g4 : Nat} {cm ci cr cn : List Value} (h : ZSt w wr B nh ns a0 a1 rc ec hc sc g1 g2 g3 g4 cm ci cr cn) (o : Obj) :
    ZSt w (wr.alloc o) B nh ns a0 a1 rc ec hc sc g1 g2 g3 g4 cm ci cr cn :=
  ⟨h.R.alloc o, h.E.alloc o, h.H.alloc o, h.S.alloc o, h.c1.alloc o, h.c2.alloc o, h.c3.alloc o, h.c4.alloc o, h.K.alloc o⟩
theorem ZSt.step {w wr : World} {B nh ns : Nat} {a0 a1 : Option Addr} {rc ec hc sc : List Value} {g1 g2 g3 g4 : Nat} {cm ci cr cn : List Value} (h : ZSt w wr B nh ns a0 a1 rc ec hc sc g1 g2 g3 g4 cm ci cr cn)
    (hB : w.heap.size ≤ B) (l0 : B + 1 < g1) (l1 : g1 < g2) (l2 : g2 < g3) (l3 : g3 < g4) (hA : ∀ g, a0 = some ⟨g, 0, none⟩ → g < B) (hA' : ∀ g, a1 = some ⟨g, 0, none⟩ → g < B) (y : Nat) (v1 v2 v3 v4 : Value) :
    ZSt w ((((wr.setCell ⟨g1, y, none⟩ v1).setCell ⟨g2, y, none⟩ v2).setCell ⟨g3, y, none⟩ v3).setCell ⟨g4, y, none⟩ v4) B nh ns a0 a1 rc ec hc sc g1 g2 g3 g4 (cm.set y v1) (ci.set y v2) (cr.set y v3) (cn.set y v4) := by
  have sl : ∀ {a : Option Addr} {n : Nat} {cs : List Value}, (∀ g, a = some ⟨g, 0, none⟩ → g < B) → Sl wr 0 21 a n cs → Sl ((((wr.setCell ⟨g1, y, none⟩ v1).setCell ⟨g2, y, none⟩ v2).setCell ⟨g3, y, none⟩ v3).setCell ⟨g4, y, none⟩ v4) 0 21 a n cs := by
    intro a n cs ha hs
    exact (((hs.other (fun g hg => by have := ha g hg; show g ≠ g1; omega) v1).other (fun g hg => by have := ha g hg; show g ≠ g2; omega) v2).other (fun g hg => by have := ha g hg; show g ≠ g3; omega) v3).other (fun g hg => by have := ha g hg; show g ≠ g4; omega) v4
  have at4 : ∀ {g : Nat} {e : TypeId} {cs : List Value}, g ≠ g1 → g ≠ g2 → g ≠ g3 → g ≠ g4 → At wr g e cs → At ((((wr.setCell ⟨g1, y, none⟩ v1).setCell ⟨g2, y, none⟩ v2).setCell ⟨g3, y, none⟩ v3).setCell ⟨g4, y, none⟩ v4) g e cs :=
    fun h1 h2 h3 h4 hg => (((hg.other h1 v1).other h2 v2).other h3 v3).other h4 v4
  have e12 : g1 ≠ g2 := by omega
  have e13 : g1 ≠ g3 := by omega
  have e14 : g1 ≠ g4 := by omega
  have e23 : g2 ≠ g3 := by omega
  have e24 : g2 ≠ g4 := by omega
  have e34 : g3 ≠ g4 := by omega
  refine ⟨at4 (by omega) (by omega) (by omega) (by omega) h.R, at4 (by omega) (by omega) (by omega) (by omega) h.E, sl hA h.H, sl hA' h.S, ?_, ?_, ?_, ?_, ?_⟩
  · exact (((h.c1.set y v1).other e12 v2).other e13 v3).other e14 v4
  · exact (((h.c2.other (fun e => e12 e.symm) v1).set y v2).other e23 v3).other e24 v4
  · exact (((h.c3.other (fun e => e13 e.symm) v1).other (fun e => e23 e.symm) v2).set y v3).other e34 v4
  · exact (((h.c4.other (fun e => e14 e.symm) v1).other (fun e => e24 e.symm) v2).other (fun e => e34 e.symm) v3).set y v4
  · exact (((h.K.setCell (p := ⟨g1, y, none⟩) (fun h => absurd h (by simp; omega)) v1).setCell (p := ⟨g2, y, none⟩) (fun h => absurd h (by simp; omega)) v2).setCell (p := ⟨g3, y, none⟩) (fun h => absurd h (by simp; omega)) v3).setCell (p := ⟨g4, y, none⟩) (fun h => absurd h (by simp; omega)) v4
theorem sl_lt {w : World} {base n g : Nat} {e : TypeId} {a : Option Addr} {cs : List Value} (h : Sl w base e a n cs) (ha : a = some ⟨g, 0, none⟩) : g < w.heap.size := by
  rcases h.2 with ⟨h0, _⟩ | ⟨g', ha', _, hg⟩
  · rw [h0] at ha; cases ha
  · rw [ha'] at ha; simp at ha; subst ha; exact hg.lt
set_option maxRecDepth 100000 in
set_option maxHeartbeats 4000000 in
theorem zc11 (nh ns n nc c2 c3 c4 c5 c6 : Nat) (a0 a1 a2 a3 a4 a5 a6 : Option Addr) (y7 y8 y9 y10 : Int) (hd st em ei er en : List Int) (w : World) (hn : n ≤ 1048576)
    (hH : Sl w 0 21 a0 nh (hd.map (Value.int .i32))) (hS : Sl w 0 21 a1 ns (st.map (Value.int .i32))) (r3 : Rd w a3 n (em.map (Value.int .i32))) (r4 : Rd w a4 n (ei.map (Value.int .i32))) (r5 : Rd w a5 n (er.map (Value.int .i32))) (r6 : Rd w a6 n (en.map (Value.int .i32)))
    (D : CDom nh ns n em ei er en) (im : I32 em) (hne : ∀ g, a0 = some ⟨g, 0, none⟩ → a1 ≠ some ⟨g, 0, none⟩) :
    Calls Try.prog 11 #[.slice a0 nh nh, .slice a1 ns ns, .slice a2 nc c2, .slice a3 n c3, .slice a4 n c4, .slice a5 n c5, .slice a6 n c6, .int .i64 y7, .int .i64 y8, .int .i64 y9, .int .i64 y10] w
      (ZCPost w nh ns n a0 a1 (.slice a2 nc c2) (.int .i64 y7) (.int .i64 y8) (.int .i64 y9) (.int .i64 y10) hd st em ei er) := by
  obtain ⟨i0, hi, hz0, hz1, hz2⟩ := info_parts Try.info21
  obtain ⟨i7, hi7, hy0, hy1, hy2⟩ := info_parts Try.info57
  go_enter Try.func11, Try.ntmps11
  go_wp2_with (at_make; refine wpList_make_at _ rfl (.tmp 49) (.tmp 49) 51 rfl 57 i7 (.agg #[.int .i32 0, .int .i32 0, .int .i32 0, .int .i32 0]) 4 16 Try.underlying51 hi7 hy0 hy1 hy2 .i64 .i64 _ _ n rfl rfl rfl rfl (by omega) (by omega) ?_)
  intro w1 ecs hel hea hk1 hs1
  have hba := (At.new w 53 #[.slice a0 nh nh, .slice none 0 0, .slice a1 ns ns, .slice a2 nc c2, .int .i64 y7, .int .i64 y8, .int .i64 y9, .int .i64 y10]).kept hk1
  have hkw : Keeps No w w1 := ((Keeps.refl No w).alloc _).tr hk1
  have HEN : Hid (Ent n 0 (at' em) (at' ei) (at' er) (at' en) ecs) := ⟨hel, fun y h => absurd h (by omega)⟩
  have p4 := hba.cell (j := 1) rfl
  have f4 := hba.frozen 1
  obtain ⟨B, hB⟩ : ∃ B, B = w.heap.size := ⟨_, rfl⟩
  have HB : Hid (B = w.heap.size) := hB
  rw [← hB] at hba hea p4 f4 ⊢
  have HBA : Hid (At (w1.setCell ⟨B, 1, none⟩ (.slice (some ⟨B + 1, 0, none⟩) n n)) B 53 [.slice a0 nh nh, .slice (some ⟨B + 1, 0, none⟩) n n, .slice a1 ns ns, .slice a2 nc c2, .int .i64 y7, .int .i64 y8, .int .i64 y9, .int .i64 y10]) := by
    exact hba.set 1 (.slice (some ⟨B + 1, 0, none⟩) n n)
  have hneB : B + 1 ≠ B := by omega
  have HEA : Hid _ := hea.other (p := ⟨B, 1, none⟩) hneB (.slice (some ⟨B + 1, 0, none⟩) n n)
  have HKW : Hid (Keeps No w (w1.setCell ⟨B, 1, none⟩ (.slice (some ⟨B + 1, 0, none⟩) n n))) := hkw.setCell (fun h => absurd h (by rw [← hB]; exact Nat.lt_irrefl _)) _
  clear hk1 hs1 hel hba hea hkw hB hneB
  go_wp2_with fail
  go_loopw [34] (fun i wr => ∃ (x : Nat) (cs : List Value), x ≤ n ∧ i = .int .i64 x ∧ At wr (B + 1) 57 cs ∧ Ent n x (at' em) (at' ei) (at' er) (at' en) cs ∧ At wr B 53 [.slice a0 nh nh, .slice (some ⟨B + 1, 0, none⟩) n n, .slice a1 ns ns, .slice a2 nc c2, .int .i64 y7, .int .i64 y8, .int .i64 y9, .int .i64 y10] ∧ Keeps No w wr) (fun i _ => n - (intOf i).toNat)
  case atStart => exact ⟨0, ecs, Nat.zero_le _, rfl, HEA.out, HEN.out, HBA.out, HKW.out⟩
  case round =>
    clear HEA HEN HBA HKW p4 f4
    obtain ⟨x, cs, hx, rfl, heA, hEN, hbA, hkw⟩ := hrel
    by_cases hlt : x < n
    · obtain ⟨b3, o3, rfl, hc3⟩ := r3.at 0 hlt
      obtain ⟨b4, o4, rfl, hc4⟩ := r4.at 0 hlt
      obtain ⟨b5, o5, rfl, hc5⟩ := r5.at 0 hlt
      obtain ⟨b6, o6, rfl, hc6⟩ := r6.at 0 hlt
      have q3 := hkw.cell (hc3 x hlt) (fun h => h)
      have q4 := hkw.cell (hc4 x hlt) (fun h => h)
      have q5 := hkw.cell (hc5 x hlt) (fun h => h)
      have q6 := hkw.cell (hc6 x hlt) (fun h => h)
      have l3 : b3 < B := by rw [HB.out]; exact World.block_lt_of_cell? _ _ (hc3 x hlt)
      have l4 : b4 < B := by rw [HB.out]; exact World.block_lt_of_cell? _ _ (hc4 x hlt)
      have l5 : b5 < B := by rw [HB.out]; exact World.block_lt_of_cell? _ _ (hc5 x hlt)
      have l6 : b6 < B := by rw [HB.out]; exact World.block_lt_of_cell? _ _ (hc6 x hlt)
      have e3 : em.getD x 0 = at' em x := rfl
      have e4 : ei.getD x 0 = at' ei x := rfl
      have e5 : er.getD x 0 = at' er x := rfl
      have e6 : en.getD x 0 = at' en x := rfl
      rw [e3] at q3
      rw [e4] at q4
      rw [e5] at q5
      rw [e6] at q6
      have p4 := hbA.cell (j := 1) rfl
      obtain ⟨v0, hv0⟩ := at_get' (k := x * 4) hEN.1 (by omega)
      obtain ⟨v1, hv1⟩ := at_get' (k := x * 4 + 1) hEN.1 (by omega)
      obtain ⟨v2, hv2⟩ := at_get' (k := x * 4 + 2) hEN.1 (by omega)
      obtain ⟨v3, hv3⟩ := at_get' (k := x * 4 + 3) hEN.1 (by omega)
      have s0 := heA.cell hv0
      have s1 := heA.cell hv1
      have s2 := heA.cell hv2
      have s3 := heA.cell hv3
      have f0 := heA.frozen (x * 4)
      have f1 := heA.frozen (x * 4 + 1)
      have f2 := heA.frozen (x * 4 + 2)
      have f3 := heA.frozen (x * 4 + 3)
      have hneB : B ≠ B + 1 := by omega
      have HEN : Hid _ := ent_fill hlt hEN
      have HEA : Hid _ := (((heA.set (x * 4) (.int .i32 (at' em x))).set (x * 4 + 1) (.int .i32 (at' ei x))).set (x * 4 + 2) (.int .i32 (at' er x))).set (x * 4 + 3) (.int .i32 (at' en x))
      have HBA : Hid _ := (((hbA.other (p := ⟨B + 1, x * 4, none⟩) hneB (.int .i32 (at' em x))).other (p := ⟨B + 1, x * 4 + 1, none⟩) hneB (.int .i32 (at' ei x))).other (p := ⟨B + 1, x * 4 + 2, none⟩) hneB (.int .i32 (at' er x))).other (p := ⟨B + 1, x * 4 + 3, none⟩) hneB (.int .i32 (at' en x))
      have hb' : ∀ j : Nat, (⟨B + 1, j, none⟩ : Addr).block < w.heap.size → No (B + 1) := fun j h => absurd h (by rw [HB.out]; simp)
      have HKW : Hid _ := (((hkw.setCell (p := ⟨B + 1, x * 4, none⟩) (hb' _) (.int .i32 (at' em x))).setCell (p := ⟨B + 1, x * 4 + 1, none⟩) (hb' _) (.int .i32 (at' ei x))).setCell (p := ⟨B + 1, x * 4 + 2, none⟩) (hb' _) (.int .i32 (at' er x))).setCell (p := ⟨B + 1, x * 4 + 3, none⟩) (hb' _) (.int .i32 (at' en x))
      clear hc3 hc4 hc5 hc6 e3 e4 e5 e6 hv0 hv1 hv2 hv3 hneB hEN heA hbA hkw hb' hH hS D im hne
      generalize at' em x = mv at *
      generalize at' ei x = iv at *
      generalize at' er x = rv at *
      generalize at' en x = nv at *
      go_wp2_with fail
      go_region
      go_wp2_with fail
      go_roundw
      case rel => exact ⟨x + 1, _, by omega, by go_num, HEA.out, HEN.out, HBA.out, Keeps.drew HKW.out⟩
      case measure => simp [intOf]; omega
    · obtain rfl : x = n := by omega
      have hA : ∀ g, a0 = some ⟨g, 0, none⟩ → g < B := fun g hg => by rw [HB.out]; exact sl_lt hH hg
      have hA' : ∀ g, a1 = some ⟨g, 0, none⟩ → g < B := fun g hg => by rw [HB.out]; exact sl_lt hS hg
      have HA : Hid _ := hA
      have HA' : Hid _ := hA'
      have hst : CSt wr wr B (B + 1) nh ns a0 a1 [.slice a0 nh nh, .slice (some ⟨B + 1, 0, none⟩) x x, .slice a1 ns ns, .slice a2 nc c2, .int .i64 y7, .int .i64 y8, .int .i64 y9, .int .i64 y10] (hd.map (Value.int .i32)) (st.map (Value.int .i32)) cs := ⟨hH.kept hkw, hS.kept hkw, heA, hbA, Keeps.refl _ _⟩
      have hap : Apart B (B + 1) a0 a1 := ⟨by omega, fun g hg => by have := hA g hg; omega, fun g hg => by have := hA' g hg; omega, hne⟩
      have HST : Hid _ := hst
      have HAP : Hid _ := hap
      have HEN : Hid _ := hEN
      have HHR : Hid _ := row_of_map (n := nh) (zs := hd) (by simpa using hH.1)
      have HSR : Hid _ := row_of_map (n := ns) (zs := st) (by simpa using hS.1)
      clear hst hap hEN hH hS hA hA' heA hbA hne r3 r4 r5 r6
      go_wp2_with fail
      refine (compact28 B (B + 1) nh ns x a0 a1 (.slice a2 nc c2) (.int .i64 y7) (.int .i64 y8) (.int .i64 y9) (.int .i64 y10) hd st em ei er en (hd.map (Value.int .i32)) (st.map (Value.int .i32)) cs _ hn HST.out HEN.out HHR.out HSR.out D im HAP.out).mono ?_
      rintro e w3 ⟨rfl, hc, sc, ec, hR, hE, hEN, hH, hHr, hS, hSr, hK⟩
      have hkw3 : Keeps (Two a0 a1) w w3 := hkw.trans hK (fun _ _ h => h.elim) (fun k hk e => by
        have hb := HB.out
        rcases e with e | e | e | e
        · omega
        · omega
        · exact .inl e
        · exact .inr e)
      have HEN : Hid _ := hEN
      have HHr : Hid _ := hHr
      have HSr : Hid _ := hSr
      have hcl := cnt_le em x
      have p1 := hR.cell (j := 1) rfl
      have lB : B + 1 < w3.heap.size := hE.lt
      clear hEN hHr hSr hK hkw HST HAP HHR HSR D im
      obtain ⟨K, hKc⟩ : ∃ K, K = cnt em x := ⟨_, rfl⟩
      have HKc : Hid (K = cnt em x) := hKc
      rw [← hKc] at p1 hcl hR
      clear hKc
      go_wp2_with (at_make; refine wpList_make_at _ rfl (.tmp 90) (.tmp 90) 22 rfl 21 i0 (.int .i32 0) 1 4 Try.underlying22 hi hz0 hz1 hz2 .i64 .i64 _ _ K rfl rfl rfl rfl (by omega) (by omega) ?_)
      intro w4 cm hml _ hmA k4 hs4
      have l4 : w3.heap.size < w4.heap.size := by omega
      have hml' : cm.length = K := by omega
      clear hs4 hml
      go_wp2_with (at_make; refine wpList_make_at _ rfl (.tmp 92) (.tmp 92) 22 rfl 21 i0 (.int .i32 0) 1 4 Try.underlying22 hi hz0 hz1 hz2 .i64 .i64 _ _ K rfl rfl rfl rfl (by omega) (by omega) ?_)
      intro w5 ci hil _ hiA k5 hs5
      have l5 : w4.heap.size < w5.heap.size := by omega
      have hil' : ci.length = K := by omega
      clear hs5 hil
      go_wp2_with (at_make; refine wpList_make_at _ rfl (.tmp 94) (.tmp 94) 22 rfl 21 i0 (.int .i32 0) 1 4 Try.underlying22 hi hz0 hz1 hz2 .i64 .i64 _ _ K rfl rfl rfl rfl (by omega) (by omega) ?_)
      intro w6 cr hrl _ hrA k6 hs6
      have l6 : w5.heap.size < w6.heap.size := by omega
      have hrl' : cr.length = K := by omega
      clear hs6 hrl
      go_wp2_with (at_make; refine wpList_make_at _ rfl (.tmp 96) (.tmp 96) 22 rfl 21 i0 (.int .i32 0) 1 4 Try.underlying22 hi hz0 hz1 hz2 .i64 .i64 _ _ K rfl rfl rfl rfl (by omega) (by omega) ?_)
      intro w7 cn hnl _ hnA k7 hs7
      have hnl' : cn.length = K := by omega
      clear hs7 hnl
      have k37 := ((k4.tr k5).tr k6).tr k7
      have hZ : ZSt w w7 B nh ns a0 a1 [.slice a0 nh nh, .slice (some ⟨B + 1, 0, none⟩) K x, .slice a1 ns ns, .slice a2 nc c2, .int .i64 y7, .int .i64 y8, .int .i64 y9, .int .i64 y10] ec hc sc w3.heap.size w4.heap.size w5.heap.size w6.heap.size cm ci cr cn :=
        ⟨hR.kept k37, hE.kept k37, hH.kept k37, hS.kept k37, hmA.kept ((k5.tr k6).tr k7), hiA.kept (k6.tr k7), hrA.kept k7, hnA, hkw3.trans k37 (fun _ _ h => h) (fun _ _ h => h.elim)⟩
      clear hR hE hH hS hmA hiA hrA hnA hkw3 k4 k5 k6 k7 k37 p1
      obtain ⟨g1, hg1⟩ : ∃ g, g = w3.heap.size := ⟨_, rfl⟩
      obtain ⟨g2, hg2⟩ : ∃ g, g = w4.heap.size := ⟨_, rfl⟩
      obtain ⟨g3, hg3⟩ : ∃ g, g = w5.heap.size := ⟨_, rfl⟩
      obtain ⟨g4, hg4⟩ : ∃ g, g = w6.heap.size := ⟨_, rfl⟩
      rw [← hg1] at hZ lB l4 ⊢
      rw [← hg2] at hZ l4 l5 ⊢
      rw [← hg3] at hZ l5 l6 ⊢
      rw [← hg4] at hZ l6 ⊢
      clear hg1 hg2 hg3 hg4
      go_wp2_with fail
      go_loopw [36] (fun i wr => ∃ (y : Nat) (cm ci cr cn : List Value), y ≤ K ∧ i = .int .i64 y ∧ ZSt w wr B nh ns a0 a1 [.slice a0 nh nh, .slice (some ⟨B + 1, 0, none⟩) K x, .slice a1 ns ns, .slice a2 nc c2, .int .i64 y7, .int .i64 y8, .int .i64 y9, .int .i64 y10] ec hc sc g1 g2 g3 g4 cm ci cr cn ∧
        RowTo K (fun p => at' em (pick em x p)) y cm ∧ RowTo K (fun p => at' ei (pick em x p)) y ci ∧ RowTo K (fun p => at' er (pick em x p)) y cr ∧ RowTo K (fun p => lst (fun r => (at' ei (pick em x r)).toNat) (-1) (at' ei (pick em x p)).toNat p) y cn) (fun i _ => K - (intOf i).toNat)
      case atStart => exact ⟨0, cm, ci, cr, cn, Nat.zero_le _, rfl, hZ, ⟨hml', fun j h => absurd h (by omega)⟩, ⟨hil', fun j h => absurd h (by omega)⟩, ⟨hrl', fun j h => absurd h (by omega)⟩, ⟨hnl', fun j h => absurd h (by omega)⟩⟩
      case round =>
        clear hZ hml' hil' hrl' hnl'
        obtain ⟨y, cm, ci, cr, cn, hy, rfl, hZ, t1, t2, t3, t4⟩ := hrel
        have p1 := hZ.R.cell (j := 1) rfl
        by_cases hlt2 : y < K
        · obtain ⟨c0, c1, c2', c3'⟩ := HEN.out.2 y (by rw [← HKc.out]; exact hlt2)
          have r0 := hZ.E.cell c0
          have r1 := hZ.E.cell c1
          have r2 := hZ.E.cell c2'
          have r3 := hZ.E.cell c3'
          try dsimp only at r0 r1 r2 r3
          obtain ⟨v1, hv1⟩ := at_get' t1.1 hlt2
          obtain ⟨v2, hv2⟩ := at_get' t2.1 hlt2
          obtain ⟨v3, hv3⟩ := at_get' t3.1 hlt2
          obtain ⟨v4, hv4⟩ := at_get' t4.1 hlt2
          have s1 := hZ.c1.cell hv1
          have s2 := hZ.c2.cell hv2
          have s3 := hZ.c3.cell hv3
          have s4 := hZ.c4.cell hv4
          have f1 := hZ.c1.frozen y
          have f2 := hZ.c2.frozen y
          have f3 := hZ.c3.frozen y
          have f4 := hZ.c4.frozen y
          have m1 := hZ.c1.lt
          have m2 := hZ.c2.lt
          have m3 := hZ.c3.lt
          have m4 := hZ.c4.lt
          have T1 : Hid _ := rowTo_step t1 hlt2
          have T2 : Hid _ := rowTo_step t2 hlt2
          have T3 : Hid _ := rowTo_step t3 hlt2
          have T4 : Hid _ := rowTo_step t4 hlt2
          have HZ : Hid _ := fun v1 v2 v3 v4 => hZ.step (by rw [HB.out]; exact Nat.le_refl _) lB l4 l5 l6 HA.out HA'.out y v1 v2 v3 v4
          clear c0 c1 c2' c3' hv1 hv2 hv3 hv4 t1 t2 t3 t4 hZ
          generalize at' em (pick em x y) = mv at *
          generalize lst (fun r => (at' ei (pick em x r)).toNat) (-1) (at' ei (pick em x y)).toNat y = nv at *
          generalize at' ei (pick em x y) = iv at *
          generalize at' er (pick em x y) = rv at *
          go_wp2_with fail
          go_roundw
          case rel => exact ⟨y + 1, _, _, _, _, by omega, by go_num, ZSt.alloc (HZ.out _ _ _ _) _, T1.out, T2.out, T3.out, T4.out⟩
          case measure => simp [intOf]; omega
        · obtain rfl : y = K := by omega
          have p0 := hZ.R.cell (j := 0) rfl
          have p2 := hZ.R.cell (j := 2) rfl
          have p3 := hZ.R.cell (j := 3) rfl
          have p4 := hZ.R.cell (j := 4) rfl
          have p5 := hZ.R.cell (j := 5) rfl
          have p6 := hZ.R.cell (j := 6) rfl
          have p7 := hZ.R.cell (j := 7) rfl
          go_wp2_with fail
          go_quiet (fail)
          go_wp2_with fail
          refine bodyPost_ret (v := .tuple #[.slice a0 nh nh, .slice a1 ns ns, .slice a2 nc c2, .slice (some ⟨g1, 0, none⟩) y y, .slice (some ⟨g2, 0, none⟩) y y, .slice (some ⟨g3, 0, none⟩) y y, .slice (some ⟨g4, 0, none⟩) y y, .int .i64 y7, .int .i64 y8, .int .i64 y9, .int .i64 y10]) (by simp [results, Try.results11, go_sem]) rfl ?_
          have hkc := HKc.out
          subst hkc
          exact ⟨g1, g2, g3, g4, hc, sc, cm, ci, cr, cn, rfl, hZ.H, HHr.out, hZ.S, HSr.out, hZ.c1, t1, hZ.c2, t2, hZ.c3, t3, hZ.c4, t4, hZ.K.drewN _⟩
end Go.Proofs.Qxb6603867a
