import Derived.Test.Qxb6603867aCDom
import Derived.BigRegion
import Derived.RegionTactic
namespace Go.Proofs.Qxb6603867a
open Go.RowKit Plf Plc
/-- the entries' cells: member, item, reach, next, by turns; c entries in the block, the first n of them told -/
def Ent (c n : Nat) (M I R N : Nat → Int) (cs : List Value) : Prop :=
  cs.length = c * 4 ∧ ∀ x, x < n → cs[x * 4]? = some (.int .i32 (M x)) ∧ cs[x * 4 + 1]? = some (.int .i32 (I x)) ∧ cs[x * 4 + 2]? = some (.int .i32 (R x)) ∧ cs[x * 4 + 3]? = some (.int .i32 (N x))
/-- a row of int32 -/
def Row (n : Nat) (F : Nat → Int) (cs : List Value) : Prop := cs.length = n ∧ ∀ q, q < n → cs[q]? = some (.int .i32 (F q))
theorem row_set {n : Nat} {F G : Nat → Int} {cs : List Value} {q : Nat} {v : Int} (h : Row n F cs) (hv : G q = v) (ho : ∀ p, p ≠ q → G p = F p) : Row n G (cs.set q (.int .i32 v)) := by
  refine ⟨by simpa using h.1, fun p hp => ?_⟩
  by_cases e : p = q
  · subst e; rw [List.getElem?_set_self (by rw [h.1]; exact hp), hv]
  · rw [List.getElem?_set_ne (fun x => e x.symm), ho p e]; exact h.2 p hp
theorem row_congr {n : Nat} {F G : Nat → Int} {cs : List Value} (h : Row n F cs) (ho : ∀ p, p < n → G p = F p) : Row n G cs := ⟨h.1, fun p hp => by rw [ho p hp]; exact h.2 p hp⟩
theorem at_get' {cs : List Value} {n k : Nat} (h : cs.length = n) (hk : k < n) : ∃ v, cs[k]? = some v := ⟨cs[k], by simp⟩
/-- the blocks that compact may write -/
def Mine (gr gE : Nat) (ah aS : Option Addr) (k : Nat) : Prop := k = gr ∨ k = gE ∨ ah = some ⟨k, 0, none⟩ ∨ aS = some ⟨k, 0, none⟩
def CompPost (w : World) (gr gE nh ns n : Nat) (ah aS : Option Addr) (x3 x4 x5 x6 x7 : Value) (hd st em ei er : List Int) (e : Ending) (w' : World) : Prop :=
  e = .returned (.tuple #[]) ∧ ∃ hc sc ec : List Value, At w' gr 53 [.slice ah nh nh, .slice (some ⟨gE, 0, none⟩) (cnt em n) n, .slice aS ns ns, x3, x4, x5, x6, x7] ∧ At w' gE 57 ec ∧
    Ent n (cnt em n) (fun p => at' em (pick em n p)) (fun p => at' ei (pick em n p)) (fun p => at' er (pick em n p)) (fun p => lst (fun r => (at' ei (pick em n r)).toNat) (-1) (at' ei (pick em n p)).toNat p) ec ∧
    Sl w' 0 21 ah nh hc ∧ Row nh (fun q => lst (fun r => (at' ei (pick em n r)).toNat) (headA hd ei n q) q (cnt em n)) hc ∧ Sl w' 0 21 aS ns sc ∧ Row ns (startA st em n) sc ∧ Keeps (Mine gr gE ah aS) w w'
/-- compact's memory -/
structure CSt (w wr : World) (gr gE nh ns : Nat) (ah aS : Option Addr) (rc hc sc ec : List Value) : Prop where
  H : Sl wr 0 21 ah nh hc
  S : Sl wr 0 21 aS ns sc
  E : At wr gE 57 ec
  R : At wr gr 53 rc
  K : Keeps (Mine gr gE ah aS) w wr
structure Apart (gr gE : Nat) (ah aS : Option Addr) : Prop where
  n1 : gr ≠ gE
  n2 : ∀ g, ah = some ⟨g, 0, none⟩ → g ≠ gE ∧ g ≠ gr
  n3 : ∀ g, aS = some ⟨g, 0, none⟩ → g ≠ gE ∧ g ≠ gr
  n4 : ∀ g, ah = some ⟨g, 0, none⟩ → aS ≠ some ⟨g, 0, none⟩
theorem Sl.alloc {w : World} {base n : Nat} {e : TypeId} {a : Option Addr} {cs : List Value} (h : Sl w base e a n cs) (o : Obj) : Sl (w.alloc o) base e a n cs :=
  ⟨h.1, h.2.elim .inl fun ⟨g, ha, hb, hg⟩ => .inr ⟨g, ha, hb, hg.alloc o⟩⟩
theorem Sl.other {w : World} {base n : Nat} {e : TypeId} {a : Option Addr} {cs : List Value} (h : Sl w base e a n cs) {p : Addr} (hp : ∀ g, a = some ⟨g, 0, none⟩ → g ≠ p.block) (v : Value) : Sl (w.setCell p v) base e a n cs :=
  ⟨h.1, h.2.elim .inl fun ⟨g, ha, hb, hg⟩ => .inr ⟨g, ha, hb, hg.other (hp g ha) v⟩⟩
theorem Sl.set {w : World} {base n g : Nat} {e : TypeId} {cs : List Value} (h : Sl w base e (some ⟨g, 0, none⟩) n cs) (j : Nat) (v : Value) : Sl (w.setCell ⟨g, j, none⟩ v) base e (some ⟨g, 0, none⟩) n (cs.set j v) := by
  refine ⟨by simpa using h.1, .inr ?_⟩
  rcases h.2 with ⟨h0, _⟩ | ⟨g', ha, hb, hg⟩
  · cases h0
  · simp at ha
    subst ha
    exact ⟨g, rfl, hb, hg.set j v⟩
section
variable {w wr : World} {gr gE nh ns : Nat} {ah aS : Option Addr} {rc hc sc ec : List Value}
theorem CSt.alloc (h : CSt w wr gr gE nh ns ah aS rc hc sc ec) (o : Obj) : CSt w (wr.alloc o) gr gE nh ns ah aS rc hc sc ec := ⟨h.H.alloc o, h.S.alloc o, h.E.alloc o, h.R.alloc o, h.K.alloc o⟩
theorem CSt.drew (h : CSt w wr gr gE nh ns ah aS rc hc sc ec) : CSt w wr.drew gr gE nh ns ah aS rc hc sc ec := ⟨h.H, h.S, h.E, h.R, h.K.drew⟩
theorem CSt.drewN (h : CSt w wr gr gE nh ns ah aS rc hc sc ec) (n : Nat) : CSt w (wr.drewN n) gr gE nh ns ah aS rc hc sc ec := ⟨h.H, h.S, h.E, h.R, h.K.drewN n⟩
theorem CSt.setH {g : Nat} (h : CSt w wr gr gE nh ns (some ⟨g, 0, none⟩) aS rc hc sc ec) (A : Apart gr gE (some ⟨g, 0, none⟩) aS) (j : Nat) (v : Value) :
    CSt w (wr.setCell ⟨g, j, none⟩ v) gr gE nh ns (some ⟨g, 0, none⟩) aS rc (hc.set j v) sc ec := by
  obtain ⟨a1, a2⟩ := A.n2 g rfl
  exact ⟨h.H.set j v, h.S.other (fun g' hg' e => A.n4 g rfl (by rw [hg']; simp at e; rw [e])) v, h.E.other (fun e => a1 e.symm) v, h.R.other (fun e => a2 e.symm) v, h.K.setCell (fun _ => .inr (.inr (.inl rfl))) v⟩
theorem CSt.setS {g : Nat} (h : CSt w wr gr gE nh ns ah (some ⟨g, 0, none⟩) rc hc sc ec) (A : Apart gr gE ah (some ⟨g, 0, none⟩)) (j : Nat) (v : Value) :
    CSt w (wr.setCell ⟨g, j, none⟩ v) gr gE nh ns ah (some ⟨g, 0, none⟩) rc hc (sc.set j v) ec := by
  obtain ⟨a1, a2⟩ := A.n3 g rfl
  exact ⟨h.H.other (fun g' hg' e => A.n4 g' hg' (by simp at e; rw [e])) v, h.S.set j v, h.E.other (fun e => a1 e.symm) v, h.R.other (fun e => a2 e.symm) v, h.K.setCell (fun _ => .inr (.inr (.inr rfl))) v⟩
theorem CSt.setE (h : CSt w wr gr gE nh ns ah aS rc hc sc ec) (A : Apart gr gE ah aS) (j : Nat) (v : Value) : CSt w (wr.setCell ⟨gE, j, none⟩ v) gr gE nh ns ah aS rc hc sc (ec.set j v) :=
  ⟨h.H.other (fun g hg => (A.n2 g hg).1) v, h.S.other (fun g hg => (A.n3 g hg).1) v, h.E.set j v, h.R.other A.n1 v, h.K.setCell (fun _ => .inr (.inl rfl)) v⟩
theorem CSt.setR (h : CSt w wr gr gE nh ns ah aS rc hc sc ec) (A : Apart gr gE ah aS) (j : Nat) (v : Value) : CSt w (wr.setCell ⟨gr, j, none⟩ v) gr gE nh ns ah aS (rc.set j v) hc sc ec :=
  ⟨h.H.other (fun g hg => (A.n2 g hg).2) v, h.S.other (fun g hg => (A.n3 g hg).2) v, h.E.other (fun e => A.n1 e.symm) v, h.R.set j v, h.K.setCell (fun _ => .inl rfl) v⟩
end
theorem ent_move {n k : Nat} {em ei er en : List Int} {cs : List Value} (hk : k < n) (h0 : 0 ≤ at' em k)
    (h : Ent n n (moved em n k (at' em)) (moved em n k (at' ei)) (moved em n k (at' er)) (moved em n k (at' en)) cs) :
    Ent n n (moved em n (k + 1) (at' em)) (moved em n (k + 1) (at' ei)) (moved em n (k + 1) (at' er)) (moved em n (k + 1) (at' en))
      ((((cs.set (cnt em k * 4) (.int .i32 (at' em k))).set (cnt em k * 4 + 1) (.int .i32 (at' ei k))).set (cnt em k * 4 + 2) (.int .i32 (at' er k))).set (cnt em k * 4 + 3) (.int .i32 (at' en k))) := by
  have hl := cnt_le em k
  have hlen := h.1
  refine ⟨by simpa using h.1, fun x hx => ?_⟩
  by_cases e : x = cnt em k
  · subst e
    rw [moved_at hk h0, moved_at hk h0, moved_at hk h0, moved_at hk h0]
    refine ⟨?_, ?_, ?_, ?_⟩
    · rw [List.getElem?_set_ne (by omega), List.getElem?_set_ne (by omega), List.getElem?_set_ne (by omega), List.getElem?_set_self (by omega)]
    · rw [List.getElem?_set_ne (by omega), List.getElem?_set_ne (by omega), List.getElem?_set_self (by simp; omega)]
    · rw [List.getElem?_set_ne (by omega), List.getElem?_set_self (by simp; omega)]
    · rw [List.getElem?_set_self (by simp; omega)]
  · rw [moved_other h0 e, moved_other h0 e, moved_other h0 e, moved_other h0 e]
    rw [List.getElem?_set_ne (by omega), List.getElem?_set_ne (by omega), List.getElem?_set_ne (by omega), List.getElem?_set_ne (by omega),
      List.getElem?_set_ne (by omega), List.getElem?_set_ne (by omega), List.getElem?_set_ne (by omega), List.getElem?_set_ne (by omega),
      List.getElem?_set_ne (by omega), List.getElem?_set_ne (by omega), List.getElem?_set_ne (by omega), List.getElem?_set_ne (by omega),
      List.getElem?_set_ne (by omega), List.getElem?_set_ne (by omega), List.getElem?_set_ne (by omega), List.getElem?_set_ne (by omega)]
    exact h.2 x hx
theorem ent_dead {n k : Nat} {em ei er en : List Int} {cs : List Value} (h0 : at' em k < 0)
    (h : Ent n n (moved em n k (at' em)) (moved em n k (at' ei)) (moved em n k (at' er)) (moved em n k (at' en)) cs) :
    Ent n n (moved em n (k + 1) (at' em)) (moved em n (k + 1) (at' ei)) (moved em n (k + 1) (at' er)) (moved em n (k + 1) (at' en)) cs :=
  ⟨h.1, fun x hx => by rw [moved_dead h0, moved_dead h0, moved_dead h0, moved_dead h0]; exact h.2 x hx⟩
theorem ent_zero {n : Nat} {em ei er en : List Int} {cs : List Value} (h : Ent n n (at' em) (at' ei) (at' er) (at' en) cs) :
    Ent n n (moved em n 0 (at' em)) (moved em n 0 (at' ei)) (moved em n 0 (at' er)) (moved em n 0 (at' en)) cs :=
  ⟨h.1, fun x hx => by rw [moved_zero, moved_zero, moved_zero, moved_zero]; exact h.2 x hx⟩
/-- next behind p rounds of the third loop -/
def nextA (em ei en : List Int) (n p r : Nat) : Int := if r < p then lst (fun r => (at' ei (pick em n r)).toNat) (-1) (at' ei (pick em n r)).toNat r else at' en (pick em n r)
theorem ent_third {n : Nat} {em ei er en : List Int} {cs : List Value} (h : Ent n n (moved em n n (at' em)) (moved em n n (at' ei)) (moved em n n (at' er)) (moved em n n (at' en)) cs) :
    Ent n (cnt em n) (fun p => at' em (pick em n p)) (fun p => at' ei (pick em n p)) (fun p => at' er (pick em n p)) (nextA em ei en n 0) cs :=
  ⟨h.1, fun x hx => by
    have hx' : x < n := Nat.lt_of_lt_of_le hx (cnt_le em n)
    have := h.2 x hx'
    rw [moved_end hx, moved_end hx, moved_end hx, moved_end hx] at this
    have e : nextA em ei en n 0 x = at' en (pick em n x) := if_neg (by omega)
    rw [e]
    exact this⟩
theorem ent_link {n p : Nat} {em ei en : List Int} {M I R : Nat → Int} {cs : List Value} (hp : p < cnt em n) (h : Ent n (cnt em n) M I R (nextA em ei en n p) cs) :
    Ent n (cnt em n) M I R (nextA em ei en n (p + 1)) (cs.set (p * 4 + 3) (.int .i32 (lst (fun r => (at' ei (pick em n r)).toNat) (-1) (at' ei (pick em n p)).toNat p))) := by
  have hl := cnt_le em n
  have hlen := h.1
  refine ⟨by simpa using h.1, fun x hx => ?_⟩
  obtain ⟨h0, h1, h2, h3⟩ := h.2 x hx
  rw [List.getElem?_set_ne (by omega), List.getElem?_set_ne (by omega), List.getElem?_set_ne (by omega)]
  refine ⟨h0, h1, h2, ?_⟩
  by_cases e : x = p
  · subst e
    rw [List.getElem?_set_self (by omega)]
    have e : nextA em ei en n (x + 1) x = lst (fun r => (at' ei (pick em n r)).toNat) (-1) (at' ei (pick em n x)).toNat x := if_pos (by omega)
    rw [e]
  · rw [List.getElem?_set_ne (by omega), h3]
    have e : nextA em ei en n (p + 1) x = nextA em ei en n p x := by
      unfold nextA
      by_cases l : x < p
      · rw [if_pos l, if_pos (by omega)]
      · rw [if_neg l, if_neg (by omega)]
    rw [e]
theorem ent_last {n : Nat} {em ei en : List Int} {M I R : Nat → Int} {cs : List Value} (h : Ent n (cnt em n) M I R (nextA em ei en n (cnt em n)) cs) :
    Ent n (cnt em n) M I R (fun p => lst (fun r => (at' ei (pick em n r)).toNat) (-1) (at' ei (pick em n p)).toNat p) cs :=
  ⟨h.1, fun x hx => by
    have := h.2 x hx
    have e : nextA em ei en n (cnt em n) x = lst (fun r => (at' ei (pick em n r)).toNat) (-1) (at' ei (pick em n x)).toNat x := if_pos hx
    rw [e] at this
    exact this⟩
end Go.Proofs.Qxb6603867a
