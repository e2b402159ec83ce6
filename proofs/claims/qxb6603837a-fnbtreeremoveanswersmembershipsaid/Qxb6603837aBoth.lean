/- Two calls in an open order, each on a field of one node, then the two stores. -/
import Derived.Test.Qxb6603837aSplit
namespace Go.Proofs.Qxb6603837a
open Go.RowKit
section
variable {F : Nat → Prop} {V : Nat → Value × Value} {M : Mm} {a : Nat} {n : Nd} {w w1 w2 : World} {v1 v2 : Value}
theorem NodeIn.kid_other (na : NodeIn w a (V a) n) {e : TypeId} {cs : List Value} {g : Nat} (h : At w g e cs) (he : e ≠ 25) : ¬ OnlyB (V a).2 g := fun k => by
  obtain ⟨cs', hc⟩ := na.kids.at' k
  exact he (h.tag hc)
theorem NodeIn.key_other (na : NodeIn w a (V a) n) {e : TypeId} {cs : List Value} {g : Nat} (h : At w g e cs) (he : e ≠ 9) : ¬ OnlyB (V a).1 g := fun k => by
  obtain ⟨cs', hc⟩ := na.keys.at' k
  exact he (h.tag hc)
/-- what stands behind one call on the keys -/
structure HalfK (V : Nat → Value × Value) (a : Nat) (n : Nd) (w w1 : World) (v1 : Value) (ks : List ByteArray) : Prop where
  at_ : At w1 a 60 [(V a).1, (V a).2]
  own : OwnS w1 9 v1 (ks.map Value.string)
  kids : OwnS w1 25 (V a).2 (n.cs.map ptr)
  keeps : Keeps (Its V a) w w1
  same : v1.ownBlock = (V a).1.ownBlock
structure HalfC (V : Nat → Value × Value) (a : Nat) (n : Nd) (w w1 : World) (v2 : Value) (cs : List Nat) : Prop where
  at_ : At w1 a 60 [(V a).1, (V a).2]
  own : OwnS w1 25 v2 (cs.map ptr)
  keys : OwnS w1 9 (V a).1 (n.ks.map Value.string)
  keeps : Keeps (Its V a) w w1
  same : v2.ownBlock = (V a).2.ownBlock
structure Whole (V : Nat → Value × Value) (a : Nat) (w w2 : World) (v1 v2 : Value) (ks : List ByteArray) (cs : List Nat) : Prop where
  at_ : At w2 a 60 [(V a).1, (V a).2]
  own1 : OwnS w2 9 v1 (ks.map Value.string)
  own2 : OwnS w2 25 v2 (cs.map ptr)
  keeps : Keeps (Its V a) w w2
  same1 : v1.ownBlock = (V a).1.ownBlock
  same2 : v2.ownBlock = (V a).2.ownBlock
theorem halfK (na : NodeIn w a (V a) n) {ks : List ByteArray} (h : DelPost w 9 (V a).1 (ks.map Value.string) (.returned v1) w1) : HalfK V a n w w1 v1 ks := by
  obtain ⟨v', e, ho, hk, hb⟩ := h
  cases e
  refine ⟨na.at_.keep hk (na.key_other na.at_ (by decide)), ho, na.kids.keep hk (fun g hg => ?_), hk.trans (Keeps.refl No _) (fun _ _ h => .inr (.inl h)) (fun _ _ h => h.elim), hb⟩
  obtain ⟨cs', hc⟩ := na.kids.at' hg
  exact na.key_other hc (by decide)
theorem halfC (na : NodeIn w a (V a) n) {cs : List Nat} (h : DelPost w 25 (V a).2 (cs.map ptr) (.returned v2) w1) : HalfC V a n w w1 v2 cs := by
  obtain ⟨v', e, ho, hk, hb⟩ := h
  cases e
  refine ⟨na.at_.keep hk (na.kid_other na.at_ (by decide)), ho, na.keys.keep hk (fun g hg => ?_), hk.trans (Keeps.refl No _) (fun _ _ h => .inr (.inr h)) (fun _ _ h => h.elim), hb⟩
  obtain ⟨cs', hc⟩ := na.keys.at' hg
  exact na.kid_other hc (by decide)
theorem wholeKC {ks : List ByteArray} {cs : List Nat} (hk : HalfK V a n w w1 v1 ks) (h : DelPost w1 25 (V a).2 (cs.map ptr) (.returned v2) w2) : Whole V a w w2 v1 v2 ks cs := by
  obtain ⟨v', e, ho, hk2, hb⟩ := h
  cases e
  have hne : ∀ g e cs, At w1 g e cs → e ≠ 25 → ¬ OnlyB (V a).2 g := fun g e cs hat he h => by
    obtain ⟨cs', hc⟩ := hk.kids.at' h
    exact he (hat.tag hc)
  refine ⟨hk.at_.keep hk2 (hne _ _ _ hk.at_ (by decide)), hk.own.keep hk2 (fun g hg => ?_), ho, hk.keeps.trans hk2 (fun _ _ h => h) (fun _ _ h => .inr (.inr h)), hk.same, hb⟩
  obtain ⟨cs', hc⟩ := hk.own.at' hg
  exact hne g 9 cs' hc (by decide)
theorem wholeCK {ks : List ByteArray} {cs : List Nat} (hk : HalfC V a n w w1 v2 cs) (h : DelPost w1 9 (V a).1 (ks.map Value.string) (.returned v1) w2) : Whole V a w w2 v1 v2 ks cs := by
  obtain ⟨v', e, ho, hk2, hb⟩ := h
  cases e
  have hne : ∀ g e cs, At w1 g e cs → e ≠ 9 → ¬ OnlyB (V a).1 g := fun g e cs hat he h => by
    obtain ⟨cs', hc⟩ := hk.keys.at' h
    exact he (hat.tag hc)
  refine ⟨hk.at_.keep hk2 (hne _ _ _ hk.at_ (by decide)), ho, hk.own.keep hk2 (fun g hg => ?_), hk.keeps.trans hk2 (fun _ _ h => h) (fun _ _ h => .inr (.inl h)), hb, hk.same⟩
  obtain ⟨cs', hc⟩ := hk.own.at' hg
  exact hne g 25 cs' hc (by decide)
/-- the two stores -/
theorem PoolV.both (p : PoolV F V w M) (hm : M a = some n) {ks : List ByteArray} {cs : List Nat} (h : Whole V a w w2 v1 v2 ks cs) (hcs : cs ≠ []) :
    PoolV F (upd V a (v1, v2)) ((w2.setCell ⟨a, 0, none⟩ v1).setCell ⟨a, 1, none⟩ v2) (upd M a (some ⟨ks, cs⟩)) ∧ Keeps (Not' F) w ((w2.setCell ⟨a, 0, none⟩ v1).setCell ⟨a, 1, none⟩ v2) := by
  have k1 : Keeps (Its V a) w ((w2.setCell ⟨a, 0, none⟩ v1).setCell ⟨a, 1, none⟩ v2) := (h.keeps.setCell (p := ⟨a, 0, none⟩) (fun _ => .inl rfl) v1).setCell (p := ⟨a, 1, none⟩) (fun _ => .inl rfl) v2
  have k2 : Keeps (fun i => i = a) w2 ((w2.setCell ⟨a, 0, none⟩ v1).setCell ⟨a, 1, none⟩ v2) := ((Keeps.refl (fun i => i = a) w2).setCell (p := ⟨a, 0, none⟩) (fun _ => rfl) v1).setCell (p := ⟨a, 1, none⟩) (fun _ => rfl) v2
  refine ⟨p.change hm k1 ⟨?_, h.own1.keep k2 (fun g hg e => ?_), h.own2.keep k2 (fun g hg e => ?_), fun e => absurd e hcs⟩ (.inl h.same1) (.inl h.same2), p.out hm k1⟩
  · have := (h.at_.set 0 v1).set 1 v2
    simpa using this
  · subst e
    obtain ⟨cs', hc⟩ := h.own1.at' hg
    exact absurd (h.at_.tag hc) (by decide)
  · subst e
    obtain ⟨cs', hc⟩ := h.own2.at' hg
    exact absurd (h.at_.tag hc) (by decide)
end
end Go.Proofs.Qxb6603837a
