/- A pool of nodes: an abstract memory M (address to keys and children), laid in the heap; F: the blocks of others. -/
import Derived.Test.Qxb6603837aTrunc
import Derived.Test.Qxb6603837aOrd
namespace Go.Proofs.Qxb6603837a
open Go.RowKit
structure Nd where
  ks : List ByteArray
  cs : List Nat
abbrev ptr (a : Nat) : Value := .pointer (some ⟨a, 0, none⟩)
abbrev Mm := Nat → Option Nd
def upd {β : Type} (M : Nat → β) (a : Nat) (n : β) : Nat → β := fun b => if b = a then n else M b
theorem upd_same {β : Type} (M : Nat → β) (a : Nat) (n : β) : upd M a n a = n := if_pos rfl
theorem upd_other {β : Type} (M : Nat → β) {a b : Nat} (n : β) (h : b ≠ a) : upd M a n b = M b := if_neg h
/-- one node, laid in the heap -/
structure NodeIn (w : World) (a : Nat) (v : Value × Value) (n : Nd) : Prop where
  at_ : At w a 60 [v.1, v.2]
  keys : OwnS w 9 v.1 (n.ks.map Value.string)
  kids : OwnS w 25 v.2 (n.cs.map ptr)
  leaf : n.cs = [] → v.2 = .slice none 0 0
structure PoolV (F : Nat → Prop) (V : Nat → Value × Value) (w : World) (M : Mm) : Prop where
  node : ∀ a n, M a = some n → NodeIn w a (V a) n
  kinj : ∀ a b n m g, M a = some n → M b = some m → (V a).1.ownBlock = some g → (V b).1.ownBlock = some g → a = b
  cinj : ∀ a b n m g, M a = some n → M b = some m → (V a).2.ownBlock = some g → (V b).2.ownBlock = some g → a = b
  fnode : ∀ a n, M a = some n → ¬ F a
  fkeys : ∀ a n g, M a = some n → (V a).1.ownBlock = some g → ¬ F g
  fkids : ∀ a n g, M a = some n → (V a).2.ownBlock = some g → ¬ F g
  flt : ∀ k, F k → k < w.heap.size
def Pool (F : Nat → Prop) (w : World) (M : Mm) : Prop := ∃ V, PoolV F V w M
def Not' (F : Nat → Prop) (k : Nat) : Prop := ¬ F k
theorem At.tag {w : World} {g : Nat} {e e' : TypeId} {cs cs' : List Value} (h : At w g e cs) (k : At w g e' cs') : e = e' := by
  unfold At at h k
  rw [h] at k
  simp at k
  exact k.2
theorem OwnS.at' {w : World} {e : TypeId} {v : Value} {xs : List Value} (h : OwnS w e v xs) {g : Nat} (hg : v.ownBlock = some g) : ∃ cs, At w g e cs := by
  rcases h with ⟨rfl, _⟩ | ⟨g', c, rest, rfl, hat, _⟩
  · cases hg
  · cases hg; exact ⟨_, hat⟩
section
variable {F : Nat → Prop} {V : Nat → Value × Value} {w w' : World} {M : Mm} {a : Nat} {n n' : Nd}
theorem NodeIn.keep {S : Nat → Prop} {v : Value × Value} (h : NodeIn w a v n) (k : Keeps S w w') (h0 : ¬ S a) (h1 : ∀ g, v.1.ownBlock = some g → ¬ S g) (h2 : ∀ g, v.2.ownBlock = some g → ¬ S g) : NodeIn w' a v n :=
  ⟨h.at_.keep k h0, h.keys.keep k h1, h.kids.keep k h2, h.leaf⟩
theorem PoolV.keep (p : PoolV F V w M) (k : Keeps No w w') : PoolV F V w' M :=
  ⟨fun a n h => (p.node a n h).keep k (fun h => h) (fun _ _ h => h) (fun _ _ h => h), p.kinj, p.cinj, p.fnode, p.fkeys, p.fkids, fun i h => Nat.lt_of_lt_of_le (p.flt i h) k.size⟩
/-- what belongs to node a -/
def Its (V : Nat → Value × Value) (a k : Nat) : Prop := k = a ∨ (V a).1.ownBlock = some k ∨ (V a).2.ownBlock = some k
theorem PoolV.apart (p : PoolV F V w M) (hm : M a = some n) {b : Nat} {m : Nd} (hb : M b = some m) (hne : b ≠ a) {k : Nat} (hk : Its V b k) : ¬ Its V a k := by
  have na := p.node a n hm
  have nb := p.node b m hb
  intro ha
  rcases hk with rfl | hk | hk
  · rcases ha with h | h | h
    · exact hne h
    · obtain ⟨cs, hc⟩ := na.keys.at' h
      exact absurd (nb.at_.tag hc) (by decide)
    · obtain ⟨cs, hc⟩ := na.kids.at' h
      exact absurd (nb.at_.tag hc) (by decide)
  · obtain ⟨cs, hc⟩ := nb.keys.at' hk
    rcases ha with rfl | h | h
    · exact absurd (na.at_.tag hc) (by decide)
    · exact hne (p.kinj b a m n k hb hm hk h)
    · obtain ⟨cs', hc'⟩ := na.kids.at' h
      exact absurd (hc'.tag hc) (by decide)
  · obtain ⟨cs, hc⟩ := nb.kids.at' hk
    rcases ha with rfl | h | h
    · exact absurd (na.at_.tag hc) (by decide)
    · obtain ⟨cs', hc'⟩ := na.keys.at' h
      exact absurd (hc'.tag hc) (by decide)
    · exact hne (p.cinj b a m n k hb hm hk h)
theorem PoolV.its_lt (p : PoolV F V w M) (hm : M a = some n) {k : Nat} (hk : Its V a k) : k < w.heap.size := by
  have na := p.node a n hm
  rcases hk with rfl | hk | hk
  · exact na.at_.lt
  · exact na.keys.lt hk
  · exact na.kids.lt hk
theorem PoolV.its_out (p : PoolV F V w M) (hm : M a = some n) {k : Nat} (hk : Its V a k) : ¬ F k := by
  rcases hk with rfl | hk | hk
  · exact p.fnode _ n hm
  · exact p.fkeys a n k hm hk
  · exact p.fkids a n k hm hk
/-- node a turned, nothing else; its blocks the same or new -/
theorem PoolV.change (p : PoolV F V w M) (hm : M a = some n) (k : Keeps (Its V a) w w') {v : Value × Value} (hn : NodeIn w' a v n') (h1 : SameB w w' (V a).1 v.1) (h2 : SameB w w' (V a).2 v.2) :
    PoolV F (upd V a v) w' (upd M a (some n')) := by
  have hself : ∀ g, v.1.ownBlock = some g → (V a).1.ownBlock = some g ∨ w.heap.size ≤ g := fun g hg => by
    rcases h1 with h | ⟨g', h, hl, _⟩
    · exact .inl (h ▸ hg)
    · rw [h] at hg; cases hg; exact .inr hl
  have hself2 : ∀ g, v.2.ownBlock = some g → (V a).2.ownBlock = some g ∨ w.heap.size ≤ g := fun g hg => by
    rcases h2 with h | ⟨g', h, hl, _⟩
    · exact .inl (h ▸ hg)
    · rw [h] at hg; cases hg; exact .inr hl
  have hF : ∀ g, w.heap.size ≤ g → ¬ F g := fun g hg h => by have := p.flt g h; omega
  have other : ∀ b m, b ≠ a → upd M a (some n') b = some m → M b = some m := fun b m hb h => by rwa [upd_other _ _ hb] at h
  refine ⟨fun b m hb => ?_, fun b c m m' g hb hc hg hg' => ?_, fun b c m m' g hb hc hg hg' => ?_, fun b m hb => ?_, fun b m g hb hg => ?_, fun b m g hb hg => ?_, fun i h => Nat.lt_of_lt_of_le (p.flt i h) k.size⟩
  · by_cases e : b = a
    · subst e
      rw [upd_same] at hb ⊢
      cases hb
      exact hn
    · have hb' := other b m e hb
      rw [upd_other _ _ e]
      exact (p.node b m hb').keep k (p.apart hm hb' e (.inl rfl)) (fun g hg => p.apart hm hb' e (.inr (.inl hg))) (fun g hg => p.apart hm hb' e (.inr (.inr hg)))
  · by_cases e : b = a <;> by_cases e' : c = a
    · rw [e, e']
    · subst e
      rw [upd_same] at hg
      rw [upd_other _ _ e'] at hg'
      have hc' := other c m' e' hc
      rcases hself g hg with h | h
      · exact p.kinj b c n m' g hm hc' h hg'
      · have := p.its_lt hc' (.inr (.inl hg')); omega
    · subst e'
      rw [upd_same] at hg'
      rw [upd_other _ _ e] at hg
      have hb' := other b m e hb
      rcases hself g hg' with h | h
      · exact p.kinj b c m n g hb' hm hg h
      · have := p.its_lt hb' (.inr (.inl hg)); omega
    · rw [upd_other _ _ e] at hg
      rw [upd_other _ _ e'] at hg'
      exact p.kinj b c m m' g (other b m e hb) (other c m' e' hc) hg hg'
  · by_cases e : b = a <;> by_cases e' : c = a
    · rw [e, e']
    · subst e
      rw [upd_same] at hg
      rw [upd_other _ _ e'] at hg'
      have hc' := other c m' e' hc
      rcases hself2 g hg with h | h
      · exact p.cinj b c n m' g hm hc' h hg'
      · have := p.its_lt hc' (.inr (.inr hg')); omega
    · subst e'
      rw [upd_same] at hg'
      rw [upd_other _ _ e] at hg
      have hb' := other b m e hb
      rcases hself2 g hg' with h | h
      · exact p.cinj b c m n g hb' hm hg h
      · have := p.its_lt hb' (.inr (.inr hg)); omega
    · rw [upd_other _ _ e] at hg
      rw [upd_other _ _ e'] at hg'
      exact p.cinj b c m m' g (other b m e hb) (other c m' e' hc) hg hg'
  · by_cases e : b = a
    · subst e; exact p.fnode b n hm
    · exact p.fnode b m (other b m e hb)
  · by_cases e : b = a
    · subst e
      rw [upd_same] at hg
      exact (hself g hg).elim (p.fkeys b n g hm) (hF g)
    · rw [upd_other _ _ e] at hg
      exact p.fkeys b m g (other b m e hb) hg
  · by_cases e : b = a
    · subst e
      rw [upd_same] at hg
      exact (hself2 g hg).elim (p.fkids b n g hm) (hF g)
    · rw [upd_other _ _ e] at hg
      exact p.fkids b m g (other b m e hb) hg
theorem PoolV.out (p : PoolV F V w M) (hm : M a = some n) (k : Keeps (Its V a) w w') : Keeps (Not' F) w w' :=
  ⟨k.os, k.tape, k.output, k.size, fun i hi hn => k.block i hi (fun h => hn (p.its_out hm h))⟩
theorem Keeps.not' (k : Keeps No w w') : Keeps (Not' F) w w' := ⟨k.os, k.tape, k.output, k.size, fun i hi _ => k.block i hi (fun h => h)⟩
theorem Keeps.and {w'' : World} (k : Keeps (Not' F) w w') (k' : Keeps (Not' F) w' w'') : Keeps (Not' F) w w'' := k.trans k' (fun _ _ h => h) (fun _ _ h => h)
/-- the keys turned: 'x.keys = ..' -/
theorem PoolV.setKeys (p : PoolV F V w M) (hm : M a = some n) {v : Value} {ks : List ByteArray} (k : Keeps (OnlyB (V a).1) w w') (ho : OwnS w' 9 v (ks.map Value.string)) (hs : SameB w w' (V a).1 v) :
    PoolV F (upd V a (v, (V a).2)) (w'.setCell ⟨a, 0, none⟩ v) (upd M a (some ⟨ks, n.cs⟩)) ∧ Keeps (Its V a) w (w'.setCell ⟨a, 0, none⟩ v) := by
  have na := p.node a n hm
  have k1 : Keeps (Its V a) w (w'.setCell ⟨a, 0, none⟩ v) := Keeps.setCell (k.trans (Keeps.refl No w') (fun _ _ h => .inr (.inl h)) (fun _ _ h => h.elim)) (fun _ => .inl rfl) v
  have hne : ∀ g e cs, At w g e cs → e ≠ 9 → ¬ OnlyB (V a).1 g := fun g e cs hat he h => by
    obtain ⟨cs', hc⟩ := na.keys.at' h
    exact he (hat.tag hc)
  have hat : At w' a 60 [(V a).1, (V a).2] := na.at_.keep k (hne a 60 _ na.at_ (by decide))
  have k2 : Keeps (fun i => i = a) w' (w'.setCell ⟨a, 0, none⟩ v) := Keeps.setCell (S := fun i => i = a) (p := ⟨a, 0, none⟩) (Keeps.refl _ w') (fun _ => rfl) v
  have hn' : NodeIn (w'.setCell ⟨a, 0, none⟩ v) a (v, (V a).2) ⟨ks, n.cs⟩ := by
    refine ⟨by simpa using hat.set 0 v, ho.keep k2 (fun g hg e => ?_), (na.kids.keep k (fun g hg => ?_)).keep k2 (fun g hg e => ?_), na.leaf⟩
    · subst e
      obtain ⟨cs', hc⟩ := ho.at' hg
      exact absurd (hat.tag hc) (by decide)
    · obtain ⟨cs', hc⟩ := na.kids.at' hg
      exact hne g 25 cs' hc (by decide)
    · subst e
      obtain ⟨cs', hc⟩ := na.kids.at' hg
      exact absurd (na.at_.tag hc) (by decide)
  refine ⟨p.change hm k1 hn' ?_ (.inl rfl), k1⟩
  rcases hs with h | ⟨g, h, hl, hlt⟩
  · exact .inl h
  · exact .inr ⟨g, h, hl, Nat.lt_of_lt_of_le hlt k2.size⟩
/-- the children turned -/
theorem PoolV.setKids (p : PoolV F V w M) (hm : M a = some n) {v : Value} {cs : List Nat} (k : Keeps (OnlyB (V a).2) w w') (ho : OwnS w' 25 v (cs.map ptr)) (hs : SameB w w' (V a).2 v) (hcs : cs ≠ []) :
    PoolV F (upd V a ((V a).1, v)) (w'.setCell ⟨a, 1, none⟩ v) (upd M a (some ⟨n.ks, cs⟩)) ∧ Keeps (Its V a) w (w'.setCell ⟨a, 1, none⟩ v) := by
  have na := p.node a n hm
  have k1 : Keeps (Its V a) w (w'.setCell ⟨a, 1, none⟩ v) := Keeps.setCell (k.trans (Keeps.refl No w') (fun _ _ h => .inr (.inr h)) (fun _ _ h => h.elim)) (fun _ => .inl rfl) v
  have hne : ∀ g e cs, At w g e cs → e ≠ 25 → ¬ OnlyB (V a).2 g := fun g e cs hat he h => by
    obtain ⟨cs', hc⟩ := na.kids.at' h
    exact he (hat.tag hc)
  have hat : At w' a 60 [(V a).1, (V a).2] := na.at_.keep k (hne a 60 _ na.at_ (by decide))
  have k2 : Keeps (fun i => i = a) w' (w'.setCell ⟨a, 1, none⟩ v) := Keeps.setCell (S := fun i => i = a) (p := ⟨a, 1, none⟩) (Keeps.refl _ w') (fun _ => rfl) v
  have hn' : NodeIn (w'.setCell ⟨a, 1, none⟩ v) a ((V a).1, v) ⟨n.ks, cs⟩ := by
    refine ⟨by simpa using hat.set 1 v, (na.keys.keep k (fun g hg => ?_)).keep k2 (fun g hg e => ?_), ho.keep k2 (fun g hg e => ?_), fun h => absurd h hcs⟩
    · obtain ⟨cs', hc⟩ := na.keys.at' hg
      exact hne g 9 cs' hc (by decide)
    · subst e
      obtain ⟨cs', hc⟩ := na.keys.at' hg
      exact absurd (na.at_.tag hc) (by decide)
    · subst e
      obtain ⟨cs', hc⟩ := ho.at' hg
      exact absurd (hat.tag hc) (by decide)
  refine ⟨p.change hm k1 hn' (.inl rfl) ?_, k1⟩
  rcases hs with h | ⟨g, h, hl, hlt⟩
  · exact .inl h
  · exact .inr ⟨g, h, hl, Nat.lt_of_lt_of_le hlt k2.size⟩
/-- one key turned in place: 'n.keys[i] = x' -/
theorem PoolV.setKey (p : PoolV F V w M) (hm : M a = some n) {g : Nat} (hg : (V a).1.ownBlock = some g) {i : Nat} (hi : i < n.ks.length) (x : ByteArray) :
    PoolV F V (w.setCell ⟨g, i, none⟩ (.string x)) (upd M a (some ⟨n.ks.set i x, n.cs⟩)) ∧ Keeps (Its V a) w (w.setCell ⟨g, i, none⟩ (.string x)) := by
  have na := p.node a n hm
  have k1 : Keeps (Its V a) w (w.setCell ⟨g, i, none⟩ (.string x)) := Keeps.setCell (Keeps.refl _ w) (fun _ => .inr (.inl hg)) _
  have k0 : Keeps (OnlyB (V a).1) w (w.setCell ⟨g, i, none⟩ (.string x)) := Keeps.setCell (Keeps.refl _ w) (fun _ => hg) _
  have hne : ∀ g e cs, At w g e cs → e ≠ 9 → ¬ OnlyB (V a).1 g := fun g e cs hat he h => by
    obtain ⟨cs', hc⟩ := na.keys.at' h
    exact he (hat.tag hc)
  have hn' : NodeIn (w.setCell ⟨g, i, none⟩ (.string x)) a (V a) ⟨n.ks.set i x, n.cs⟩ := by
    refine ⟨na.at_.keep k0 (hne a 60 _ na.at_ (by decide)), ?_, na.kids.keep k0 (fun g hg => ?_), na.leaf⟩
    · rcases na.keys with ⟨h, _⟩ | ⟨g', c, rest, h, hat, hl, hc⟩
      · rw [h] at hg; cases hg
      · rw [h] at hg
        have hgg : g' = g := by simpa [Value.ownBlock] using hg
        subst hgg
        refine .inr ⟨g', c, rest, by rw [h]; simp, ?_, by simpa using hl, hc⟩
        have := hat.set i (.string x)
        rw [List.set_append_left _ _ (by simpa using hi)] at this
        simpa using this
    · obtain ⟨cs', hc⟩ := na.kids.at' hg
      exact hne g 25 cs' hc (by decide)
  have := p.change hm k1 hn' (.inl rfl) (.inl rfl)
  have e : upd V a (V a) = V := funext fun b => by
    by_cases h : b = a
    · subst h; exact upd_same _ _ _
    · exact upd_other _ _ h
  rw [e] at this
  exact ⟨this, k1⟩
/-- a new node -/
theorem PoolV.new (p : PoolV F V w M) (k : Keeps No w w') (ha : w.heap.size ≤ a) {v : Value × Value} (hn : NodeIn w' a v n') (h1 : ∀ g, v.1.ownBlock = some g → w.heap.size ≤ g) (h2 : ∀ g, v.2.ownBlock = some g → w.heap.size ≤ g) :
    PoolV F (upd V a v) w' (upd M a (some n')) := by
  have hF : ∀ g, w.heap.size ≤ g → ¬ F g := fun g hg h => by have := p.flt g h; omega
  have other : ∀ b m, b ≠ a → upd M a (some n') b = some m → M b = some m := fun b m hb h => by rwa [upd_other _ _ hb] at h
  refine ⟨fun b m hb => ?_, fun b c m m' g hb hc hg hg' => ?_, fun b c m m' g hb hc hg hg' => ?_, fun b m hb => ?_, fun b m g hb hg => ?_, fun b m g hb hg => ?_, fun i h => Nat.lt_of_lt_of_le (p.flt i h) k.size⟩
  · by_cases e : b = a
    · subst e
      rw [upd_same] at hb ⊢
      cases hb
      exact hn
    · rw [upd_other _ _ e]
      exact (p.node b m (other b m e hb)).keep k (fun h => h) (fun _ _ h => h) (fun _ _ h => h)
  · by_cases e : b = a <;> by_cases e' : c = a
    · rw [e, e']
    · subst e
      rw [upd_same] at hg
      rw [upd_other _ _ e'] at hg'
      have := h1 g hg
      have := p.its_lt (other c m' e' hc) (.inr (.inl hg')); omega
    · subst e'
      rw [upd_same] at hg'
      rw [upd_other _ _ e] at hg
      have := h1 g hg'
      have := p.its_lt (other b m e hb) (.inr (.inl hg)); omega
    · rw [upd_other _ _ e] at hg
      rw [upd_other _ _ e'] at hg'
      exact p.kinj b c m m' g (other b m e hb) (other c m' e' hc) hg hg'
  · by_cases e : b = a <;> by_cases e' : c = a
    · rw [e, e']
    · subst e
      rw [upd_same] at hg
      rw [upd_other _ _ e'] at hg'
      have := h2 g hg
      have := p.its_lt (other c m' e' hc) (.inr (.inr hg')); omega
    · subst e'
      rw [upd_same] at hg'
      rw [upd_other _ _ e] at hg
      have := h2 g hg'
      have := p.its_lt (other b m e hb) (.inr (.inr hg)); omega
    · rw [upd_other _ _ e] at hg
      rw [upd_other _ _ e'] at hg'
      exact p.cinj b c m m' g (other b m e hb) (other c m' e' hc) hg hg'
  · by_cases e : b = a
    · subst e; exact hF b ha
    · exact p.fnode b m (other b m e hb)
  · by_cases e : b = a
    · subst e
      rw [upd_same] at hg
      exact hF g (h1 g hg)
    · rw [upd_other _ _ e] at hg
      exact p.fkeys b m g (other b m e hb) hg
  · by_cases e : b = a
    · subst e
      rw [upd_same] at hg
      exact hF g (h2 g hg)
    · rw [upd_other _ _ e] at hg
      exact p.fkids b m g (other b m e hb) hg
end
end Go.Proofs.Qxb6603837a
