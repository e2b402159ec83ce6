/- Steps on a pool, for the walks of moveRight, moveLeft, merge. -/
import Derived.Test.Qxb6603837aBoth
namespace Go.Proofs.Qxb6603837a
open Go.RowKit
/-- the pool M' lies in w', and the others' blocks stand since w -/
def Got (F : Nat → Prop) (w : World) (M' : Mm) (w' : World) : Prop := Pool F w' M' ∧ Keeps (Not' F) w w'
theorem at_facts {w : World} {a : Nat} {u v : Value} (h : At w a 60 [u, v]) : w.cell? ⟨a, 0, none⟩ = some u ∧ w.cell? ⟨a, 1, none⟩ = some v ∧ w.frozen? ⟨a, 0, none⟩ = false ∧ w.frozen? ⟨a, 1, none⟩ = false :=
  ⟨h.cell (by simp), h.cell (by simp), h.frozen 0, h.frozen 1⟩
section
variable {F : Nat → Prop} {V : Nat → Value × Value} {M : Mm} {a : Nat} {n : Nd} {w w1 w2 : World} {v1 v2 : Value}
theorem PoolV.insKeys {ks : List ByteArray} (p : PoolV F V w M) (hm : M a = some n) (h : InsPost w 9 (V a).1 (ks.map Value.string) (.returned v1) w1) :
    (At w1 a 60 [(V a).1, (V a).2]) ∧ PoolV F (upd V a (v1, (V a).2)) (w1.setCell ⟨a, 0, none⟩ v1) (upd M a (some ⟨ks, n.cs⟩)) ∧ Keeps (Not' F) w (w1.setCell ⟨a, 0, none⟩ v1) := by
  obtain ⟨v', e, ho, hk, hb, _⟩ := h
  cases e
  have na := p.node a n hm
  obtain ⟨h1, h2⟩ := p.setKeys hm hk ho hb
  exact ⟨na.at_.keep hk (na.key_other na.at_ (by decide)), h1, p.out hm h2⟩
theorem PoolV.insKids {cs : List Nat} (p : PoolV F V w M) (hm : M a = some n) (hcs : cs ≠ []) (h : InsPost w 25 (V a).2 (cs.map ptr) (.returned v1) w1) :
    (At w1 a 60 [(V a).1, (V a).2]) ∧ PoolV F (upd V a ((V a).1, v1)) (w1.setCell ⟨a, 1, none⟩ v1) (upd M a (some ⟨n.ks, cs⟩)) ∧ Keeps (Not' F) w (w1.setCell ⟨a, 1, none⟩ v1) := by
  obtain ⟨v', e, ho, hk, hb, _⟩ := h
  cases e
  have na := p.node a n hm
  obtain ⟨h1, h2⟩ := p.setKids hm hk ho hb hcs
  exact ⟨na.at_.keep hk (na.kid_other na.at_ (by decide)), h1, p.out hm h2⟩
theorem PoolV.delKids {cs : List Nat} (p : PoolV F V w M) (hm : M a = some n) (hcs : cs ≠ []) (h : DelPost w 25 (V a).2 (cs.map ptr) (.returned v1) w1) :
    (At w1 a 60 [(V a).1, (V a).2]) ∧ PoolV F (upd V a ((V a).1, v1)) (w1.setCell ⟨a, 1, none⟩ v1) (upd M a (some ⟨n.ks, cs⟩)) ∧ Keeps (Not' F) w (w1.setCell ⟨a, 1, none⟩ v1) := by
  obtain ⟨v', e, ho, hk, hb⟩ := h
  cases e
  have na := p.node a n hm
  obtain ⟨h1, h2⟩ := p.setKids hm hk ho (.inl hb) hcs
  exact ⟨na.at_.keep hk (na.kid_other na.at_ (by decide)), h1, p.out hm h2⟩
/-- what a walk asks of a node with keys: its slice, its cells -/
theorem NodeIn.keyFacts (na : NodeIn w a (V a) n) (h0 : 0 < n.ks.length) :
    ∃ g c, (V a).1 = .slice (some ⟨g, 0, none⟩) n.ks.length c ∧ n.ks.length ≤ c ∧ c ≤ 9223372036854775807 ∧ (∀ (j : Nat) (x : ByteArray), n.ks[j]? = some x → w.cell? ⟨g, j, none⟩ = some (.string x)) ∧ (∀ j, w.frozen? ⟨g, j, none⟩ = false) := by
  obtain ⟨g, c, hv, h1, h2, h3, h4⟩ := na.keys.open' (by simpa using h0)
  exact ⟨g, c, by simpa using hv, by simpa using h1, h2, fun j x hx => h3 j _ (by simp [hx]), h4⟩
theorem NodeIn.kidFacts (na : NodeIn w a (V a) n) (h0 : 0 < n.cs.length) :
    ∃ g c, (V a).2 = .slice (some ⟨g, 0, none⟩) n.cs.length c ∧ n.cs.length ≤ c ∧ c ≤ 9223372036854775807 ∧ (∀ (j : Nat) (x : Nat), n.cs[j]? = some x → w.cell? ⟨g, j, none⟩ = some (ptr x)) ∧ (∀ j, w.frozen? ⟨g, j, none⟩ = false) := by
  obtain ⟨g, c, hv, h1, h2, h3, h4⟩ := na.kids.open' (by simpa using h0)
  exact ⟨g, c, by simpa using hv, by simpa using h1, h2, fun j x hx => h3 j _ (by simp [hx]), h4⟩
/-- the call insert37 behind the making of its one-cell argument -/
theorem insKeysCall {i : Nat} {x : ByteArray} (p : PoolV F V w M) (hm : M a = some n) (hi : i ≤ n.ks.length) (hn : n.ks.length ≤ 1000) :
    Calls Try.prog 37 #[(V a).1, .int .i64 i, .slice (some ⟨w.heap.size, 0, none⟩) 1 1] (w.alloc (.cells #[.string x] 9)) (InsPost (w.alloc (.cells #[.string x] 9)) 9 (V a).1 ((n.ks.take i ++ x :: n.ks.drop i).map Value.string)) := by
  have p1 := p.keep ((Keeps.refl No w).alloc (.cells #[.string x] 9))
  have := insert37 (V a).1 (n.ks.map Value.string) i (.string x) w.heap.size (w.alloc (.cells #[.string x] 9)) (by simpa using hi) (p1.node a n hm).keys (by simpa using At.new w 9 #[.string x])
    (fun e => by have := p.its_lt hm (.inr (.inl e)); omega) (by simpa using hn) (one_str _) rfl
  simpa using this
theorem insKidsCall {i : Nat} {x : Nat} (p : PoolV F V w M) (hm : M a = some n) (hi : i ≤ n.cs.length) (hn : n.cs.length ≤ 1000) :
    Calls Try.prog 38 #[(V a).2, .int .i64 i, .slice (some ⟨w.heap.size, 0, none⟩) 1 1] (w.alloc (.cells #[ptr x] 25)) (InsPost (w.alloc (.cells #[ptr x] 25)) 25 (V a).2 ((n.cs.take i ++ x :: n.cs.drop i).map ptr)) := by
  have p1 := p.keep ((Keeps.refl No w).alloc (.cells #[ptr x] 25))
  have := insert38 (V a).2 (n.cs.map ptr) i (ptr x) w.heap.size (w.alloc (.cells #[ptr x] 25)) (by simpa using hi) (p1.node a n hm).kids (by simpa using At.new w 25 #[ptr x])
    (fun e => by have := p.its_lt hm (.inr (.inr e)); omega) (by simpa using hn) (one_ptr _) rfl
  simpa using this
end
end Go.Proofs.Qxb6603837a
