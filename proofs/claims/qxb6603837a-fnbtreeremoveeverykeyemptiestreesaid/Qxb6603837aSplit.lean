import Derived.Test.Qxb6603837aFind
import Derived.Deep.DeepCutAuto
import Derived.Deep.RegionWith
namespace Go.Proofs.Qxb6603837a
open Go.RowKit
/-- a string, a pointer: one cell -/
theorem one_str (ks : List ByteArray) : ∀ u ∈ ks.map Value.string, u.oneCell' = true := by
  intro u hu
  obtain ⟨k, _, rfl⟩ := List.mem_map.1 hu
  rfl
theorem one_ptr (cs : List Nat) : ∀ u ∈ cs.map ptr, u.oneCell' = true := by
  intro u hu
  obtain ⟨k, _, rfl⟩ := List.mem_map.1 hu
  rfl
/-- a slice that holds something, its block, its cells -/
theorem OwnS.open' {w : World} {e : TypeId} {v : Value} {xs : List Value} (h : OwnS w e v xs) (h0 : 0 < xs.length) :
    ∃ g c, v = .slice (some ⟨g, 0, none⟩) xs.length c ∧ xs.length ≤ c ∧ c ≤ 9223372036854775807 ∧ (∀ (j : Nat) (u : Value), xs[j]? = some u → w.cell? ⟨g, j, none⟩ = some u) ∧ (∀ j, w.frozen? ⟨g, j, none⟩ = false) := by
  rcases h with ⟨_, rfl⟩ | ⟨g, c, rest, rfl, hat, hl, hc⟩
  · simp at h0
  · exact ⟨g, c, rfl, by omega, hc, fun j u hu => hat.cell (by rw [List.getElem?_append_left (List.getElem?_eq_some_iff.1 hu).1]; exact hu), fun j => hat.frozen j⟩
def SplitPost (F : Nat → Prop) (M : Mm) (a : Nat) (l r : Nd) (sep : ByteArray) (w : World) (e : Ending) (w' : World) : Prop :=
  ∃ b, e = .returned (.tuple #[ptr b, .string sep]) ∧ w.heap.size ≤ b ∧ Pool F w' (upd (upd M b (some r)) a (some l)) ∧ Keeps (Not' F) w w'
theorem OwnS.val {w : World} {e : TypeId} {v : Value} {xs : List Value} (h : OwnS w e v xs) (hb : v.ownBlock ≠ none) : ∃ g c, v = .slice (some ⟨g, 0, none⟩) xs.length c := by
  rcases h with ⟨rfl, _⟩ | ⟨g, c, rest, rfl, _⟩
  · exact absurd rfl hb
  · exact ⟨g, c, rfl⟩
theorem clone_ret {w w1 : World} {e : TypeId} {ys : List Value} {en : Ending} (h : ClonePost w e ys en w1) {m : Nat} (hm : ys.length = m) : ∃ g c, en = .returned (.slice (some ⟨g, 0, none⟩) m c) := by
  subst hm
  obtain ⟨v, g, rfl, ho, _, hb, _⟩ := h
  obtain ⟨g, c, rfl⟩ := ho.val (by simp [hb])
  exact ⟨g, c, rfl⟩
theorem del_ret {w w1 : World} {e : TypeId} {v : Value} {ys : List Value} {en : Ending} (h : DelPost w e v ys en w1) (hv : v.ownBlock ≠ none) {m : Nat} (hm : ys.length = m) : ∃ g c, en = .returned (.slice (some ⟨g, 0, none⟩) m c) := by
  subst hm
  obtain ⟨v', rfl, ho, _, hb⟩ := h
  obtain ⟨g, c, rfl⟩ := ho.val (by rw [hb]; exact hv)
  exact ⟨g, c, rfl⟩
theorem ins_ret {w w1 : World} {e : TypeId} {v : Value} {ys : List Value} {en : Ending} (h : InsPost w e v ys en w1) {m : Nat} (hm : ys.length = m) : ∃ g c, en = .returned (.slice (some ⟨g, 0, none⟩) m c) := by
  subst hm
  obtain ⟨v', rfl, ho, _, _, hb⟩ := h
  obtain ⟨g, c, rfl⟩ := ho.val hb
  exact ⟨g, c, rfl⟩
/-- behind Delete, truncate: the store of the keys' new value -/
theorem PoolV.delKeys {F : Nat → Prop} {V : Nat → Value × Value} {M : Mm} {a : Nat} {n : Nd} {w w1 : World} {v1 : Value} {ks : List ByteArray} (p : PoolV F V w M) (hm : M a = some n) (h : DelPost w 9 (V a).1 (ks.map Value.string) (.returned v1) w1) :
    (At w1 a 60 [(V a).1, (V a).2]) ∧ PoolV F (upd V a (v1, (V a).2)) (w1.setCell ⟨a, 0, none⟩ v1) (upd M a (some ⟨ks, n.cs⟩)) ∧ Keeps (Not' F) w (w1.setCell ⟨a, 0, none⟩ v1) := by
  obtain ⟨v', e, ho, hk, hb⟩ := h
  cases e
  have na := p.node a n hm
  obtain ⟨h1, h2⟩ := p.setKeys hm hk ho (.inl hb)
  refine ⟨na.at_.keep hk (fun h => ?_), h1, p.out hm h2⟩
  obtain ⟨cs', hc⟩ := na.keys.at' h
  exact absurd (na.at_.tag hc) (by decide)
structure SplitA (F : Nat → Prop) (V : Nat → Value × Value) (M : Mm) (a : Nat) (n : Nd) (ks : List ByteArray) (w w1 : World) (v1 : Value) : Prop where
  cell : (w1.alloc (.cells #[v1, .slice none 0 0] 60)).cell? ⟨a, 0, none⟩ = some (V a).1
  pool : PoolV F (upd V w1.heap.size (v1, .slice none 0 0)) (w1.alloc (.cells #[v1, .slice none 0 0] 60)) (upd M w1.heap.size (some ⟨ks, []⟩))
  keeps : Keeps No w (w1.alloc (.cells #[v1, .slice none 0 0] 60))
  mem : upd M w1.heap.size (some ⟨ks, []⟩) a = some n
  val : upd V w1.heap.size (v1, .slice none 0 0) a = V a
  ne : a ≠ w1.heap.size
  ge : w.heap.size ≤ w1.heap.size
theorem splitA {F : Nat → Prop} {V : Nat → Value × Value} {M : Mm} {a : Nat} {n : Nd} {w w1 : World} {v1 : Value} {ks : List ByteArray} (p : PoolV F V w M) (hm : M a = some n) (h : ClonePost w 9 (ks.map Value.string) (.returned v1) w1) :
    SplitA F V M a n ks w w1 v1 := by
  obtain ⟨v', g, e, ho, hk, hb, h1, h2⟩ := h
  cases e
  have hne : a ≠ w1.heap.size := by have := p.its_lt hm (.inl rfl); have := hk.size; omega
  have hk2 : Keeps No w (w1.alloc (.cells #[v1, .slice none 0 0] 60)) := hk.alloc _
  have hp : PoolV F (upd V w1.heap.size (v1, .slice none 0 0)) (w1.alloc (.cells #[v1, .slice none 0 0] 60)) (upd M w1.heap.size (some ⟨ks, []⟩)) := p.new hk2 hk.size ⟨by have := At.new w1 60 #[v1, .slice none 0 0]; simpa using this, ho.keep ((Keeps.refl No w1).alloc _) (fun _ _ h => h), OwnS.nil _ _, fun _ => rfl⟩ (fun g' hg => by rw [hb] at hg; cases hg; exact h1) (fun g' hg => by cases hg)
  exact ⟨((p.keep hk2).node a n hm).cell0, hp, hk2, (upd_other _ _ hne).trans hm, upd_other _ _ hne, hne, hk.size⟩
/-- behind split's truncate -/
structure SplitB (F : Nat → Prop) (M : Mm) (a b : Nat) (n : Nd) (ks : List ByteArray) (w w3 : World) (v1 v3 : Value) : Prop where
  cell : ∃ u, w3.cell? ⟨a, 0, none⟩ = some u
  frozen : w3.frozen? ⟨a, 0, none⟩ = false
  pool : Pool F (w3.setCell ⟨a, 0, none⟩ v3) (upd (upd M b (some ⟨ks, []⟩)) a (some ⟨n.ks.take 32, []⟩))
  keeps : Keeps (Not' F) w (w3.setCell ⟨a, 0, none⟩ v3)
  right : (w3.setCell ⟨a, 0, none⟩ v3).cell? ⟨b, 0, none⟩ = some v1
  first : ∀ g c, v1 = .slice (some ⟨g, 0, none⟩) ks.length c → ∀ x, ks[0]? = some x → (w3.setCell ⟨a, 0, none⟩ v3).cell? ⟨g, 0, none⟩ = some (.string x)
theorem splitB {F : Nat → Prop} {V : Nat → Value × Value} {M : Mm} {a : Nat} {n : Nd} {w w1 w3 : World} {v1 v3 : Value} {ks : List ByteArray} (h : SplitA F V M a n ks w w1 v1) (hl : n.cs = [])
    (hd : DelPost (w1.alloc (.cells #[v1, .slice none 0 0] 60)) 9 (V a).1 ((n.ks.take 32).map Value.string) (.returned v3) w3) : SplitB F M a w1.heap.size n ks w w3 v1 v3 := by
  rw [← h.val] at hd
  obtain ⟨h1, h2, h3⟩ := h.pool.delKeys h.mem hd
  have hb := h2.node w1.heap.size ⟨ks, []⟩ ((upd_other _ _ h.ne.symm).trans (upd_same _ _ _))
  rw [upd_other _ _ h.ne.symm, upd_same] at hb
  refine ⟨⟨_, h1.cell (by simp; rfl)⟩, h1.frozen 0, ⟨_, by rw [hl] at h2; exact h2⟩, h.keeps.not'.and h3, hb.cell0, fun g c e x hx => ?_⟩
  have := hb.keys
  rcases this with ⟨e', _⟩ | ⟨g', c', rest, e', hat, _⟩
  · rw [e] at e'; cases e'
  · have : g = g' := by
      have e2 : v1 = _ := e'
      rw [e] at e2
      injection e2 with e3
      injection e3 with e4
      injection e4
    subst this
    exact hat.cell (by cases ks with | nil => cases hx | cons y ys => simpa using hx)
set_option maxHeartbeats 4000000 in
set_option maxRecDepth 100000 in
theorem split40_leaf {F : Nat → Prop} {V : Nat → Value × Value} {M : Mm} {a : Nat} {n : Nd} {w : World} (p : PoolV F V w M) (hm : M a = some n) (hl : n.cs = []) (hs : n.ks.length = 65) (sep : ByteArray) (hsep : n.ks[32]? = some sep) :
    Calls Try.prog 40 #[ptr a] w (SplitPost F M a ⟨n.ks.take 32, []⟩ ⟨n.ks.drop 32, []⟩ sep w) := by
  have na := p.node a n hm
  have hsz : n.size = 65 := by simp [Nd.size, hl, hs]
  have hlf : n.leaf? = true := by simp [Nd.leaf?, hl]
  have c0 := na.cell0
  obtain ⟨g, c, hv, hgc, hc63, hcs, hfr⟩ := na.keys.open' (by simp; omega)
  simp only [List.length_map, hs] at hv hgc
  have hcl := fun cc => clone48 g 32 33 cc ((n.ks.drop 32).map Value.string) w (by simp [hs]) (by omega) (by omega) (fun j u hu => hcs (32 + j) u (by simpa using hu)) (one_str _)
  rw [hv] at c0
  have h65 : ¬ c = 32 := by omega
  have h66 : (32 : Int) ≤ (c : Int) := by omega
  have h67 : 32 ≤ c := by omega
  have HP : Hid (PoolV F V w M) := p
  have HM : Hid (M a = some n) := hm
  clear hcs hfr p hm
  go_enter Try.func40, Try.ntmps40
  go_wp2_with (first
    | (go_at_call 39; refine (size39 na).mono ?_; rintro e w' ⟨rfl, rfl⟩; rw [hsz])
    | (go_at_call 35; refine (leaf35 na).mono ?_; rintro e w' ⟨rfl, rfl⟩; rw [hlf])
    | (go_at_call 48; refine (hcl _).mono ?_; rintro e w1 hq; have HC : Hid _ := hq; clear hq
       obtain ⟨g1, c1, rfl⟩ := clone_ret HC.out (m := 33) (by simp [hs])
       have HA : Hid _ := splitA HP.out HM.out HC.out
       have hc2 := HA.out.cell
       rw [hv] at hc2))
  refine (truncate49 _ (n.ks.map Value.string) 32 _ (by simp [hs]) ?_ (by simp [hs])).mono ?_
  · have := (HA.out.pool.node a n HA.out.mem).keys
    rw [HA.out.val, hv] at this
    exact this
  rintro e w3 hq
  obtain ⟨g3, c3, rfl⟩ := del_ret hq (by simp [Value.ownBlock]) (m := 32) (by simp [hs])
  rw [← List.map_take, ← hv] at hq
  have HB : Hid _ := splitB HA.out hl hq
  obtain ⟨u, hu⟩ := HB.out.cell
  have hf := HB.out.frozen
  have hri := HB.out.right
  have hfi := HB.out.first g1 c1 (by simp [hs]) sep (by simpa using hsep)
  go_wp2_with fail
  go_quiet (fail)
  go_wp2
  go_ret2
  refine ⟨w1.heap.size, rfl, HA.out.ge, ?_, ?_⟩
  · obtain ⟨V', p'⟩ := HB.out.pool
    exact ⟨V', p'.keep ((Keeps.refl No _).drewN _)⟩
  · exact HB.out.keeps.drewN _
end Go.Proofs.Qxb6603837a
