/- Words for memory: a block that holds just these cells; what a call keeps. Over any program. -/
import Derived.WalkKit
import Derived.Laws.IdiomCopy
import Derived.Laws.AppendOwn
import Derived.WalkSpells
import Derived.WalkLawsBesides
namespace Go.Proofs.Qxb6603837a
open Go.RowKit
/-- block g holds just the cells cs, none of them frozen -/
def At (w : World) (g : Nat) (e : TypeId) (cs : List Value) : Prop := w.heap[g]? = some (.cells cs.toArray e (0, 0))
/-- every old block outside S stands; the streams stand -/
structure Keeps (S : Nat → Prop) (w w' : World) : Prop where
  os : w'.os = w.os
  tape : w'.tape = w.tape
  output : w'.output = w.output
  size : w.heap.size ≤ w'.heap.size
  block : ∀ k, k < w.heap.size → ¬ S k → w'.heap[k]? = w.heap[k]?
def No : Nat → Prop := fun _ => False
theorem Keeps.refl (S : Nat → Prop) (w : World) : Keeps S w w := ⟨rfl, rfl, rfl, Nat.le_refl _, fun _ _ _ => rfl⟩
theorem Keeps.trans {S T U : Nat → Prop} {a b c : World} (h : Keeps S a b) (k : Keeps T b c) (hs : ∀ k, k < a.heap.size → S k → U k) (ht : ∀ k, k < a.heap.size → T k → U k) : Keeps U a c :=
  ⟨k.os.trans h.os, k.tape.trans h.tape, k.output.trans h.output, Nat.le_trans h.size k.size,
    fun i hi hn => (k.block i (Nat.lt_of_lt_of_le hi h.size) (fun t => hn (ht i hi t))).trans (h.block i hi (fun t => hn (hs i hi t)))⟩
theorem Keeps.tr {a b c : World} (h : Keeps No a b) (k : Keeps No b c) : Keeps No a c := h.trans k (fun _ _ h => h) (fun _ _ h => h)
theorem Keeps.alloc {S : Nat → Prop} {a w : World} (h : Keeps S a w) (o : Obj) : Keeps S a (w.alloc o) :=
  h.trans (T := No) ⟨rfl, rfl, rfl, by simp, fun k hk _ => Below.heap_alloc w o k hk⟩ (fun _ _ h => h) (fun _ _ h => h.elim)
theorem Keeps.drewN {S : Nat → Prop} {a w : World} (h : Keeps S a w) (n : Nat) : Keeps S a (w.drewN n) := ⟨h.os, h.tape, h.output, h.size, h.block⟩
theorem Keeps.drew {S : Nat → Prop} {a w : World} (h : Keeps S a w) : Keeps S a w.drew := ⟨h.os, h.tape, h.output, h.size, h.block⟩
theorem Keeps.setCell {S : Nat → Prop} {a w : World} (h : Keeps S a w) {p : Addr} (hp : p.block < a.heap.size → S p.block) (u : Value) : Keeps S a (w.setCell p u) :=
  h.trans (T := fun k => k = p.block) ⟨rfl, rfl, rfl, by simp [World.setCell], fun k _ hn => heap_setCell_other w p k u hn⟩ (fun _ _ h => h) (fun k hk e => by subst e; exact hp hk)
theorem Keeps.below {w w' : World} (h : Keeps No w w') : Below w.heap.size w w' := ⟨h.os, h.tape, h.output, h.size, fun k hk => h.block k hk (fun h => h)⟩
theorem Keeps.of_below {w w' : World} (h : Below w.heap.size w w') : Keeps No w w' := ⟨h.os, h.tape, h.output, h.size, fun k hk _ => h.block k hk⟩
theorem Keeps.of_grown {w w' : World} {r : Option Nat} (h : w.grownBy w' r) : Keeps (fun k => some k = r) w w' := ⟨h.os, h.tape, h.output, h.size, fun k hk hn => h.block k hk hn⟩
theorem Keeps.cell {S : Nat → Prop} {w w' : World} (h : Keeps S w w') {p : Addr} {v : Value} (hv : w.cell? p = some v) (hn : ¬ S p.block) : w'.cell? p = some v :=
  (World.cell?_of_block (w := w) (h.block p.block (World.block_lt_of_cell? w p hv) hn)).trans hv
section
variable {w w' : World} {g : Nat} {e : TypeId} {cs : List Value}
theorem At.lt (h : At w g e cs) : g < w.heap.size := (Array.getElem?_eq_some_iff.1 h).1
theorem At.cell (h : At w g e cs) {j : Nat} {v : Value} (hv : cs[j]? = some v) : w.cell? ⟨g, j, none⟩ = some v := by
  rw [cell_of_row w g j _ e (0, 0) h]
  simpa using hv
theorem At.frozen (h : At w g e cs) (j : Nat) : w.frozen? ⟨g, j, none⟩ = false := frozen_of_row w g j _ e h
theorem At.set (h : At w g e cs) (j : Nat) (v : Value) : At (w.setCell ⟨g, j, none⟩ v) g e (cs.set j v) := by
  have := heap_setCell_same w g j _ e v h
  simpa [At] using this
theorem At.other (h : At w g e cs) {p : Addr} (hp : g ≠ p.block) (v : Value) : At (w.setCell p v) g e cs := (heap_setCell_other w p g v hp).trans h
theorem At.alloc (h : At w g e cs) (o : Obj) : At (w.alloc o) g e cs := (Below.heap_alloc w o g h.lt).trans h
theorem At.new (w : World) (e : TypeId) (c : Array Value) : At (w.alloc (.cells c e)) w.heap.size e c.toList := by
  have := heap_alloc_new w (.cells c e)
  simpa [At] using this
theorem At.drewN (h : At w g e cs) (n : Nat) : At (w.drewN n) g e cs := h
theorem At.drew (h : At w g e cs) : At w.drew g e cs := h
theorem At.keep {S : Nat → Prop} (h : At w g e cs) (k : Keeps S w w') (hn : ¬ S g) : At w' g e cs := (k.block g h.lt hn).trans h
theorem At.kept (h : At w g e cs) (k : Keeps No w w') : At w' g e cs := h.keep k (fun h => h)
end
/-- the n elements from the address a on read cs (each one cell) -/
def Rd (w : World) (a : Option Addr) (n : Nat) (cs : List Value) : Prop :=
  cs.length = n ∧ (0 < n → ∃ b off, a = some ⟨b, off, none⟩ ∧ ∀ (j : Nat) (v : Value), cs[j]? = some v → w.cell? ⟨b, off + j, none⟩ = some v)
theorem Rd.kept {w w' : World} {a : Option Addr} {n : Nat} {cs : List Value} (h : Rd w a n cs) (k : Keeps No w w') : Rd w' a n cs :=
  ⟨h.1, fun hn => let ⟨b, off, e, hc⟩ := h.2 hn; ⟨b, off, e, fun j v hv => k.cell (hc j v hv) (fun h => h)⟩⟩
theorem get_map {α : Type} (f : α → Value) (zs : List α) (d : α) {k : Nat} (h : k < zs.length) : (zs.map f)[k]? = some (f (zs.getD k d)) := by
  simp [List.getD, h]
/-- the address and the cell at place k -/
theorem Rd.at {α : Type} {w : World} {a : Option Addr} {n : Nat} {f : α → Value} {zs : List α} (h : Rd w a n (zs.map f)) (d : α) {k : Nat} (hk : k < n) :
    ∃ b off, a = some ⟨b, off, none⟩ ∧ ∀ j, j < n → w.cell? ⟨b, off + j, none⟩ = some (f (zs.getD j d)) := by
  obtain ⟨b, off, e, hc⟩ := h.2 (by omega)
  have hl : zs.length = n := by simpa using h.1
  exact ⟨b, off, e, fun j hj => hc j _ (get_map f zs d (by omega))⟩
/-- a slice value that begins at its block's head: nil, or the cells xs with spare ones behind -/
def OwnS (w : World) (e : TypeId) (v : Value) (xs : List Value) : Prop :=
  (v = .slice none 0 0 ∧ xs = []) ∨ ∃ g c rest, v = .slice (some ⟨g, 0, none⟩) xs.length c ∧ At w g e (xs ++ rest) ∧ xs.length + rest.length = c ∧ c ≤ 9223372036854775807
def OnlyB (v : Value) (k : Nat) : Prop := v.ownBlock = some k
/-- the new value's block is the old one's, or new -/
def SameB (w w' : World) (v v' : Value) : Prop := v'.ownBlock = v.ownBlock ∨ ∃ g, v'.ownBlock = some g ∧ w.heap.size ≤ g ∧ g < w'.heap.size
theorem OwnS.keep {w w' : World} {e : TypeId} {v : Value} {xs : List Value} {S : Nat → Prop} (h : OwnS w e v xs) (k : Keeps S w w') (hn : ∀ g, v.ownBlock = some g → ¬ S g) : OwnS w' e v xs :=
  h.elim .inl fun ⟨g, c, rest, hv, hg, r⟩ => .inr ⟨g, c, rest, hv, hg.keep k (hn g (by rw [hv]; rfl)), r⟩
theorem OwnS.lt {w : World} {e : TypeId} {v : Value} {xs : List Value} (h : OwnS w e v xs) {g : Nat} (hg : v.ownBlock = some g) : g < w.heap.size := by
  rcases h with ⟨rfl, _⟩ | ⟨g', c, rest, rfl, hat, _⟩
  · cases hg
  · cases hg; exact hat.lt
theorem OwnS.nil (w : World) (e : TypeId) : OwnS w e (.slice none 0 0) [] := .inl ⟨rfl, rfl⟩
theorem Keeps.setCells {S : Nat → Prop} {a : World} {b : Nat} (hb : b < a.heap.size → S b) : ∀ (vs : List Value) (o : Nat) (w : World), Keeps S a w → Keeps S a (w.setCells b o vs)
  | [], _, _, h => h
  | v :: r, o, _, h => Keeps.setCells hb r (o + 1) _ (h.setCell (p := ⟨b, o, none⟩) hb v)
theorem At.setCells {g : Nat} {e : TypeId} : ∀ (vs : List Value) (o : Nat) (w : World) (cs : List Value), At w g e cs → o + vs.length ≤ cs.length → At (w.setCells g o vs) g e (cs.take o ++ vs ++ cs.drop (o + vs.length))
  | [], o, _, cs, h, _ => by simpa [World.setCells] using h
  | v :: r, o, _, cs, h, hl => by
    have h1 := At.setCells r (o + 1) _ _ (h.set o v) (by simp at hl ⊢; omega)
    have e : (cs.set o v).take (o + 1) ++ r ++ (cs.set o v).drop (o + 1 + r.length) = cs.take o ++ (v :: r) ++ cs.drop (o + (v :: r).length) := by
      have hlo : o < cs.length := by simp at hl; omega
      rw [List.drop_set_of_lt (by omega), List.take_add_one, List.take_set_of_le (Nat.le_refl _), show o + 1 + r.length = o + (v :: r).length by simp; omega]
      simp [hlo]
    rw [e] at h1
    exact h1
theorem At.setCellsOther {g b : Nat} {e : TypeId} {cs : List Value} (hb : g ≠ b) : ∀ (vs : List Value) (o : Nat) (w : World), At w g e cs → At (w.setCells b o vs) g e cs
  | [], _, _, h => h
  | v :: r, o, _, h => At.setCellsOther hb r (o + 1) _ (h.other (p := ⟨b, o, none⟩) hb v)
theorem zeroCells_one (z : Value) (n : Nat) : (Builtin.zeroCells #[z] n).toList = List.replicate n z := by
  apply List.ext_getElem?
  intro k
  by_cases h : k < n
  · simp [Builtin.zeroCells, h, Nat.mod_one]
  · simp [Builtin.zeroCells, h]
/-- append(s, x...), s of the sort above, x another row: what comes out -/
theorem run_append_S {P : Program} (w : World) (t ty e : TypeId) (i : TypeInfo) (z : Value) (bytes : Nat) (ht : P.underlying t = some (.slice e)) (hi : P.info? e = some i) (hz : i.zero = some z)
    (hsize : i.size = 1) (hby : i.bytes = bytes) (hzs : z.cells = #[z]) (v : Value) (xs : List Value) (hown : OwnS w e v xs)
    (a : Addr) (m c : Nat) (news : List Value) (hl : news.length = m) (hnews : ∀ j u, news[j]? = some u → w.cell? (a.add j) = some u) (h1 : ∀ u ∈ news, u.oneCell' = true) (hm : 0 < m)
    (h63 : xs.length + m ≤ 1048576) (hb : bytes ≤ 1024) :
    ∃ v' w', (Builtin.append_ #[t, t] ty #[v, .slice (some a) m c]).run P w = .ok v' w' ∧ OwnS w' e v' (xs ++ news) ∧ Keeps (OnlyB v) w w' ∧ SameB w w' v v' ∧ v'.ownBlock ≠ none := by
  have hbb : ∀ k, k ≤ 1048576 → k * bytes ≤ 140737488355328 := fun k hk => by
    have := Nat.mul_le_mul hk hb
    omega
  have grown : ∀ old, ∃ G rest, G = grownCap w (xs.length + m) old e ∧ xs.length + m + rest.length = G ∧ G ≤ 9223372036854775807 ∧
      At (w.drew.alloc (.cells (xs.toArray ++ news.toArray ++ Builtin.zeroCells z.cells (G - (xs.length + m))) e)) w.heap.size e (xs ++ news ++ rest) := by
    intro old
    have hge := grownCap_ge w (xs.length + m) old e
    have hcm := grownCap_le_maxLen w (xs.length + m) old e (by unfold maxLen; omega)
    unfold maxLen at hcm
    refine ⟨_, List.replicate (grownCap w (xs.length + m) old e - (xs.length + m)) z, rfl, by simp; omega, by omega, ?_⟩
    have := At.new w.drew e (xs.toArray ++ news.toArray ++ Builtin.zeroCells z.cells (grownCap w (xs.length + m) old e - (xs.length + m)))
    rw [hzs] at this ⊢
    simp only [Array.toList_append, zeroCells_one] at this
    exact this
  rcases hown with ⟨rfl, rfl⟩ | ⟨g, cp, rest, rfl, hat, hlen, hcp⟩
  · obtain ⟨G, rest, hG, h2, h3, h4⟩ := grown 0
    have hr := run_append_nil (P := P) w t ty e i z ht hi hz a m c news (by rw [hsize, hl]; omega) hnews hm (by simp at h63; omega) (by rw [hby]; have := hbb m (by simp at h63; omega); omega)
    simp only [List.length_nil, Nat.zero_add] at hG h2 h4
    rw [← hG] at hr
    refine ⟨_, _, hr, .inr ⟨w.heap.size, G, rest, ?_, ?_, ?_, h3⟩, ?_, .inr ⟨w.heap.size, rfl, Nat.le_refl _, by simp⟩, by simp [Value.ownBlock]⟩
    · simp [hl]
    · simpa using h4
    · simp [hl, h2]
    · exact ((Keeps.refl _ w).drew).alloc _
  · by_cases hroom : xs.length + m ≤ cp
    · have hr := run_append_room (P := P) w t ty e i ht hi g xs.length cp _ hat a m c news (by rw [hsize, hl]; omega) hnews h1 hroom (by rw [hsize]; simp; omega)
      have e1 : (((xs ++ rest).toArray.toList.take (xs.length * i.size) ++ news ++ (xs ++ rest).toArray.toList.drop (xs.length * i.size + news.length)).toArray) = (xs ++ news ++ rest.drop m).toArray := by
        rw [hsize, Nat.mul_one, hl]
        simp [List.drop_append]
      rw [e1] at hr
      refine ⟨_, _, hr, .inr ⟨g, cp, rest.drop m, by simp [hl], ?_, by simp [hl]; omega, hcp⟩, ?_, .inl rfl, by simp [Value.ownBlock]⟩
      · have := setRow_heap w g _ (xs ++ news ++ rest.drop m).toArray e _ hat
        simpa [At] using this
      · exact ⟨rfl, rfl, rfl, by simp, fun k _ hk => setRow_other w g k _ (fun e => hk (by subst e; rfl))⟩
    · obtain ⟨G, rest', hG, h2, h3, h4⟩ := grown cp
      have hr := run_append_grow (P := P) w t ty e i z ht hi hz ⟨g, 0, none⟩ xs.length cp xs (by rw [hsize]; omega) (fun j u hu => by
          rw [Addr.add_lit, Nat.zero_add]
          exact hat.cell (by rw [List.getElem?_append_left (List.getElem?_eq_some_iff.1 hu).1]; exact hu))
        a m c news (by rw [hsize, hl]; omega) hnews (by omega) (by omega) (by rw [hby]; exact growslice_fits (by omega) (hbb _ (by omega)))
      rw [← hG] at hr
      refine ⟨_, _, hr, .inr ⟨w.heap.size, G, rest', by simp [hl], h4, by simp [hl]; omega, h3⟩, ((Keeps.refl _ w).drew).alloc _, .inr ⟨w.heap.size, rfl, Nat.le_refl _, by simp⟩, by simp [Value.ownBlock]⟩
end Go.Proofs.Qxb6603837a
