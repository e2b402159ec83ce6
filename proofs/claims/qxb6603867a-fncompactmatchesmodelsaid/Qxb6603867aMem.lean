/- Words for memory: a block that holds just these cells; what a call keeps. Over any program. -/
import Derived.WalkKit
import Derived.WalkSpells
import Derived.WalkLawsBesides
namespace Go.Proofs.Qxb6603867a
open Go.RowKit
/-- block g holds just the cells cs, none of them frozen -/
def At (w : World) (g : Nat) (e : TypeId) (cs : List Value) : Prop := w.heap[g]? = some (.cells cs.toArray e (0, 0))
/-- every old block outside S stands; the streams stand -/
structure Keeps (S : Nat → Prop) (w w' : World) : Prop where
  os : w'.os = w.os
  tape : w'.tape = w.tape
  output : w'.output = w.output
  size : w.heap.size ≤ w'.heap.size
  block : ∀ k, k < w.heap.size → ¬ S k → w'.heap[k]? = w.heap[k]?
def No : Nat → Prop := fun _ => False
theorem Keeps.refl (S : Nat → Prop) (w : World) : Keeps S w w := ⟨rfl, rfl, rfl, Nat.le_refl _, fun _ _ _ => rfl⟩
theorem Keeps.trans {S T U : Nat → Prop} {a b c : World} (h : Keeps S a b) (k : Keeps T b c) (hs : ∀ k, k < a.heap.size → S k → U k) (ht : ∀ k, k < a.heap.size → T k → U k) : Keeps U a c :=
  ⟨k.os.trans h.os, k.tape.trans h.tape, k.output.trans h.output, Nat.le_trans h.size k.size,
    fun i hi hn => (k.block i (Nat.lt_of_lt_of_le hi h.size) (fun t => hn (ht i hi t))).trans (h.block i hi (fun t => hn (hs i hi t)))⟩
theorem Keeps.tr {a b c : World} (h : Keeps No a b) (k : Keeps No b c) : Keeps No a c := h.trans k (fun _ _ h => h) (fun _ _ h => h)
theorem Keeps.alloc {S : Nat → Prop} {a w : World} (h : Keeps S a w) (o : Obj) : Keeps S a (w.alloc o) :=
  h.trans (T := No) ⟨rfl, rfl, rfl, by simp, fun k hk _ => Below.heap_alloc w o k hk⟩ (fun _ _ h => h) (fun _ _ h => h.elim)
theorem Keeps.drewN {S : Nat → Prop} {a w : World} (h : Keeps S a w) (n : Nat) : Keeps S a (w.drewN n) := ⟨h.os, h.tape, h.output, h.size, h.block⟩
theorem Keeps.drew {S : Nat → Prop} {a w : World} (h : Keeps S a w) : Keeps S a w.drew := ⟨h.os, h.tape, h.output, h.size, h.block⟩
theorem Keeps.setCell {S : Nat → Prop} {a w : World} (h : Keeps S a w) {p : Addr} (hp : p.block < a.heap.size → S p.block) (u : Value) : Keeps S a (w.setCell p u) :=
  h.trans (T := fun k => k = p.block) ⟨rfl, rfl, rfl, by simp [World.setCell], fun k _ hn => heap_setCell_other w p k u hn⟩ (fun _ _ h => h) (fun k hk e => by subst e; exact hp hk)
theorem Keeps.below {w w' : World} (h : Keeps No w w') : Below w.heap.size w w' := ⟨h.os, h.tape, h.output, h.size, fun k hk => h.block k hk (fun h => h)⟩
theorem Keeps.of_below {w w' : World} (h : Below w.heap.size w w') : Keeps No w w' := ⟨h.os, h.tape, h.output, h.size, fun k hk _ => h.block k hk⟩
theorem Keeps.of_grown {w w' : World} {r : Option Nat} (h : w.grownBy w' r) : Keeps (fun k => some k = r) w w' := ⟨h.os, h.tape, h.output, h.size, fun k hk hn => h.block k hk hn⟩
theorem Keeps.cell {S : Nat → Prop} {w w' : World} (h : Keeps S w w') {p : Addr} {v : Value} (hv : w.cell? p = some v) (hn : ¬ S p.block) : w'.cell? p = some v :=
  (World.cell?_of_block (w := w) (h.block p.block (World.block_lt_of_cell? w p hv) hn)).trans hv
section
variable {w w' : World} {g : Nat} {e : TypeId} {cs : List Value}
theorem At.lt (h : At w g e cs) : g < w.heap.size := (Array.getElem?_eq_some_iff.1 h).1
theorem At.cell (h : At w g e cs) {j : Nat} {v : Value} (hv : cs[j]? = some v) : w.cell? ⟨g, j, none⟩ = some v := by
  rw [cell_of_row w g j _ e (0, 0) h]
  simpa using hv
theorem At.frozen (h : At w g e cs) (j : Nat) : w.frozen? ⟨g, j, none⟩ = false := frozen_of_row w g j _ e h
theorem At.set (h : At w g e cs) (j : Nat) (v : Value) : At (w.setCell ⟨g, j, none⟩ v) g e (cs.set j v) := by
  have := heap_setCell_same w g j _ e v h
  simpa [At] using this
theorem At.other (h : At w g e cs) {p : Addr} (hp : g ≠ p.block) (v : Value) : At (w.setCell p v) g e cs := (heap_setCell_other w p g v hp).trans h
theorem At.alloc (h : At w g e cs) (o : Obj) : At (w.alloc o) g e cs := (Below.heap_alloc w o g h.lt).trans h
theorem At.new (w : World) (e : TypeId) (c : Array Value) : At (w.alloc (.cells c e)) w.heap.size e c.toList := by
  have := heap_alloc_new w (.cells c e)
  simpa [At] using this
theorem At.drewN (h : At w g e cs) (n : Nat) : At (w.drewN n) g e cs := h
theorem At.drew (h : At w g e cs) : At w.drew g e cs := h
theorem At.keep {S : Nat → Prop} (h : At w g e cs) (k : Keeps S w w') (hn : ¬ S g) : At w' g e cs := (k.block g h.lt hn).trans h
theorem At.kept (h : At w g e cs) (k : Keeps No w w') : At w' g e cs := h.keep k (fun h => h)
end
/-- the n elements from the address a on read cs (each one cell) -/
def Rd (w : World) (a : Option Addr) (n : Nat) (cs : List Value) : Prop :=
  cs.length = n ∧ (0 < n → ∃ b off, a = some ⟨b, off, none⟩ ∧ ∀ (j : Nat) (v : Value), cs[j]? = some v → w.cell? ⟨b, off + j, none⟩ = some v)
theorem Rd.kept {w w' : World} {a : Option Addr} {n : Nat} {cs : List Value} (h : Rd w a n cs) (k : Keeps No w w') : Rd w' a n cs :=
  ⟨h.1, fun hn => let ⟨b, off, e, hc⟩ := h.2 hn; ⟨b, off, e, fun j v hv => k.cell (hc j v hv) (fun h => h)⟩⟩
/-- a slice of the call's own: nil, or a whole block from base on -/
def Sl (w : World) (base : Nat) (e : TypeId) (a : Option Addr) (n : Nat) (cs : List Value) : Prop :=
  cs.length = n ∧ ((a = none ∧ n = 0) ∨ ∃ g, a = some ⟨g, 0, none⟩ ∧ base ≤ g ∧ At w g e cs)
theorem Sl.kept {w w' : World} {base n : Nat} {e : TypeId} {a : Option Addr} {cs : List Value} (h : Sl w base e a n cs) (k : Keeps No w w') : Sl w' base e a n cs :=
  ⟨h.1, h.2.elim .inl fun ⟨g, ha, hb, hg⟩ => .inr ⟨g, ha, hb, hg.kept k⟩⟩
theorem Sl.mono {w : World} {base base' n : Nat} {e : TypeId} {a : Option Addr} {cs : List Value} (h : Sl w base e a n cs) (k : base' ≤ base) : Sl w base' e a n cs :=
  ⟨h.1, h.2.elim .inl fun ⟨g, ha, hb, hg⟩ => .inr ⟨g, ha, Nat.le_trans k hb, hg⟩⟩
theorem Sl.rd {w : World} {base n : Nat} {e : TypeId} {a : Option Addr} {cs : List Value} (h : Sl w base e a n cs) : Rd w a n cs := by
  refine ⟨h.1, fun hn => ?_⟩
  rcases h.2 with ⟨_, h0⟩ | ⟨g, ha, _, hg⟩
  · omega
  · exact ⟨g, 0, ha, fun j v hv => by rw [Nat.zero_add]; exact hg.cell hv⟩
theorem get_map {α : Type} (f : α → Value) (zs : List α) (d : α) {k : Nat} (h : k < zs.length) : (zs.map f)[k]? = some (f (zs.getD k d)) := by
  simp [List.getD, h]
/-- the address and the cell at place k -/
theorem Rd.at {α : Type} {w : World} {a : Option Addr} {n : Nat} {f : α → Value} {zs : List α} (h : Rd w a n (zs.map f)) (d : α) {k : Nat} (hk : k < n) :
    ∃ b off, a = some ⟨b, off, none⟩ ∧ ∀ j, j < n → w.cell? ⟨b, off + j, none⟩ = some (f (zs.getD j d)) := by
  obtain ⟨b, off, e, hc⟩ := h.2 (by omega)
  have hl : zs.length = n := by simpa using h.1
  exact ⟨b, off, e, fun j hj => hc j _ (get_map f zs d (by omega))⟩
/-- an int32's number fits -/
def I32 (zs : List Int) : Prop := ∀ z ∈ zs, -2147483648 ≤ z ∧ z ≤ 2147483647
theorem I32.get {zs : List Int} (h : I32 zs) (k : Nat) : -2147483648 ≤ zs.getD k 0 ∧ zs.getD k 0 ≤ 2147483647 := by
  by_cases hk : k < zs.length
  · have := h (zs[k]) (List.getElem_mem hk)
    simpa [List.getD, hk] using this
  · have hn : zs[k]? = none := by simp; omega
    simp [List.getD, hn]
theorem made_length (z : Array Value) (n : Nat) : (madeCells z n).toList.length = n := by simp [size_madeCells]
theorem made_one (z : Value) (n : Nat) : (madeCells #[z] n).toList = List.replicate n z := by
  apply List.ext_getElem?
  intro k
  by_cases h : k < n
  · simp [madeCells, h, Nat.mod_one]
  · simp [madeCells, h]
/-- 'make([]T, n)': a new block of n zero elements -/
theorem wpList_make_at {P : Program} (w : World) {ops : Array Oper} {rest : List Oper} {o : Oper} {a : Act} {Q : Exit → Act → World → Prop}
    (hg : o.guard = none) (l c : Operand) (t : TypeId) (hop : o.op = Op.makeSlice t l c)
    (e : TypeId) (i : TypeInfo) (z : Value) (size bytes : Nat) (h1 : P.underlying t = some (.slice e)) (h2 : P.info? e = some i) (h3 : i.zero = some z) (h4 : i.size = size) (h5 : i.bytes = bytes)
    (kl kc : IntKind) (L C : Int) (n : Nat) (hl : a.eval l = .int kl L) (hc : a.eval c = .int kc C) (hL : L = (n : Int)) (hC : C = (n : Int)) (b2 : bytes * n ≤ 281474976710656) (b3 : n ≤ 9223372036854775807)
    (hK : ∀ w' cs, cs.length = n * size → (∀ v, z.cells = #[v] → size = 1 → cs = List.replicate n v) → At w' w.heap.size e cs → Keeps No w w' → w'.heap.size = w.heap.size + 1 → wpList P ops Q rest (a.put o.dst (.slice (some ⟨w.heap.size, 0, none⟩) n n)) w') :
    wpList P ops Q (o :: rest) a w := by
  refine wpList_plain hg fun K hK' => ?_
  subst hL
  subst hC
  subst h4
  subst h5
  have hb' : (i.bytes : Int) * (n : Int) ≤ 281474976710656 := by
    have h : ((i.bytes * n : Nat) : Int) ≤ 281474976710656 := by omega
    rwa [Int.natCast_mul] at h
  have hrun := run_make (P := P) w t e i z h1 h2 h3 kl kc n n (by omega) (by omega) hb' (by omega)
  simp only [Int.toNat_natCast] at hrun
  unfold Oper.wp
  simp [execOp, hop, hl, hc, hrun, Result.andThen]
  exact hK' _ _ (hK _ _ (made_length _ _) (fun v hv h1 => by rw [hv, h1, Nat.mul_one]; exact made_one v n) (At.new w e _) ((Keeps.refl No w).alloc _) (by simp))
end Go.Proofs.Qxb6603867a
