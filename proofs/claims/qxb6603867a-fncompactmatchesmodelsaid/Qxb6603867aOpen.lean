import Derived.Test.Qxb6603867aMem
import Derived.ProofKit
import Derived.OpenShut
namespace Go.Proofs.Qxb6603867a
open Go.RowKit Go.ChangeShapes Go.WideShapes Go.ChangeAt
theorem add_plain' {w : World} {x : Addr} {i : Nat} {v : Value} (h0 : ∃ u, w.cell? x = some u) (h : w.cell? (x.add i) = some v) : ∃ b off, x = ⟨b, off, none⟩ ∧ w.cell? ⟨b, off + i, none⟩ = some v := by
  obtain ⟨b, off, spot⟩ := x
  obtain ⟨u, hu⟩ := h0
  have hspot : spot = none := by simpa using World.cell?_spot hu
  subst hspot
  exact ⟨b, off, rfl, by rw [← Go.WideShapes.add_plain]; exact h⟩
/-- a row of cells, as a reading hands it, in my words -/
theorem rd_of {α : Type} {w : World} {x : Addr} {len : Nat} {f : α → Value} {d : α} {zs : List α} (hl : len ≤ zs.length) (h : ∀ i, i < zs.length → w.cell? (x.add i) = some (f (zs.getD i d))) : Rd w (some x) len ((zs.take len).map f) := by
  refine ⟨by simp; omega, fun hn => ?_⟩
  have h0 : w.cell? x = some (f (zs.getD 0 d)) := by simpa [Addr.add] using h 0 (by omega)
  obtain ⟨b, off, spot⟩ := x
  have hspot : spot = none := by simpa using World.cell?_spot h0
  subst hspot
  refine ⟨b, off, rfl, fun j v hv => ?_⟩
  have hj : j < len := by
    have := (List.getElem?_eq_some_iff.1 hv).1
    simp at this; omega
  have hz : j < zs.length := by omega
  have e : ((zs.take len).map f)[j]? = some (f (zs.getD j d)) := by simp [hj, hz]
  rw [e] at hv
  obtain rfl := Option.some.inj hv
  rw [← Go.WideShapes.add_plain]
  exact h j hz
theorem slice_ints {H : Type} {enc : TypeId × Value → H} {P : Program} {w : World} {t e : TypeId} {k : IntKind} {a : Option Addr} {len cap : Nat} {d : DataW H} {p : List MemPlace} (ht : P.underlying t = some (.slice e)) (he : P.underlying e = some (.int k)) (hc : P.cellsOf e = 1)
    (h : DataW.Trod enc P w 0 (fun _ => true) true t (.slice a len cap) d p) :
    ∃ zs : List Int, Rd w a len (zs.map (Value.int k)) ∧ (a = none → len = 0) ∧ len ≤ 9223372036854775807 ∧ ∀ n ∈ zs, (Lit.int k n).wf = true := by
  obtain ⟨fuel, hf⟩ := h
  rcases open_ints ht he hc hf with ⟨hcs, _⟩ | ⟨x, l, c, zs, hcs, _, hl, hm, hz, _, hcell, hwz⟩
  · simp [Value.cells] at hcs
    obtain ⟨rfl, rfl, rfl⟩ := hcs
    exact ⟨[], ⟨rfl, fun h => absurd h (by omega)⟩, fun _ => rfl, by omega, by simp⟩
  · simp [Value.cells] at hcs
    obtain ⟨rfl, rfl, rfl⟩ := hcs
    simp at hz
    refine ⟨zs.take len, rd_of (d := 0) (by omega) hcell, fun h => by simp at h, ?_, fun n hn => hwz n (List.mem_of_mem_take hn)⟩
    unfold maxLen at hm
    omega
theorem slice_strs {H : Type} {enc : TypeId × Value → H} {P : Program} {w : World} {t e : TypeId} {a : Option Addr} {len cap : Nat} {d : DataW H} {p : List MemPlace} (ht : P.underlying t = some (.slice e)) (he : P.underlying e = some .string) (hc : P.cellsOf e = 1)
    (h : DataW.Trod enc P w 0 (fun _ => true) true t (.slice a len cap) d p) :
    ∃ zs : List ByteArray, Rd w a len (zs.map Value.string) ∧ (a = none → len = 0) ∧ len ≤ 9223372036854775807 ∧ ∀ s ∈ zs, s.size ≤ 9223372036854775807 := by
  obtain ⟨fuel, hf⟩ := h
  rcases open_strings ht he hc hf with ⟨hcs, _⟩ | ⟨x, l, c, zs, hcs, _, hl, hm, hz, _, hcell, hwz⟩
  · simp [Value.cells] at hcs
    obtain ⟨rfl, rfl, rfl⟩ := hcs
    exact ⟨[], ⟨rfl, fun h => absurd h (by omega)⟩, fun _ => rfl, by omega, by simp⟩
  · simp [Value.cells] at hcs
    obtain ⟨rfl, rfl, rfl⟩ := hcs
    simp at hz
    refine ⟨zs.take len, rd_of (d := ByteArray.empty) (by omega) hcell, fun h => by simp at h, ?_, fun s hs => ?_⟩
    · unfold maxLen at hm; omega
    · have := hwz s (List.mem_of_mem_take hs); unfold maxLen at this; omega
theorem i32_of {zs : List Int} (h : ∀ n ∈ zs, (Lit.int .i32 n).wf = true) : I32 zs := fun z hz => by
  have := h z hz
  simp [Lit.wf, IntKind.min, IntKind.max, IntKind.signed, IntKind.bits] at this
  omega
theorem str_get {ss : List ByteArray} (h : ∀ s ∈ ss, s.size ≤ 9223372036854775807) (k : Nat) : (ss.getD k ByteArray.empty).size ≤ 9223372036854775807 := by
  by_cases hk : k < ss.length
  · have := h (ss[k]) (List.getElem_mem hk)
    simpa [List.getD, hk] using this
  · have hn : ss[k]? = none := by simp; omega
    simp [List.getD, hn]
end Go.Proofs.Qxb6603867a
