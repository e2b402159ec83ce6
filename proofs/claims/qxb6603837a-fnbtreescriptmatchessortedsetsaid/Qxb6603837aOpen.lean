/- The arguments, as a reading hands them, in my words. -/
import Derived.Test.Qxb6603837aMem
import Derived.ProofKit
import Derived.OpenShut
namespace Go.Proofs.Qxb6603837a
open Go.RowKit Go.ChangeShapes Go.WideShapes Go.ChangeAt
/-- a row of cells, as a reading hands it, in my words -/
theorem rd_of {α : Type} {w : World} {x : Addr} {len : Nat} {f : α → Value} {d : α} {zs : List α} (hl : len ≤ zs.length) (h : ∀ i, i < zs.length → w.cell? (x.add i) = some (f (zs.getD i d))) : Rd w (some x) len ((zs.take len).map f) := by
  refine ⟨by simp; omega, fun hn => ?_⟩
  have h0 : w.cell? x = some (f (zs.getD 0 d)) := by simpa [Addr.add] using h 0 (by omega)
  obtain ⟨b, off, spot⟩ := x
  have hspot : spot = none := by simpa using World.cell?_spot h0
  subst hspot
  refine ⟨b, off, rfl, fun j v hv => ?_⟩
  have hj : j < len := by
    have := (List.getElem?_eq_some_iff.1 hv).1
    simp at this; omega
  have hz : j < zs.length := by omega
  have e : ((zs.take len).map f)[j]? = some (f (zs.getD j d)) := by simp [hj, hz]
  rw [e] at hv
  obtain rfl := Option.some.inj hv
  rw [← Go.WideShapes.add_plain]
  exact h j hz
theorem slice_strs {H : Type} {enc : TypeId × Value → H} {P : Program} {w : World} {t e : TypeId} {a : Option Addr} {len cap : Nat} {d : DataW H} {p : List MemPlace} (ht : P.underlying t = some (.slice e)) (he : P.underlying e = some .string) (hc : P.cellsOf e = 1)
    (h : DataW.Trod enc P w 0 (fun _ => true) true t (.slice a len cap) d p) :
    ∃ zs : List ByteArray, Rd w a len (zs.map Value.string) := by
  obtain ⟨fuel, hf⟩ := h
  rcases open_strings ht he hc hf with ⟨hcs, _⟩ | ⟨x, l, c, zs, hcs, _, hl, hm, hz, _, hcell, hwz⟩
  · simp [Value.cells] at hcs
    obtain ⟨rfl, rfl, rfl⟩ := hcs
    exact ⟨[], ⟨rfl, fun h => absurd h (by omega)⟩⟩
  · simp [Value.cells] at hcs
    obtain ⟨rfl, rfl, rfl⟩ := hcs
    simp at hz
    exact ⟨zs.take len, rd_of (d := ByteArray.empty) (by omega) hcell⟩
end Go.Proofs.Qxb6603837a
