/- A slice of steps, as a reading hands it. -/
import Derived.Test.Qxb6603837aOpen
import Derived.Test.Qxb6603837aRows
namespace Go.Proofs.Qxb6603837a
open Go.RowKit Go.ChangeShapes Go.WideShapes Go.ChangeAt
/-- a slice of steps (two cells each: insert, key) reads zs -/
def RdS (w : World) (a : Option Addr) (n : Nat) (zs : List (Bool × ByteArray)) : Prop :=
  zs.length = n ∧ (0 < n → ∃ b off, a = some ⟨b, off, none⟩ ∧ ∀ (j : Nat) (u : Bool × ByteArray), zs[j]? = some u → w.cell? ⟨b, off + j * 2, none⟩ = some (.bool u.1) ∧ w.cell? ⟨b, off + j * 2 + 1, none⟩ = some (.string u.2))
theorem RdS.at {w : World} {a : Option Addr} {n : Nat} {zs : List (Bool × ByteArray)} (h : RdS w a n zs) {k : Nat} (hk : k < n) :
    ∃ b off u, a = some ⟨b, off, none⟩ ∧ zs[k]? = some u ∧ w.cell? ⟨b, off + k * 2, none⟩ = some (.bool u.1) ∧ w.cell? ⟨b, off + k * 2 + 1, none⟩ = some (.string u.2) := by
  obtain ⟨b, off, e, hc⟩ := h.2 (by omega)
  have hl := h.1
  obtain ⟨u, hu⟩ : ∃ u, zs[k]? = some u := ⟨zs[k], List.getElem?_eq_getElem (by omega)⟩
  exact ⟨b, off, u, e, hu, hc k u hu⟩
/-- what a step's cells say -/
def stepAt (w : World) (x : Addr) (i : Nat) : Bool × ByteArray :=
  (match w.cell? (x.add (i * 2)) with | some (.bool b) => b | _ => false, match w.cell? (x.add (i * 2 + 1)) with | some (.string s) => s | _ => ByteArray.empty)
theorem slice_steps {H : Type} {enc : TypeId × Value → H} {w : World} {a : Option Addr} {len cap : Nat} {d : DataW H} {p : List MemPlace}
    (h : DataW.Trod enc Try.prog w 0 (fun _ => true) true 42 (.slice a len cap) d p) : ∃ zs : List (Bool × ByteArray), RdS w a len zs := by
  obtain ⟨fuel, hf⟩ := h
  rcases DataW.trod_slice Try.underlying42 hf with ⟨hcs, _⟩ | ⟨x, l, c, elems, rest, n, _, hcs, _, hb, hl, hm, hlen, hel, _, _⟩
  · simp [Value.cells] at hcs
    obtain ⟨rfl, rfl, rfl⟩ := hcs
    exact ⟨[], ⟨rfl, fun h => absurd h (by omega)⟩⟩
  · simp [Value.cells] at hcs
    obtain ⟨rfl, rfl, rfl⟩ := hcs
    have h2 : Try.prog.cellsOf 45 = 2 := by kernel_rfl
    have h4 : Try.prog.cellsOf 4 = 1 := by kernel_rfl
    have h9 : Try.prog.cellsOf 9 = 1 := by kernel_rfl
    rw [h2] at hel
    have cells : ∀ i, i < len → ∃ b s, w.cell? (x.add (i * 2)) = some (.bool b) ∧ w.cell? (x.add (i * 2 + 1)) = some (.string s) := fun i hi => by
      have he := hel i hi
      obtain ⟨y, hy⟩ : ∃ y, elems[i]? = some y := ⟨elems[i], List.getElem?_eq_getElem (by omega)⟩
      rw [hy, Option.bind_eq_some_iff] at he
      obtain ⟨cs', hc, ht⟩ := he
      obtain ⟨xs, n', _, _, hcl, hxl, hfs⟩ := DataW.trod_struct Try.underlying45 ht
      obtain ⟨_, hcl', hcc⟩ := World.cells?_some hc
      have f0 := hfs 0 _ rfl
      have f1 := hfs 1 _ rfl
      have hx2 : xs.length = 2 := hxl
      obtain ⟨y0, hy0⟩ : ∃ y0, xs[0]? = some y0 := ⟨xs[0], List.getElem?_eq_getElem (by omega)⟩
      obtain ⟨y1, hy1⟩ : ∃ y1, xs[1]? = some y1 := ⟨xs[1], List.getElem?_eq_getElem (by omega)⟩
      rw [hy0] at f0
      rw [hy1] at f1
      obtain ⟨b, eb, _⟩ := DataW.trod_bool Try.underlying4 f0
      obtain ⟨s, es, _, _⟩ := DataW.trod_string Try.underlying9 f1
      have eb' : (cs'.drop 0).take (Try.prog.cellsOf 4) = [.bool b] := eb
      have es' : (cs'.drop 1).take (Try.prog.cellsOf 9) = [.string s] := es
      rw [h4] at eb'
      rw [h9] at es'
      match cs', hcl', hcc, eb', es' with
      | [u, v], _, hcc, eb', es' =>
        simp at eb' es'
        subst eb'
        subst es'
        have c0 := hcc 0 (by omega)
        have c1 := hcc 1 (by omega)
        refine ⟨b, s, by simpa [Addr.add] using c0, ?_⟩
        have ea : (x.add (i * 2)).add 1 = x.add (i * 2 + 1) := Addr.add_add x (i * 2) 1
        rw [ea] at c1
        simpa using c1
    refine ⟨(List.range len).map (stepAt w x), by simp, fun hpos => ?_⟩
    obtain ⟨b0, s0, hc0, _⟩ := cells 0 hpos
    have hc0' : w.cell? x = some (.bool b0) := by simpa [Addr.add] using hc0
    obtain ⟨blk, off, spot⟩ := x
    have hspot : spot = none := by simpa using World.cell?_spot hc0'
    subst hspot
    refine ⟨blk, off, rfl, fun j u hu => ?_⟩
    have hj : j < len := by
      have := (List.getElem?_eq_some_iff.1 hu).1
      simpa using this
    obtain ⟨b, s, hb, hs⟩ := cells j hj
    have eu : u = (b, s) := by
      simp [hj] at hu
      rw [← hu]
      simp [stepAt, hb, hs]
    subst eu
    rw [Go.WideShapes.add_plain] at hb hs
    exact ⟨hb, by rw [Nat.add_assoc]; exact hs⟩
end Go.Proofs.Qxb6603837a
