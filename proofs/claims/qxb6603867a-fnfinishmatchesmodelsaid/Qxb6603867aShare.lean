import Derived.Test.Qxb6603867aZZ
namespace Go.Proofs.Qxb6603867a
open Go.RowKit Plf
def LawPost (w : World) (e : Ending) (w' : World) : Prop := e = .returned (.bool true) ∧ Keeps No w w'
theorem fill_all {m : Nat} {us : List Int} {cu : List Value} (h : FillTo m (at' us) m cu) (hl : us.length = m) : cu = us.map (Value.int .i32) := by
  refine fill_end (by rw [h.1, List.length_map, hl]) fun j hj => ?_
  rw [List.length_map] at hj
  rw [h.2 j (by omega), get_map _ _ 0 hj]
  rfl
/-- a whole block, read as a slice -/
theorem At.rd {w : World} {g n : Nat} {e : TypeId} {cs : List Value} (h : At w g e cs) (hl : cs.length = n) : Rd w (some ⟨g, 0, none⟩) n cs :=
  ⟨hl, fun _ => ⟨g, 0, rfl, fun j v hv => by rw [Nat.zero_add]; exact h.cell hv⟩⟩
/-- the law's own inverse after k rounds -/
def SrcTo (n0 n1 : Nat) (ps : List Int) (k : Nat) (cs : List Value) : Prop := cs.length = n0 ∧ ∀ j, j < k → cs[ren n1 ps j]? = some (.int .i64 (j : Nat))
theorem srcTo_step {n0 n1 : Nat} {vs us ps : List Int} {k r : Nat} {cs : List Value} (D : FDom n0 n1 vs us ps) (h : SrcTo n0 n1 ps k cs) (hk : k < n0) (hr : ren n1 ps k = r) :
    SrcTo n0 n1 ps (k + 1) (cs.set r (.int .i64 (k : Nat))) := by
  subst hr
  refine ⟨by simpa using h.1, fun j hj => ?_⟩
  by_cases e : j = k
  · subst e; rw [List.getElem?_set_self (by rw [h.1]; exact ren_lt D hk)]
  · rw [List.getElem?_set_ne (fun he => ren_inj D (i := j) (j := k) (by omega) hk he.symm)]; exact h.2 j (by omega)
end Go.Proofs.Qxb6603867a
