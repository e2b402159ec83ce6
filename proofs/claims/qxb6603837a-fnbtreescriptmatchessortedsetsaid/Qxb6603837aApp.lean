/- append on a node's field, the run known. -/
import Derived.Test.Qxb6603837aMv
namespace Go.Proofs.Qxb6603837a
open Go.RowKit
section
variable {F : Nat → Prop} {V : Nat → Value × Value} {M : Mm} {a : Nat} {n : Nd} {w : World}
/-- append(x.keys, ys...): ys at g from off on, in another block -/
theorem appKeysRun (p : PoolV F V w M) (hm : M a = some n) {g m c : Nat} {ys : List ByteArray} (hl : ys.length = m) (h0 : 0 < m) (hc : ∀ (j : Nat) (y : ByteArray), ys[j]? = some y → w.cell? ⟨g, j, none⟩ = some (.string y)) (hn : n.ks.length + m ≤ 1000) :
    ∃ g1 c1 w1, (Builtin.append_ #[22, 22] 22 #[(V a).1, .slice (some ⟨g, 0, none⟩) m c]).run Try.prog w = .ok (.slice (some ⟨g1, 0, none⟩) (n.ks.length + m) c1) w1 ∧ InsPost w 9 (V a).1 ((n.ks ++ ys).map Value.string) (.returned (.slice (some ⟨g1, 0, none⟩) (n.ks.length + m) c1)) w1 := by
  obtain ⟨i0, hi0, hz0, hz1, hz2⟩ := info_parts Try.info9
  obtain ⟨v', w', hr, ho, hk, hs, hb⟩ := run_append_S (P := Try.prog) w 22 22 9 i0 (Value.string ByteArray.empty) 16 Try.underlying22 hi0 hz0 hz1 hz2 rfl _ _ (p.node a n hm).keys ⟨g, 0, none⟩ m c (ys.map Value.string) (by simpa using hl)
    (fun j u hu => by
      rw [Addr.add_lit, Nat.zero_add]
      rw [List.getElem?_map] at hu
      cases hy : ys[j]? with
      | none => rw [hy] at hu; cases hu
      | some y => rw [hy] at hu; cases hu; exact hc j y hy) (one_str _) h0 (by simp; omega) (by omega)
  obtain ⟨g1, c1, rfl⟩ := ho.val hb
  have e : ((n.ks.map Value.string) ++ ys.map Value.string).length = n.ks.length + m := by simp [hl]
  rw [e] at hr ho hs hb
  exact ⟨g1, c1, w', hr, _, rfl, by simpa using ho, hk, hs, hb⟩
theorem appKidsRun (p : PoolV F V w M) (hm : M a = some n) {g m c : Nat} {ys : List Nat} (hl : ys.length = m) (h0 : 0 < m) (hc : ∀ (j : Nat) (y : Nat), ys[j]? = some y → w.cell? ⟨g, j, none⟩ = some (ptr y)) (hn : n.cs.length + m ≤ 1000) :
    ∃ g1 c1 w1, (Builtin.append_ #[56, 56] 56 #[(V a).2, .slice (some ⟨g, 0, none⟩) m c]).run Try.prog w = .ok (.slice (some ⟨g1, 0, none⟩) (n.cs.length + m) c1) w1 ∧ InsPost w 25 (V a).2 ((n.cs ++ ys).map ptr) (.returned (.slice (some ⟨g1, 0, none⟩) (n.cs.length + m) c1)) w1 := by
  obtain ⟨i0, hi0, hz0, hz1, hz2⟩ := info_parts Try.info25
  obtain ⟨v', w', hr, ho, hk, hs, hb⟩ := run_append_S (P := Try.prog) w 56 56 25 i0 (Value.pointer none) 8 Try.underlying56 hi0 hz0 hz1 hz2 rfl _ _ (p.node a n hm).kids ⟨g, 0, none⟩ m c (ys.map ptr) (by simpa using hl)
    (fun j u hu => by
      rw [Addr.add_lit, Nat.zero_add]
      rw [List.getElem?_map] at hu
      cases hy : ys[j]? with
      | none => rw [hy] at hu; cases hu
      | some y => rw [hy] at hu; cases hu; exact hc j y hy) (one_ptr _) h0 (by simp; omega) (by omega)
  obtain ⟨g1, c1, rfl⟩ := ho.val hb
  have e : ((n.cs.map ptr) ++ ys.map ptr).length = n.cs.length + m := by simp [hl]
  rw [e] at hr ho hs hb
  exact ⟨g1, c1, w', hr, _, rfl, by simpa using ho, hk, hs, hb⟩
end
end Go.Proofs.Qxb6603837a
