import Derived.Test.Qxb6603837aDel
namespace Go.Proofs.Qxb6603837a
open Go.RowKit
def ClonePost (w : World) (e : TypeId) (ys : List Value) (en : Ending) (w' : World) : Prop :=
  ∃ v' g, en = .returned v' ∧ OwnS w' e v' ys ∧ Keeps No w w' ∧ v'.ownBlock = some g ∧ w.heap.size ≤ g ∧ g < w'.heap.size
set_option maxHeartbeats 4000000 in
theorem truncate49 (v : Value) (xs : List Value) (k : Nat) (w : World) (hk : k < xs.length) (hown : OwnS w 9 v xs) (hn : xs.length ≤ 1000) :
    Calls Try.prog 49 #[v, .int .i64 k] w (DelPost w 9 v (xs.take k)) := by
  rcases hown with ⟨rfl, rfl⟩ | ⟨g, c, rest, rfl, hat, hlen, hcp⟩
  · simp at hk
  obtain ⟨i0, hi0, hz0, hz1, hz2⟩ := info_parts Try.info9
  have hsp : ∀ k, k < c → (w.cell? ⟨g, k, none⟩).isSome = true := fun k hk => by
    rw [hat.cell (j := k) (v := (xs ++ rest)[k]'(by simp; omega)) (by simp)]; rfl
  have hcl : ∀ cc, (Builtin.clear_ #[22] 0 #[.slice (some ⟨g, k, none⟩) (xs.length - k) cc]).run Try.prog w = .ok (.tuple #[]) (w.setCells g k (List.replicate (xs.length - k) (Value.string ByteArray.empty))) := fun cc =>
    Lib.run_clear_slice w 22 9 0 (Value.string ByteArray.empty) Try.underlying22 (fun w => by simp [zeroValue, typeInfo, hi0, hz0]) rfl rfl g k (xs.length - k) cc (by omega) (fun j hj => hsp _ (by omega)) (fun j hj => hat.frozen _)
  have hfin : DelPost w 9 (.slice (some ⟨g, 0, none⟩) xs.length c) (xs.take k) (.returned (.slice (some ⟨g, 0, none⟩) k c)) (w.setCells g k (List.replicate (xs.length - k) (Value.string ByteArray.empty))) := by
    have hA := At.setCells (List.replicate (xs.length - k) (Value.string ByteArray.empty)) k _ _ hat (by simp; omega)
    refine ⟨_, rfl, .inr ⟨g, c, List.replicate (xs.length - k) (Value.string ByteArray.empty) ++ rest, by simp; omega, ?_, by simp; omega, hcp⟩, Keeps.setCells (fun _ => onlyB_self g _ _) _ _ _ (Keeps.refl _ w), rfl⟩
    have e : (xs ++ rest).take k ++ List.replicate (xs.length - k) (Value.string ByteArray.empty) ++ (xs ++ rest).drop (k + (List.replicate (xs.length - k) (Value.string ByteArray.empty)).length) = xs.take k ++ (List.replicate (xs.length - k) (Value.string ByteArray.empty) ++ rest) := by
      rw [List.take_append_of_le_length (by omega), List.drop_append_of_le_length_or _ _ (by simp; omega)]
      simp
      rw [show k + (xs.length - k) - xs.length = 0 by omega]
      rfl
    rw [e] at hA
    exact hA
  have HF : Hid _ := hfin
  have hkc : ¬ c = k := by omega
  have hkc2 : k ≤ c := by omega
  clear hfin hat hsp
  generalize xs.length = n at *
  go_enter Try.func49, Try.ntmps49
  go_wp2_with fail
  go_ret
  exact HF.out
set_option maxHeartbeats 4000000 in
theorem clone48 (g off m cc : Nat) (xs : List Value) (w : World) (hm : xs.length = m) (h0 : 0 < m) (hn : m ≤ 1000) (hcs : ∀ (j : Nat) (u : Value), xs[j]? = some u → w.cell? ⟨g, off + j, none⟩ = some u) (h1 : ∀ u ∈ xs, u.oneCell' = true) :
    Calls Try.prog 48 #[.slice (some ⟨g, off, none⟩) m cc] w (ClonePost w 9 xs) := by
  obtain ⟨i0, hi0, hz0, hz1, hz2⟩ := info_parts Try.info9
  have hnil := fun wx => Lib.run_eql_slice_nil (P := Try.prog) wx 22 9 (some ⟨g, off, none⟩) m cc 0 0 Try.underlying22
  simp only [Option.isNone_some] at hnil
  have hown : OwnS (w.alloc (.cells #[] 9)) 9 (.slice (some ⟨w.heap.size, 0, none⟩) 0 0) [] := .inr ⟨w.heap.size, 0, [], rfl, At.new w 9 #[], rfl, by omega⟩
  obtain ⟨v', w', hr, ho, hk, hs, hb⟩ := run_append_S (P := Try.prog) (w.alloc (.cells #[] 9)) 22 22 9 i0 (Value.string ByteArray.empty) 16 Try.underlying22 hi0 hz0 hz1 hz2 rfl _ [] hown ⟨g, off, none⟩ m cc xs hm
    (fun j u hu => by rw [Addr.add_lit]; exact ((Keeps.refl No w).alloc _).cell (hcs j u hu) (fun h => h)) h1 h0 (by simp; omega) (by omega)
  have hfin : ClonePost w 9 xs (.returned v') w' := by
    have hk' : Keeps No w w' := ((Keeps.refl No w).alloc _).trans hk (fun _ _ h => h) (fun k hk e => by
      have : some w.heap.size = some k := e
      simp at this
      omega)
    rcases hs with hs | ⟨g', hs, hl, hlt⟩
    · exact ⟨v', w.heap.size, rfl, by simpa using ho, hk', hs, Nat.le_refl _, ho.lt hs⟩
    · exact ⟨v', g', rfl, by simpa using ho, hk', hs, by simp at hl; omega, hlt⟩
  have HF : Hid _ := hfin
  have HR : Hid _ := hr
  clear hfin hr ho hk hs hb hown hcs h1
  go_enter Try.func48, Try.ntmps48
  go_wp2_with (at_builtin; refine Lib.wpList_append_run _ rfl _ _ _ _ rfl _ _ rfl rfl _ _ HR.out ?_)
  go_ret
  exact HF.out
set_option maxHeartbeats 4000000 in
theorem truncate51 (v : Value) (xs : List Value) (k : Nat) (w : World) (hk : k < xs.length) (hown : OwnS w 25 v xs) (hn : xs.length ≤ 1000) :
    Calls Try.prog 51 #[v, .int .i64 k] w (DelPost w 25 v (xs.take k)) := by
  rcases hown with ⟨rfl, rfl⟩ | ⟨g, c, rest, rfl, hat, hlen, hcp⟩
  · simp at hk
  obtain ⟨i0, hi0, hz0, hz1, hz2⟩ := info_parts Try.info25
  have hsp : ∀ k, k < c → (w.cell? ⟨g, k, none⟩).isSome = true := fun k hk => by
    rw [hat.cell (j := k) (v := (xs ++ rest)[k]'(by simp; omega)) (by simp)]; rfl
  have hcl : ∀ cc, (Builtin.clear_ #[56] 0 #[.slice (some ⟨g, k, none⟩) (xs.length - k) cc]).run Try.prog w = .ok (.tuple #[]) (w.setCells g k (List.replicate (xs.length - k) (Value.pointer none))) := fun cc =>
    Lib.run_clear_slice w 56 25 0 (Value.pointer none) Try.underlying56 (fun w => by simp [zeroValue, typeInfo, hi0, hz0]) rfl rfl g k (xs.length - k) cc (by omega) (fun j hj => hsp _ (by omega)) (fun j hj => hat.frozen _)
  have hfin : DelPost w 25 (.slice (some ⟨g, 0, none⟩) xs.length c) (xs.take k) (.returned (.slice (some ⟨g, 0, none⟩) k c)) (w.setCells g k (List.replicate (xs.length - k) (Value.pointer none))) := by
    have hA := At.setCells (List.replicate (xs.length - k) (Value.pointer none)) k _ _ hat (by simp; omega)
    refine ⟨_, rfl, .inr ⟨g, c, List.replicate (xs.length - k) (Value.pointer none) ++ rest, by simp; omega, ?_, by simp; omega, hcp⟩, Keeps.setCells (fun _ => onlyB_self g _ _) _ _ _ (Keeps.refl _ w), rfl⟩
    have e : (xs ++ rest).take k ++ List.replicate (xs.length - k) (Value.pointer none) ++ (xs ++ rest).drop (k + (List.replicate (xs.length - k) (Value.pointer none)).length) = xs.take k ++ (List.replicate (xs.length - k) (Value.pointer none) ++ rest) := by
      rw [List.take_append_of_le_length (by omega), List.drop_append_of_le_length_or _ _ (by simp; omega)]
      simp
      rw [show k + (xs.length - k) - xs.length = 0 by omega]
      rfl
    rw [e] at hA
    exact hA
  have HF : Hid _ := hfin
  have hkc : ¬ c = k := by omega
  have hkc2 : k ≤ c := by omega
  clear hfin hat hsp
  generalize xs.length = n at *
  go_enter Try.func51, Try.ntmps51
  go_wp2_with fail
  go_ret
  exact HF.out
set_option maxHeartbeats 4000000 in
theorem clone50 (g off m cc : Nat) (xs : List Value) (w : World) (hm : xs.length = m) (h0 : 0 < m) (hn : m ≤ 1000) (hcs : ∀ (j : Nat) (u : Value), xs[j]? = some u → w.cell? ⟨g, off + j, none⟩ = some u) (h1 : ∀ u ∈ xs, u.oneCell' = true) :
    Calls Try.prog 50 #[.slice (some ⟨g, off, none⟩) m cc] w (ClonePost w 25 xs) := by
  obtain ⟨i0, hi0, hz0, hz1, hz2⟩ := info_parts Try.info25
  have hnil := fun wx => Lib.run_eql_slice_nil (P := Try.prog) wx 56 25 (some ⟨g, off, none⟩) m cc 0 0 Try.underlying56
  simp only [Option.isNone_some] at hnil
  have hown : OwnS (w.alloc (.cells #[] 25)) 25 (.slice (some ⟨w.heap.size, 0, none⟩) 0 0) [] := .inr ⟨w.heap.size, 0, [], rfl, At.new w 25 #[], rfl, by omega⟩
  obtain ⟨v', w', hr, ho, hk, hs, hb⟩ := run_append_S (P := Try.prog) (w.alloc (.cells #[] 25)) 56 56 25 i0 (Value.pointer none) 8 Try.underlying56 hi0 hz0 hz1 hz2 rfl _ [] hown ⟨g, off, none⟩ m cc xs hm
    (fun j u hu => by rw [Addr.add_lit]; exact ((Keeps.refl No w).alloc _).cell (hcs j u hu) (fun h => h)) h1 h0 (by simp; omega) (by omega)
  have hfin : ClonePost w 25 xs (.returned v') w' := by
    have hk' : Keeps No w w' := ((Keeps.refl No w).alloc _).trans hk (fun _ _ h => h) (fun k hk e => by
      have : some w.heap.size = some k := e
      simp at this
      omega)
    rcases hs with hs | ⟨g', hs, hl, hlt⟩
    · exact ⟨v', w.heap.size, rfl, by simpa using ho, hk', hs, Nat.le_refl _, ho.lt hs⟩
    · exact ⟨v', g', rfl, by simpa using ho, hk', hs, by simp at hl; omega, hlt⟩
  have HF : Hid _ := hfin
  have HR : Hid _ := hr
  clear hfin hr ho hk hs hb hown hcs h1
  go_enter Try.func50, Try.ntmps50
  go_wp2_with (at_builtin; refine Lib.wpList_append_run _ rfl _ _ _ _ rfl _ _ rfl rfl _ _ HR.out ?_)
  go_ret
  exact HF.out
end Go.Proofs.Qxb6603837a
