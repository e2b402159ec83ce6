import Derived.Test.Qxb6603837aIns
namespace Go.Proofs.Qxb6603837a
open Go.RowKit
theorem step_append_run {P : Program} {ops : Array Oper} {o : Oper} {a : Act} {w : World} {K : Act → World → Prop} {Q : Exit → Act → World → Prop} {E : Prop}
    (hg : o.guard = none) (d x : Operand) (dT sT : TypeId) (hop : o.op = Op.call { callee := Callee.builtin Builtin.append, args := #[d, x], argTypes := #[dT, sT] })
    (v u : Value) (hd : a.eval d = v) (hx : a.eval x = u) {v' : Value} {w' : World} (hr : (Builtin.append_ #[dT, sT] o.type #[v, u]).run P w = .ok v' w') (hK : K (a.put o.dst v') w') :
    if Region.wanted o (yielded ops a.tmps) = true then Oper.wp P o a w K Q else E := by
  have hw : Region.wanted o (yielded ops a.tmps) = true := by simp [Region.wanted, hg]
  rw [if_pos hw]
  unfold Oper.wp
  simp [execOp, hop, resolve, invoke, builtin, hd, hx, hr, Result.andThen]
  exact hK
def DelPost (w : World) (e : TypeId) (v : Value) (ys : List Value) (en : Ending) (w' : World) : Prop :=
  ∃ v', en = .returned v' ∧ OwnS w' e v' ys ∧ Keeps (OnlyB v) w w' ∧ v'.ownBlock = v.ownBlock
theorem del_list (xs rest : List Value) (i : Nat) (z : Value) (h : i < xs.length) :
    List.take (xs.length - 1) ((xs ++ rest).take i ++ xs.drop (i + 1) ++ (xs ++ rest).drop (i + (xs.drop (i + 1)).length)) ++ List.replicate 1 z ++
      List.drop (xs.length - 1 + (List.replicate 1 z).length) ((xs ++ rest).take i ++ xs.drop (i + 1) ++ (xs ++ rest).drop (i + (xs.drop (i + 1)).length)) = xs.take i ++ xs.drop (i + 1) ++ z :: rest := by
  have e1 : (xs ++ rest).take i = xs.take i := by rw [List.take_append_of_le_length (by omega)]
  have e2 : (xs ++ rest).drop (i + (xs.drop (i + 1)).length) = xs.drop (xs.length - 1) ++ rest := by
    rw [show i + (xs.drop (i + 1)).length = xs.length - 1 by simp; omega, List.drop_append_of_le_length (by omega)]
  rw [e1, e2]
  have l : (xs.take i ++ xs.drop (i + 1)).length = xs.length - 1 := by simp; omega
  have e3 : (xs.take i ++ xs.drop (i + 1) ++ (xs.drop (xs.length - 1) ++ rest)).take (xs.length - 1) = xs.take i ++ xs.drop (i + 1) := by
    rw [List.take_append_of_le_length (by omega), List.take_of_length_le (by omega)]
  have e4 : (xs.take i ++ xs.drop (i + 1) ++ (xs.drop (xs.length - 1) ++ rest)).drop (xs.length - 1 + (List.replicate 1 z).length) = rest := by
    rw [List.drop_append_of_le_length_or _ _ (by rw [l]; omega), l]
    rw [List.drop_append_of_le_length_or _ _ (by simp; omega)]
    have : xs.length - 1 + (List.replicate 1 z).length - (xs.length - 1) - (xs.drop (xs.length - 1)).length = 0 := by simp; omega
    rw [this]; rfl
  rw [e3, e4]
  simp
set_option maxHeartbeats 4000000 in
set_option maxRecDepth 100000 in
theorem delete41 (v : Value) (xs : List Value) (i : Nat) (w : World) (hi : i < xs.length) (hown : OwnS w 9 v xs) (hn : xs.length ≤ 1000) (h1 : ∀ u ∈ xs, u.oneCell' = true) :
    Calls Try.prog 41 #[v, .int .i64 i, .int .i64 ((i : Int) + 1)] w (DelPost w 9 v (xs.take i ++ xs.drop (i + 1))) := by
  rcases hown with ⟨rfl, rfl⟩ | ⟨g, c, rest, rfl, hat, hlen, hcp⟩
  · simp at hi
  obtain ⟨i0, hi0, hz0, hz1, hz2⟩ := info_parts Try.info9
  have hcs : ∀ (j : Nat) (u : Value), xs[j]? = some u → w.cell? ⟨g, j, none⟩ = some u := fun j u hu => hat.cell (by rw [List.getElem?_append_left (List.getElem?_eq_some_iff.1 hu).1]; exact hu)
  have hsp : ∀ k, k < c → (w.cell? ⟨g, k, none⟩).isSome = true := fun k hk => by
    rw [hat.cell (j := k) (v := (xs ++ rest)[k]'(by simp; omega)) (by simp)]; rfl
  obtain ⟨news, hnews⟩ : ∃ news, news = xs.drop (i + 1) := ⟨_, rfl⟩
  have hnl : news.length = xs.length - (i + 1) := by rw [hnews]; simp
  obtain ⟨W1, hW1⟩ : ∃ W1, W1 = w.drew.setRow g ((xs ++ rest).take i ++ news ++ (xs ++ rest).drop (i + news.length)).toArray := ⟨_, rfl⟩
  have hA1 : At W1 g 9 ((xs ++ rest).take i ++ news ++ (xs ++ rest).drop (i + news.length)) := by rw [hW1]; exact setRow_heap w.drew g _ _ 9 _ hat
  have hK1 : Keeps (OnlyB (.slice (some ⟨g, 0, none⟩) xs.length c)) w W1 := by rw [hW1]; exact ⟨rfl, rfl, rfl, by simp, fun k _ hk => setRow_other w.drew g k _ (fun e => hk (by subst e; rfl))⟩
  have hra : ∀ (ad : Addr) (cc : Nat), (∀ (j : Nat) (u : Value), news[j]? = some u → w.drew.cell? (ad.add j) = some u) → (Builtin.append_ #[22, 22] 22 #[.slice (some ⟨g, 0, none⟩) i c, .slice (some ad) (xs.length - (i + 1)) cc]).run Try.prog w.drew = .ok (.slice (some ⟨g, 0, none⟩) (xs.length - 1) c) W1 := fun ad cc hsrc => by
    have hr := run_append_room (P := Try.prog) w.drew 22 22 9 i0 Try.underlying22 hi0 g i c _ hat ad (xs.length - (i + 1)) cc news (by rw [hz1, hnl]; omega) hsrc (fun u hu => h1 u (List.mem_of_mem_drop (by rw [hnews] at hu; exact hu))) (by omega) (by rw [hz1]; simp; omega)
    rw [hz1, Nat.mul_one] at hr
    rw [hr, hW1, show i + (xs.length - (i + 1)) = xs.length - 1 by omega]
  have hL1 : ((xs ++ rest).take i ++ news ++ (xs ++ rest).drop (i + news.length)).length = c := by simp; omega
  have hcl : ∀ cc, (Builtin.clear_ #[22] 0 #[.slice (some ⟨g, xs.length - 1, none⟩) 1 cc]).run Try.prog W1 = .ok (.tuple #[]) (W1.setCells g (xs.length - 1) (List.replicate 1 (Value.string ByteArray.empty))) := fun cc =>
    Lib.run_clear_slice W1 22 9 0 (Value.string ByteArray.empty) Try.underlying22 (fun w => by simp [zeroValue, typeInfo, hi0, hz0]) rfl rfl g (xs.length - 1) 1 cc (by omega)
      (fun j hj => by rw [hA1.cell (j := xs.length - 1 + j) (v := ((xs ++ rest).take i ++ news ++ (xs ++ rest).drop (i + news.length))[xs.length - 1 + j]'(by rw [hL1]; omega)) (by simp)]; rfl) (fun j hj => hA1.frozen _)
  have hfin : DelPost w 9 (.slice (some ⟨g, 0, none⟩) xs.length c) (xs.take i ++ xs.drop (i + 1)) (.returned (.slice (some ⟨g, 0, none⟩) (xs.length - 1) c)) (W1.setCells g (xs.length - 1) (List.replicate 1 (Value.string ByteArray.empty))) := by
    have hA2 := At.setCells (List.replicate 1 (Value.string ByteArray.empty)) (xs.length - 1) _ _ hA1 (by rw [hL1]; simp; omega)
    refine ⟨_, rfl, .inr ⟨g, c, (Value.string ByteArray.empty) :: rest, ?_, ?_, by simp; omega, hcp⟩, Keeps.setCells (fun _ => onlyB_self g _ _) _ _ _ hK1, rfl⟩
    · simp; omega
    · rw [hnews, del_list xs rest i (Value.string ByteArray.empty) hi] at hA2
      exact hA2
  have HF : Hid _ := hfin
  have hb1 : (0 : Int) ≤ (i : Int) + 1 := by omega
  have hb3 : (i : Int) ≤ (i : Int) + 1 := by omega
  have hne : ¬ ((i : Int) = (i : Int) + 1) := by omega
  have htn : ((i : Int) + 1).toNat = i + 1 := by omega
  have hic : i ≤ c := by omega
  have hjn : (i : Int) + 1 ≤ (xs.length : Int) := by omega
  have hjc : i + 1 ≤ c := by omega
  by_cases hcc : c = i + 1
  · have hn1 : xs.length = i + 1 := by omega
    have hne0 : news = [] := List.eq_nil_of_length_eq_zero (by omega)
    have HRA : Hid _ := hra ⟨g, 0, none⟩ 0 (by rw [hne0]; simp)
    have HCL : Hid _ := hcl
    clear hfin hA1 hK1 hL1 hat hcs hsp h1 hnews hcl hnl hW1 hra hne0
    rw [hn1] at HCL HF HRA hn hjn ⊢
    subst hcc
    simp only [Nat.sub_self, Nat.add_sub_cancel] at HCL HF HRA
    clear hn1
    go_enter Try.func41, Try.ntmps41
    go_wp2_with fail
    go_region_law (refine step_append_run rfl (.tmp 22) (.tmp 25) 22 22 rfl (.slice (some ⟨g, 0, none⟩) i (i + 1)) (.slice (some ⟨g, 0, none⟩) 0 0) (by simp [Act.eval, Act.put]) (by simp [Act.eval, Act.put]) HRA.out ?_)
    have hcl := HCL.out
    go_wp2_with fail
    go_ret
    exact HF.out
  · have HRA : Hid _ := hra ⟨g, i + 1, none⟩ (c - (i + 1)) (fun j u hu => by
      rw [Addr.add_lit]
      exact hcs (i + 1 + j) u (by rw [hnews, List.getElem?_drop] at hu; exact hu))
    have hc1 : xs.length - (xs.length - 1) = 1 := by omega
    have HCL : Hid (∀ cc, (Builtin.clear_ #[22] 0 #[.slice (some ⟨g, xs.length - 1, none⟩) (xs.length - (xs.length - 1)) cc]).run Try.prog W1 = .ok (.tuple #[]) (W1.setCells g (xs.length - 1) (List.replicate 1 (Value.string ByteArray.empty)))) := by rw [hc1]; exact hcl
    have hcx : ¬ c = xs.length - 1 := by omega
    clear hfin hA1 hK1 hL1 hat hcs hsp h1 hnews hcl hnl hW1 hra hc1
    generalize xs.length = n at *
    go_enter Try.func41, Try.ntmps41
    go_wp2_with fail
    go_region_law (refine step_append_run rfl (.tmp 22) (.tmp 25) 22 22 rfl (.slice (some ⟨g, 0, none⟩) i c) (.slice (some ⟨g, i + 1, none⟩) (n - (i + 1)) (c - (i + 1))) (by simp [Act.eval, Act.put]) (by simp [Act.eval, Act.put]) HRA.out ?_)
    have hcl := HCL.out
    go_wp2_with fail
    go_ret
    exact HF.out
set_option maxHeartbeats 4000000 in
set_option maxRecDepth 100000 in
theorem delete59 (v : Value) (xs : List Value) (i : Nat) (w : World) (hi : i < xs.length) (hown : OwnS w 25 v xs) (hn : xs.length ≤ 1000) (h1 : ∀ u ∈ xs, u.oneCell' = true) :
    Calls Try.prog 59 #[v, .int .i64 i, .int .i64 ((i : Int) + 1)] w (DelPost w 25 v (xs.take i ++ xs.drop (i + 1))) := by
  rcases hown with ⟨rfl, rfl⟩ | ⟨g, c, rest, rfl, hat, hlen, hcp⟩
  · simp at hi
  obtain ⟨i0, hi0, hz0, hz1, hz2⟩ := info_parts Try.info25
  have hcs : ∀ (j : Nat) (u : Value), xs[j]? = some u → w.cell? ⟨g, j, none⟩ = some u := fun j u hu => hat.cell (by rw [List.getElem?_append_left (List.getElem?_eq_some_iff.1 hu).1]; exact hu)
  have hsp : ∀ k, k < c → (w.cell? ⟨g, k, none⟩).isSome = true := fun k hk => by
    rw [hat.cell (j := k) (v := (xs ++ rest)[k]'(by simp; omega)) (by simp)]; rfl
  obtain ⟨news, hnews⟩ : ∃ news, news = xs.drop (i + 1) := ⟨_, rfl⟩
  have hnl : news.length = xs.length - (i + 1) := by rw [hnews]; simp
  obtain ⟨W1, hW1⟩ : ∃ W1, W1 = w.drew.setRow g ((xs ++ rest).take i ++ news ++ (xs ++ rest).drop (i + news.length)).toArray := ⟨_, rfl⟩
  have hA1 : At W1 g 25 ((xs ++ rest).take i ++ news ++ (xs ++ rest).drop (i + news.length)) := by rw [hW1]; exact setRow_heap w.drew g _ _ 25 _ hat
  have hK1 : Keeps (OnlyB (.slice (some ⟨g, 0, none⟩) xs.length c)) w W1 := by rw [hW1]; exact ⟨rfl, rfl, rfl, by simp, fun k _ hk => setRow_other w.drew g k _ (fun e => hk (by subst e; rfl))⟩
  have hra : ∀ (ad : Addr) (cc : Nat), (∀ (j : Nat) (u : Value), news[j]? = some u → w.drew.cell? (ad.add j) = some u) → (Builtin.append_ #[56, 56] 56 #[.slice (some ⟨g, 0, none⟩) i c, .slice (some ad) (xs.length - (i + 1)) cc]).run Try.prog w.drew = .ok (.slice (some ⟨g, 0, none⟩) (xs.length - 1) c) W1 := fun ad cc hsrc => by
    have hr := run_append_room (P := Try.prog) w.drew 56 56 25 i0 Try.underlying56 hi0 g i c _ hat ad (xs.length - (i + 1)) cc news (by rw [hz1, hnl]; omega) hsrc (fun u hu => h1 u (List.mem_of_mem_drop (by rw [hnews] at hu; exact hu))) (by omega) (by rw [hz1]; simp; omega)
    rw [hz1, Nat.mul_one] at hr
    rw [hr, hW1, show i + (xs.length - (i + 1)) = xs.length - 1 by omega]
  have hL1 : ((xs ++ rest).take i ++ news ++ (xs ++ rest).drop (i + news.length)).length = c := by simp; omega
  have hcl : ∀ cc, (Builtin.clear_ #[56] 0 #[.slice (some ⟨g, xs.length - 1, none⟩) 1 cc]).run Try.prog W1 = .ok (.tuple #[]) (W1.setCells g (xs.length - 1) (List.replicate 1 (Value.pointer none))) := fun cc =>
    Lib.run_clear_slice W1 56 25 0 (Value.pointer none) Try.underlying56 (fun w => by simp [zeroValue, typeInfo, hi0, hz0]) rfl rfl g (xs.length - 1) 1 cc (by omega)
      (fun j hj => by rw [hA1.cell (j := xs.length - 1 + j) (v := ((xs ++ rest).take i ++ news ++ (xs ++ rest).drop (i + news.length))[xs.length - 1 + j]'(by rw [hL1]; omega)) (by simp)]; rfl) (fun j hj => hA1.frozen _)
  have hfin : DelPost w 25 (.slice (some ⟨g, 0, none⟩) xs.length c) (xs.take i ++ xs.drop (i + 1)) (.returned (.slice (some ⟨g, 0, none⟩) (xs.length - 1) c)) (W1.setCells g (xs.length - 1) (List.replicate 1 (Value.pointer none))) := by
    have hA2 := At.setCells (List.replicate 1 (Value.pointer none)) (xs.length - 1) _ _ hA1 (by rw [hL1]; simp; omega)
    refine ⟨_, rfl, .inr ⟨g, c, (Value.pointer none) :: rest, ?_, ?_, by simp; omega, hcp⟩, Keeps.setCells (fun _ => onlyB_self g _ _) _ _ _ hK1, rfl⟩
    · simp; omega
    · rw [hnews, del_list xs rest i (Value.pointer none) hi] at hA2
      exact hA2
  have HF : Hid _ := hfin
  have hb1 : (0 : Int) ≤ (i : Int) + 1 := by omega
  have hb3 : (i : Int) ≤ (i : Int) + 1 := by omega
  have hne : ¬ ((i : Int) = (i : Int) + 1) := by omega
  have htn : ((i : Int) + 1).toNat = i + 1 := by omega
  have hic : i ≤ c := by omega
  have hjn : (i : Int) + 1 ≤ (xs.length : Int) := by omega
  have hjc : i + 1 ≤ c := by omega
  by_cases hcc : c = i + 1
  · have hn1 : xs.length = i + 1 := by omega
    have hne0 : news = [] := List.eq_nil_of_length_eq_zero (by omega)
    have HRA : Hid _ := hra ⟨g, 0, none⟩ 0 (by rw [hne0]; simp)
    have HCL : Hid _ := hcl
    clear hfin hA1 hK1 hL1 hat hcs hsp h1 hnews hcl hnl hW1 hra hne0
    rw [hn1] at HCL HF HRA hn hjn ⊢
    subst hcc
    simp only [Nat.sub_self, Nat.add_sub_cancel] at HCL HF HRA
    clear hn1
    go_enter Try.func59, Try.ntmps59
    go_wp2_with fail
    go_region_law (refine step_append_run rfl (.tmp 22) (.tmp 25) 56 56 rfl (.slice (some ⟨g, 0, none⟩) i (i + 1)) (.slice (some ⟨g, 0, none⟩) 0 0) (by simp [Act.eval, Act.put]) (by simp [Act.eval, Act.put]) HRA.out ?_)
    have hcl := HCL.out
    go_wp2_with fail
    go_ret
    exact HF.out
  · have HRA : Hid _ := hra ⟨g, i + 1, none⟩ (c - (i + 1)) (fun j u hu => by
      rw [Addr.add_lit]
      exact hcs (i + 1 + j) u (by rw [hnews, List.getElem?_drop] at hu; exact hu))
    have hc1 : xs.length - (xs.length - 1) = 1 := by omega
    have HCL : Hid (∀ cc, (Builtin.clear_ #[56] 0 #[.slice (some ⟨g, xs.length - 1, none⟩) (xs.length - (xs.length - 1)) cc]).run Try.prog W1 = .ok (.tuple #[]) (W1.setCells g (xs.length - 1) (List.replicate 1 (Value.pointer none)))) := by rw [hc1]; exact hcl
    have hcx : ¬ c = xs.length - 1 := by omega
    clear hfin hA1 hK1 hL1 hat hcs hsp h1 hnews hcl hnl hW1 hra hc1
    generalize xs.length = n at *
    go_enter Try.func59, Try.ntmps59
    go_wp2_with fail
    go_region_law (refine step_append_run rfl (.tmp 22) (.tmp 25) 56 56 rfl (.slice (some ⟨g, 0, none⟩) i c) (.slice (some ⟨g, i + 1, none⟩) (n - (i + 1)) (c - (i + 1))) (by simp [Act.eval, Act.put]) (by simp [Act.eval, Act.put]) HRA.out ?_)
    have hcl := HCL.out
    go_wp2_with fail
    go_ret
    exact HF.out
end Go.Proofs.Qxb6603837a
