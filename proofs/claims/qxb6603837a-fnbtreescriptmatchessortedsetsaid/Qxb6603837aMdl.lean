/- The model: a sorted slice, insert and remove; two slices compared. -/
import Derived.Test.Qxb6603837aCol
import Derived.Test.Qxb6603837aZs
namespace Go.Proofs.Qxb6603837a
open Go.RowKit
theorem OwnS.set {w : World} {e : TypeId} {g n c : Nat} {xs : List Value} (h : OwnS w e (.slice (some ⟨g, 0, none⟩) n c) xs) {j : Nat} (hj : j < xs.length) (u : Value) : OwnS (w.setCell ⟨g, j, none⟩ u) e (.slice (some ⟨g, 0, none⟩) n c) (xs.set j u) := by
  rcases h with ⟨h, _⟩ | ⟨g', c', rest, h, hat, hl, hc⟩
  · cases h
  · simp at h
    obtain ⟨rfl, rfl, rfl⟩ := h
    refine .inr ⟨g, c, rest, by simp, ?_, by simpa using hl, hc⟩
    have := hat.set j u
    rwa [List.set_append_left _ _ hj] at this
theorem OwnS.cell {w : World} {e : TypeId} {g n c : Nat} {xs : List Value} (h : OwnS w e (.slice (some ⟨g, 0, none⟩) n c) xs) {j : Nat} {u : Value} (hj : xs[j]? = some u) : w.cell? ⟨g, j, none⟩ = some u ∧ w.frozen? ⟨g, j, none⟩ = false := by
  rcases h with ⟨h, _⟩ | ⟨g', c', rest, h, hat, hl, hc⟩
  · cases h
  · simp at h
    obtain ⟨rfl, rfl, rfl⟩ := h
    exact ⟨hat.cell (by rw [List.getElem?_append_left (List.getElem?_eq_some_iff.1 hj).1]; exact hj), hat.frozen j⟩
theorem OwnS.len {w : World} {e : TypeId} {g n c : Nat} {xs : List Value} (h : OwnS w e (.slice (some ⟨g, 0, none⟩) n c) xs) : n = xs.length ∧ n ≤ c ∧ c ≤ 9223372036854775807 := by
  rcases h with ⟨h, _⟩ | ⟨g', c', rest, h, hat, hl, hc⟩
  · cases h
  · simp at h
    obtain ⟨rfl, rfl, rfl⟩ := h
    exact ⟨rfl, by omega, hc⟩
theorem ins_step {ys : List ByteArray} {j : Nat} {x y : ByteArray} (hy : ys[j]? = some y) : (ys.take (j + 1) ++ x :: ys.drop (j + 1)).set (j + 1) y = ys.take j ++ y :: ys.drop j := by
  have hj := (List.getElem?_eq_some_iff.1 hy).1
  rw [List.set_append_right _ _ (by simp; omega), drop_cons' hy, take_snoc hy]
  have : j + 1 - (ys.take j ++ [y]).length = 0 := by simp; omega
  rw [this]
  simp
theorem ins_end {ys : List ByteArray} {j : Nat} {x k : ByteArray} (hj : j ≤ ys.length) : (ys.take j ++ x :: ys.drop j).set j k = ys.take j ++ k :: ys.drop j := by
  rw [List.set_append_right _ _ (by simp; omega)]
  have : j - (ys.take j).length = 0 := by simp; omega
  rw [this]
  simp
theorem mid_get {ys : List ByteArray} {j : Nat} {x : ByteArray} (hj : j ≤ ys.length) : (ys.take j ++ x :: ys.drop j)[j]? = some x := by
  rw [List.getElem?_append_right (by simp; omega)]
  have : j - (ys.take j).length = 0 := by simp; omega
  rw [this]
  rfl
/-- the model's slice: grown or shrunk in place, or laid anew -/
structure MdlS (v : Value) (zs : List ByteArray) (w : World) (v' : Value) (w' : World) : Prop where
  own : OwnS w' 9 v' (zs.map Value.string)
  keeps : Keeps (OnlyB v) w w'
  same : SameB w w' v v'
def MdlPost (v : Value) (zs : List ByteArray) (b : Bool) (w : World) (e : Ending) (w' : World) : Prop := ∃ v', e = .returned (.tuple #[v', .bool b]) ∧ MdlS v zs w v' w'
set_option maxHeartbeats 2000000 in
set_option maxRecDepth 100000 in
theorem modelInsert19 {v : Value} {ys : List ByteArray} {k : ByteArray} {w : World} (ho : OwnS w 9 v (ys.map Value.string)) (hasc : Asc ys) (hn : ys.length ≤ 1000000) :
    Calls Try.prog 19 #[v, .string k] w (MdlPost v (insK k ys) (!has k ys) w) := by
  obtain ⟨ka, kc, hkv, hrd⟩ := ho.rd
  simp only [List.length_map] at hkv hrd
  have hS := zsearch13 ka ys.length kc ys k w hasc (by omega) hrd
  rw [← hkv] at hS
  have hh := hit_iff k ys hasc
  rw [hh] at hS
  have hp := pos_le k ys
  unfold MdlPost
  cases hk : has k ys
  · rw [hk] at hS
    have hins : insK k ys = ys.take (pos k ys) ++ k :: ys.drop (pos k ys) := by unfold insK; rw [if_neg (by rw [hk]; decide)]
    rw [hins]
    clear hins hh hrd hkv
    generalize pos k ys = i at *
    have HO : Hid (OwnS w 9 v (ys.map Value.string)) := ho
    clear ho hasc
    go_enter Try.func19, Try.ntmps19
    go_upto_region 4 with (first | (go_at_call 13; refine hS.mono ?_; rintro e w' ⟨rfl, q, rfl⟩))
    have hK0 : Keeps No w (w.drewN q) := (Keeps.refl No w).drewN q
    have hO0 : OwnS (w.drewN q) 9 v (ys.map Value.string) := HO.out.keep hK0 (fun _ _ h => h)
    clear hS
    generalize w.drewN q = w0 at *
    have ho2 : OwnS (w0.alloc (.cells #[.string ⟨#[]⟩] 9)) 9 v (ys.map Value.string) := hO0.keep ((Keeps.refl No w0).alloc _) (fun _ _ h => h)
    have hrd2 : Rd (w0.alloc (.cells #[.string ⟨#[]⟩] 9)) (some ⟨w0.heap.size, 0, none⟩) 1 (([⟨#[]⟩] : List ByteArray).map Value.string) := ⟨rfl, fun _ => ⟨_, 0, rfl, fun j u hu => by
      have hA := At.new w0 9 #[Value.string ⟨#[]⟩]
      rw [Nat.zero_add]
      exact hA.cell (by simpa using hu)⟩⟩
    obtain ⟨v', w1, hrun, ho', hkp, hs⟩ := app_strings (c := 1) ho2 hrd2 (by omega)
    have HR : Hid _ := hrun
    go_upto_region 5 with (first | (at_builtin; refine Lib.wpList_append_run _ rfl _ _ _ _ rfl _ _ rfl rfl _ _ HR.out ?_))
    obtain ⟨g, c, rfl⟩ : ∃ g c, v' = .slice (some ⟨g, 0, none⟩) (ys.length + 1) c := by
      obtain ⟨g, c, e⟩ := ho'.val (fun e => by rcases ho' with ⟨_, e'⟩ | ⟨_, _, _, rfl, _⟩; simp at e'; simp [Value.ownBlock] at e)
      exact ⟨g, c, by simpa using e⟩
    obtain ⟨hcap, hc63⟩ := ho'.len.2
    have hk0 : Keeps (OnlyB v) w w1 := (hK0.alloc _).trans hkp (fun _ _ h => h.elim) (fun _ _ h => h)
    have hs0 : SameB w w1 v (.slice (some ⟨g, 0, none⟩) (ys.length + 1) c) := by
      rcases hs with h | ⟨g', h1, h2, h3⟩
      · exact .inl h
      · refine .inr ⟨g', h1, ?_, h3⟩
        have := (hK0.alloc (.cells #[.string ⟨#[]⟩] 9)).size
        omega
    have HS0 : Hid (SameB w w1 v (.slice (some ⟨g, 0, none⟩) (ys.length + 1) c)) := hs0
    have HI0 : Hid (OwnS w1 9 (.slice (some ⟨g, 0, none⟩) (ys.length + 1) c) ((ys.take ys.length ++ ⟨#[]⟩ :: ys.drop ys.length).map Value.string) ∧ Keeps (OnlyB v) w w1) := ⟨by simpa using ho', hk0⟩
    clear ho2 hrd2 ho' hkp hs hk0 hs0 hrun HO hO0 hK0
    clear HR
    generalize hL : ys.length = n at *
    go_wp2_with fail
    go_loopg [8] (n - i) (fun g8 s8 wr => ∃ (j : Nat) (x : ByteArray), s8 = .int .i64 j ∧ i ≤ j ∧ j ≤ n ∧ g8 = j - i ∧ Hid (OwnS wr 9 (.slice (some ⟨g, 0, none⟩) (n + 1) c) ((ys.take j ++ x :: ys.drop j).map Value.string) ∧ Keeps (OnlyB v) w wr ∧ w1.heap.size ≤ wr.heap.size))
    case atStart => exact ⟨n, _, by go_num, hp, Nat.le_refl _, rfl, HI0.out.1, HI0.out.2, Nat.le_refl _⟩
    case round =>
      obtain ⟨j, x, rfl, hij, hjn, rfl, hI⟩ := hrel
      have HL : Hid (ys.length = n) := hL
      by_cases hlt : i < j
      · obtain ⟨j', rfl⟩ : ∃ j', j = j' + 1 := ⟨j - 1, by omega⟩
        obtain ⟨y, hy⟩ : ∃ y, ys[j']? = some y := ⟨ys[j'], List.getElem?_eq_getElem (by omega)⟩
        have hty : (ys.take (j' + 1))[j']? = some y := by rw [List.getElem?_take_of_lt (by omega)]; exact hy
        have f1 := (hI.out.1.cell (j := j') (u := .string y) (by rw [List.getElem?_map, List.getElem?_append_left (by simp; omega), hty]; rfl)).1
        have f2 := hI.out.1.cell (j := j' + 1) (u := .string x) (by rw [List.getElem?_map, mid_get (by omega)]; rfl)
        obtain ⟨f2, f3⟩ := f2
        have HI1 : Hid (OwnS (wr.setCell ⟨g, j' + 1, none⟩ (.string y)) 9 (.slice (some ⟨g, 0, none⟩) (n + 1) c) ((ys.take j' ++ y :: ys.drop j').map Value.string) ∧ Keeps (OnlyB v) w (wr.setCell ⟨g, j' + 1, none⟩ (.string y)) ∧ w1.heap.size ≤ (wr.setCell ⟨g, j' + 1, none⟩ (.string y)).heap.size) := by
          refine ⟨?_, Keeps.setCell hI.out.2.1 (fun h => HS0.out.old h (onlyB_self g (n + 1) c)) _, Nat.le_trans hI.out.2.2 (Keeps.setCell (S := fun _ => True) (Keeps.refl _ wr) (fun _ => trivial) _).size⟩
          have := hI.out.1.set (j := j' + 1) (by simp; omega) (.string y)
          rw [← List.map_set, ins_step hy] at this
          exact this
        clear hI hy hty hL
        go_wp2_with fail
        go_roundg (j' - i)
        case measure => omega
        case rel => exact ⟨j', y, by go_num, by omega, by omega, rfl, HI1.out⟩
      · have hij' : j = i := by omega
        subst hij'
        have f2 := hI.out.1.cell (j := j) (u := .string x) (by rw [List.getElem?_map, mid_get (by omega)]; rfl)
        obtain ⟨f2, f3⟩ := f2
        have HI1 : Hid (OwnS (wr.setCell ⟨g, j, none⟩ (.string k)) 9 (.slice (some ⟨g, 0, none⟩) (n + 1) c) ((ys.take j ++ k :: ys.drop j).map Value.string) ∧ Keeps (OnlyB v) w (wr.setCell ⟨g, j, none⟩ (.string k))) := by
          refine ⟨?_, Keeps.setCell hI.out.2.1 (fun h => HS0.out.old h (onlyB_self g (n + 1) c)) _⟩
          have := hI.out.1.set (j := j) (by simp; omega) (.string k)
          rw [← List.map_set, ins_end (by omega)] at this
          exact this
        have HSz : Hid (w1.heap.size ≤ wr.heap.size) := hI.out.2.2
        clear hI hL
        go_wp2_with fail
        go_ret2
        refine ⟨_, rfl, HI1.out.1, HI1.out.2, ?_⟩
        rcases HS0.out with h | ⟨g', h1, h2, h3⟩
        · exact .inl h
        · refine .inr ⟨g', h1, h2, ?_⟩
          have := (Keeps.setCell (S := fun _ => True) (Keeps.refl _ wr) (p := ⟨g, j, none⟩) (fun _ => trivial) (.string k)).size
          have := HSz.out
          omega
  · rw [hk] at hS
    have hins : insK k ys = ys := by unfold insK; rw [if_pos hk]
    rw [hins]
    have HO : Hid (OwnS w 9 v (ys.map Value.string)) := ho
    clear hh hrd hkv ho hasc
    generalize pos k ys = i at *
    go_enter Try.func19, Try.ntmps19
    go_wp2_with (first | (go_at_call 13; refine hS.mono ?_; rintro e w' ⟨rfl, q, rfl⟩))
    go_ret2
    exact ⟨v, rfl, HO.out.keep ((Keeps.refl No w).drewN q) (fun _ _ h => h), ((Keeps.refl _ w).drewN q), .inl rfl⟩
theorem rem_step {ys : List ByteArray} {i j : Nat} {y : ByteArray} (hij : i ≤ j) (hy : ys[j + 1]? = some y) : ((ys.take i ++ ys.drop (i + 1)).take j ++ ys.drop j).set j y = (ys.take i ++ ys.drop (i + 1)).take (j + 1) ++ ys.drop (j + 1) := by
  have hj := (List.getElem?_eq_some_iff.1 hy).1
  have hl : (ys.take i ++ ys.drop (i + 1)).length = ys.length - 1 := by simp; omega
  have hr : (ys.take i ++ ys.drop (i + 1))[j]? = some y := by
    rw [List.getElem?_append_right (by simp; omega), List.getElem?_drop, ← hy]
    congr 1
    simp
    omega
  obtain ⟨z, hz⟩ : ∃ z, ys[j]? = some z := ⟨ys[j], List.getElem?_eq_getElem (by omega)⟩
  rw [List.set_append_right _ _ (by simp; omega), take_snoc hr, drop_cons' hz]
  have : j - ((ys.take i ++ ys.drop (i + 1)).take j).length = 0 := by rw [List.length_take, hl]; omega
  rw [this]
  simp
theorem rem_end {ys : List ByteArray} {i n : Nat} (hi : i ≤ n) (hn : ys.length = n + 1) : ∃ z, (ys.take i ++ ys.drop (i + 1)).take n ++ ys.drop n = (ys.take i ++ ys.drop (i + 1)) ++ [z] := by
  obtain ⟨z, hz⟩ : ∃ z, ys[n]? = some z := ⟨ys[n], List.getElem?_eq_getElem (by omega)⟩
  have e2 : ys.drop n = [z] := by rw [drop_cons' hz, List.drop_of_length_le (by omega)]
  exact ⟨z, by rw [e2, List.take_of_length_le (by simp; omega)]⟩
theorem OwnS.cutLast {w : World} {e : TypeId} {g n c : Nat} {xs : List Value} {z : Value} (h : OwnS w e (.slice (some ⟨g, 0, none⟩) (n + 1) c) (xs ++ [z])) : OwnS w e (.slice (some ⟨g, 0, none⟩) n c) xs := by
  rcases h with ⟨h, _⟩ | ⟨g', c', rest, h, hat, hl, hc⟩
  · cases h
  · simp at h
    obtain ⟨rfl, hn, rfl⟩ := h
    exact .inr ⟨g, c, z :: rest, by simp [hn], by simpa using hat, by simp at hl ⊢; omega, hc⟩
set_option maxHeartbeats 2000000 in
set_option maxRecDepth 100000 in
theorem modelRemove25 {v : Value} {ys : List ByteArray} {k : ByteArray} {w : World} (ho : OwnS w 9 v (ys.map Value.string)) (hasc : Asc ys) (hn : ys.length ≤ 1000000) :
    Calls Try.prog 25 #[v, .string k] w (MdlPost v (remK k ys) (has k ys) w) := by
  obtain ⟨ka, kc, hkv, hrd⟩ := ho.rd
  simp only [List.length_map] at hkv hrd
  have hS := zsearch13 ka ys.length kc ys k w hasc (by omega) hrd
  rw [← hkv] at hS
  have hh := hit_iff k ys hasc
  rw [hh] at hS
  have hp := pos_le k ys
  unfold MdlPost
  cases hk : has k ys
  · rw [hk] at hS
    have hrem : remK k ys = ys := remK_absent (has_false.1 hk)
    rw [hrem]
    have HO : Hid (OwnS w 9 v (ys.map Value.string)) := ho
    clear hh hrd hkv ho hasc
    generalize pos k ys = i at *
    go_enter Try.func25, Try.ntmps25
    go_wp2_with (first | (go_at_call 13; refine hS.mono ?_; rintro e w' ⟨rfl, q, rfl⟩))
    go_ret2
    exact ⟨v, rfl, HO.out.keep ((Keeps.refl No w).drewN q) (fun _ _ h => h), ((Keeps.refl _ w).drewN q), .inl rfl⟩
  · rw [hk] at hS
    obtain ⟨hlt, hrem⟩ := remK_at hasc (has_iff.1 hk)
    rw [hrem]
    obtain ⟨n, hn1⟩ : ∃ n, ys.length = n + 1 := ⟨ys.length - 1, by omega⟩
    obtain ⟨g, c, hv, hgc, hc63, _, _⟩ := ho.open' (by simp; omega)
    simp only [List.length_map, hn1] at hv hgc
    subst hv
    have HO : Hid (OwnS w 9 (.slice (some ⟨g, 0, none⟩) (n + 1) c) (ys.map Value.string)) := ho
    have HL : Hid (ys.length = n + 1) := hn1
    have hin : pos k ys ≤ n := by omega
    have hn6 : n ≤ 1000000 := by omega
    clear hh hrd hkv ho hasc hp hrem hn1 hn hlt
    generalize pos k ys = i at *
    go_enter Try.func25, Try.ntmps25
    go_wp2_with (first | (go_at_call 13; refine hS.mono ?_; rintro e w' ⟨rfl, q, rfl⟩))
    go_loopg [8] (n - i) (fun g8 s8 wr => ∃ (j : Nat), s8 = .int .i64 j ∧ i ≤ j ∧ j ≤ n ∧ g8 = n - j ∧ Hid (OwnS wr 9 (.slice (some ⟨g, 0, none⟩) (n + 1) c) (((ys.take i ++ ys.drop (i + 1)).take j ++ ys.drop j).map Value.string) ∧ Keeps (OnlyB (.slice (some ⟨g, 0, none⟩) (n + 1) c)) w wr))
    case atStart =>
      refine ⟨i, rfl, Nat.le_refl _, hin, rfl, ?_, (Keeps.refl _ w).drewN q⟩
      have e : (ys.take i ++ ys.drop (i + 1)).take i ++ ys.drop i = ys := by
        have hl := HL.out
        rw [List.take_append_of_le_length (by simp; omega), List.take_take, Nat.min_self, List.take_append_drop]
      rw [e]
      exact HO.out.keep ((Keeps.refl No w).drewN q) (fun _ _ h => h)
    case round =>
      obtain ⟨j, rfl, hij, hjn, rfl, hI⟩ := hrel
      by_cases hlt : j < n
      · have hl := HL.out
        obtain ⟨y, hy⟩ : ∃ y, ys[j + 1]? = some y := ⟨ys[j + 1], List.getElem?_eq_getElem (by omega)⟩
        obtain ⟨x, hx⟩ : ∃ x, ys[j]? = some x := ⟨ys[j], List.getElem?_eq_getElem (by omega)⟩
        have hlr : ((ys.take i ++ ys.drop (i + 1)).take j).length = j := by simp; omega
        have g1 : ((ys.take i ++ ys.drop (i + 1)).take j ++ ys.drop j)[j]? = some x := by rw [List.getElem?_append_right (by omega), hlr, List.getElem?_drop, Nat.sub_self]; exact hx
        have g2 : ((ys.take i ++ ys.drop (i + 1)).take j ++ ys.drop j)[j + 1]? = some y := by rw [List.getElem?_append_right (by omega), hlr, List.getElem?_drop, show j + (j + 1 - j) = j + 1 by omega]; exact hy
        have f1 := (hI.out.1.cell (j := j + 1) (u := .string y) (by rw [List.getElem?_map, g2]; rfl)).1
        obtain ⟨f2, f3⟩ := hI.out.1.cell (j := j) (u := .string x) (by rw [List.getElem?_map, g1]; rfl)
        have HI1 : Hid (OwnS (wr.setCell ⟨g, j, none⟩ (.string y)) 9 (.slice (some ⟨g, 0, none⟩) (n + 1) c) (((ys.take i ++ ys.drop (i + 1)).take (j + 1) ++ ys.drop (j + 1)).map Value.string) ∧ Keeps (OnlyB (.slice (some ⟨g, 0, none⟩) (n + 1) c)) w (wr.setCell ⟨g, j, none⟩ (.string y))) := by
          refine ⟨?_, Keeps.setCell hI.out.2 (fun _ => onlyB_self g (n + 1) c) _⟩
          have := hI.out.1.set (j := j) (by rw [List.length_map]; exact (List.getElem?_eq_some_iff.1 g1).1) (.string y)
          rw [← List.map_set, rem_step hij hy] at this
          exact this
        clear hI hy hx g1 g2 hlr hl
        go_wp2_with fail
        go_roundg (n - (j + 1))
        case measure => omega
        case rel => exact ⟨j + 1, by go_num, by omega, by omega, rfl, HI1.out⟩
      · have hij' : j = n := by omega
        subst hij'
        obtain ⟨z, hz⟩ := rem_end hij HL.out
        have HI1 : Hid (OwnS wr 9 (.slice (some ⟨g, 0, none⟩) j c) ((ys.take i ++ ys.drop (i + 1)).map Value.string) ∧ Keeps (OnlyB (.slice (some ⟨g, 0, none⟩) (j + 1) c)) w wr) := by
          obtain ⟨h1, h2⟩ := hI.out
          rw [hz, List.map_append] at h1
          exact ⟨h1.cutLast, h2⟩
        clear hI hz
        have hjc : j ≤ c := by omega
        go_wp2_with fail
        go_ret2
        exact ⟨_, rfl, HI1.out.1, HI1.out.2, .inl rfl⟩
end Go.Proofs.Qxb6603837a
