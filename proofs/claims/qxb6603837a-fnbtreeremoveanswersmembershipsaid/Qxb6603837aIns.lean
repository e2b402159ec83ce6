import Derived.Test.Qxb6603837aRows
import Derived.Test.Qxb6603837aMem
import Derived.Lib.Overlaps
import Derived.Lib.SliceRun
import Derived.Lib.AppendZerosOnto
import Derived.Laws.CopyOwn
import Derived.Deep.RegionLaw
import Derived.Deep.QuietTactic
import Derived.BigQuiet
import Derived.Outline
namespace Go.Proofs.Qxb6603837a
open Go.RowKit
theorem Try.info9 : (Try.prog.info? 9).map (fun i => (i.zero, i.size, i.bytes)) = some (some (.string ByteArray.empty), 1, 16) := by kernel_rfl
theorem Try.info25 : (Try.prog.info? 25).map (fun i => (i.zero, i.size, i.bytes)) = some (some (.pointer none), 1, 8) := by kernel_rfl
theorem At.shape {w : World} {g : Nat} {e : TypeId} {cs : List Value} (h : At w g e cs) : w.shape? g = some (e, cs.length) := by
  unfold World.shape?
  rw [h]
  simp
theorem List.drop_append_of_le_length_or {α : Type} (a b : List α) {n : Nat} (h : a.length ≤ n) : (a ++ b).drop n = b.drop (n - a.length) := by
  rw [List.drop_append, List.drop_of_length_le h]; simp
/-- copy whose run is known, as one step of a region that draws, and in a plain region -/
theorem wpList_copy_run {P : Program} (w : World) {ops : Array Oper} {rest : List Oper} {o : Oper} {a : Act} {Q : Exit → Act → World → Prop} (hgd : o.guard = none) (d s : Operand) (t t' : TypeId)
    (ho : o.op = .call { callee := .builtin .copy, args := #[d, s], argTypes := #[t, t'] }) (v u : Value) (hd : a.eval d = v) (hs : a.eval s = u) {v' : Value} {w' : World}
    (hr : (Builtin.copy_ #[t, t'] o.type #[v, u]).run P w = .ok v' w') (h : wpList P ops Q rest (a.put o.dst v') w') : wpList P ops Q (o :: rest) a w :=
  wpList_plain hgd fun _ hK => by
    unfold Oper.wp execOp
    simp only [ho, resolve, invoke, builtin, Sem.run_bind, Sem.run_pure, Result.andThen_ok, List.map_toArray, List.map_cons, List.map_nil, hd, hs, hr]
    exact hK _ _ h
theorem step_copy_run {P : Program} {ops : Array Oper} {o : Oper} {a : Act} {w : World} {K : Act → World → Prop} {Q : Exit → Act → World → Prop} {E : Prop}
    (hg : o.guard = none) (d x : Operand) (dT sT : TypeId) (hop : o.op = Op.call { callee := Callee.builtin Builtin.copy, args := #[d, x], argTypes := #[dT, sT] })
    (v u : Value) (hd : a.eval d = v) (hx : a.eval x = u) {v' : Value} {w' : World} (hr : (Builtin.copy_ #[dT, sT] o.type #[v, u]).run P w = .ok v' w') (hK : K (a.put o.dst v') w') :
    if Region.wanted o (yielded ops a.tmps) = true then Oper.wp P o a w K Q else E := by
  have hw : Region.wanted o (yielded ops a.tmps) = true := by simp [Region.wanted, hg]
  rw [if_pos hw]
  unfold Oper.wp
  simp [execOp, hop, resolve, invoke, builtin, hd, hx, hr, Result.andThen]
  exact hK
theorem onlyB_self (g n c : Nat) : OnlyB (.slice (some ⟨g, 0, none⟩) n c) g := rfl
theorem ins_list (xs rest : List Value) (i : Nat) (x : Value) (h : i < xs.length) :
    List.take i ((xs ++ rest).take (i + 1) ++ xs.drop i ++ (xs ++ rest).drop (i + 1 + (xs.drop i).length)) ++ [x] ++ List.drop (i + [x].length) ((xs ++ rest).take (i + 1) ++ xs.drop i ++ (xs ++ rest).drop (i + 1 + (xs.drop i).length)) = xs.take i ++ x :: xs.drop i ++ rest.drop 1 := by
  have e1 : (xs ++ rest).take (i + 1) = xs.take (i + 1) := by rw [List.take_append_of_le_length (by omega)]
  have e2 : (xs ++ rest).drop (i + 1 + (xs.drop i).length) = rest.drop 1 := by
    rw [List.drop_append_of_le_length_or _ _ (by simp; omega), show i + 1 + (xs.drop i).length - xs.length = 1 by simp; omega]
  rw [e1, e2]
  have e3 : (xs.take (i + 1) ++ xs.drop i ++ rest.drop 1).take i = xs.take i := by
    rw [List.append_assoc, List.take_append_of_le_length (by simp; omega), List.take_take, Nat.min_eq_left (by omega)]
  have e4 : (xs.take (i + 1) ++ xs.drop i ++ rest.drop 1).drop (i + [x].length) = xs.drop i ++ rest.drop 1 := by
    rw [List.append_assoc, List.drop_append_of_le_length_or _ _ (by simp; omega)]
    have : i + [x].length - (xs.take (i + 1)).length = 0 := by simp; omega
    rw [this]; rfl
  rw [e3, e4]
  simp
theorem grow_list (xs : List Value) (i : Nat) (x z : Value) (G : Nat) (h : i < xs.length) (hG : xs.length + 1 ≤ G) :
    List.take (i + 1) (List.take i (xs.take i ++ List.replicate (xs.length + 1 - i) z ++ List.replicate (G - (xs.length + 1)) z) ++ [x] ++ List.drop (i + [x].length) (xs.take i ++ List.replicate (xs.length + 1 - i) z ++ List.replicate (G - (xs.length + 1)) z)) ++ xs.drop i ++
      List.drop (i + 1 + (xs.drop i).length) (List.take i (xs.take i ++ List.replicate (xs.length + 1 - i) z ++ List.replicate (G - (xs.length + 1)) z) ++ [x] ++ List.drop (i + [x].length) (xs.take i ++ List.replicate (xs.length + 1 - i) z ++ List.replicate (G - (xs.length + 1)) z)) =
    xs.take i ++ x :: xs.drop i ++ List.replicate (G - (xs.length + 1)) z := by
  have e1 : (xs.take i ++ List.replicate (xs.length + 1 - i) z ++ List.replicate (G - (xs.length + 1)) z) = xs.take i ++ List.replicate (G - i) z := by
    rw [List.append_assoc, List.replicate_append_replicate, show xs.length + 1 - i + (G - (xs.length + 1)) = G - i by omega]
  rw [e1]
  have e2 : (xs.take i ++ List.replicate (G - i) z).take i = xs.take i := by
    rw [List.take_append_of_le_length (by simp; omega), List.take_take, Nat.min_self]
  have e3 : (xs.take i ++ List.replicate (G - i) z).drop (i + [x].length) = List.replicate (G - i - 1) z := by
    rw [List.drop_append_of_le_length_or _ _ (by simp; omega), List.drop_replicate]
    congr 1
    simp
    omega
  rw [e2, e3]
  have e4 : (xs.take i ++ [x] ++ List.replicate (G - i - 1) z).take (i + 1) = xs.take i ++ [x] := by
    rw [List.take_append_of_le_length (by simp; omega), List.take_of_length_le (by simp; omega)]
  have e5 : (xs.take i ++ [x] ++ List.replicate (G - i - 1) z).drop (i + 1 + (xs.drop i).length) = List.replicate (G - (xs.length + 1)) z := by
    rw [List.drop_append_of_le_length_or _ _ (by simp; omega), List.drop_replicate]
    congr 1
    simp
    omega
  rw [e4, e5]
  simp
def InsPost (w : World) (e : TypeId) (v : Value) (ys : List Value) (en : Ending) (w' : World) : Prop :=
  ∃ v', en = .returned v' ∧ OwnS w' e v' ys ∧ Keeps (OnlyB v) w w' ∧ SameB w w' v v' ∧ v'.ownBlock ≠ none
set_option maxHeartbeats 4000000 in
set_option maxRecDepth 100000 in
theorem insert37 (v : Value) (xs : List Value) (i : Nat) (x : Value) (vb : Nat) (w : World) (hi : i ≤ xs.length) (hown : OwnS w 9 v xs) (hvb : At w vb 9 [x]) (hne : v.ownBlock ≠ some vb) (hn : xs.length ≤ 1000)
    (h1 : ∀ u ∈ xs, u.oneCell' = true) (hx1 : x.oneCell' = true) :
    Calls Try.prog 37 #[v, .int .i64 i, .slice (some ⟨vb, 0, none⟩) 1 1] w (InsPost w 9 v (xs.take i ++ x :: xs.drop i)) := by
  obtain ⟨i0, hi0, hz0, hz1, hz2⟩ := info_parts Try.info9
  have hxc := hvb.cell (j := 0) rfl
  have hnews : ∀ (j : Nat) (u : Value), [x][j]? = some u → w.cell? ((⟨vb, 0, none⟩ : Addr).add j) = some u := fun j u hu => by
    match j, hu with
    | 0, hu => simp at hu; subst hu; rw [Addr.add_lit]; exact hxc
  obtain ⟨v', w', hr, ho', hk', hs', hb'⟩ := run_append_S (P := Try.prog) w 22 22 9 i0 (Value.string ByteArray.empty) 16 Try.underlying22 hi0 hz0 hz1 hz2 rfl v xs hown ⟨vb, 0, none⟩ 1 1 [x] rfl hnews (by simpa using hx1) (by omega) (by omega) (by omega)
  by_cases hend : i = xs.length
  · subst hend
    have HP : Hid (InsPost w 9 v (xs.take xs.length ++ x :: xs.drop xs.length) (.returned v') w') := ⟨v', rfl, by simpa using ho', hk', hs', hb'⟩
    have HR : Hid _ := hr
    rcases hown with ⟨rfl, rfl⟩ | ⟨g, c, rest, rfl, hat, hlen, hcp⟩
    · clear ho' hk' hs' hb' hr hnews hvb h1 hx1 hne
      simp only [List.length_nil] at *
      go_enter Try.func37, Try.ntmps37
      go_wp2_with (at_builtin; refine Lib.wpList_append_run _ rfl _ _ _ _ rfl _ _ rfl rfl _ _ HR.out ?_)
      go_ret
      exact HP.out
    · clear ho' hk' hs' hb' hr hnews hvb h1 hx1 hne hat
      generalize xs.length = n at *
      go_enter Try.func37, Try.ntmps37
      go_wp2_with (at_builtin; refine Lib.wpList_append_run _ rfl _ _ _ _ rfl _ _ rfl rfl _ _ HR.out ?_)
      all_goals
        go_ret
        exact HP.out
  · clear ho' hk' hs' hb' hr
    rcases hown with ⟨rfl, rfl⟩ | ⟨g, c, rest, rfl, hat, hlen, hcp⟩
    · simp at hi hend; omega
    · have hlt : i < xs.length := by omega
      have hgv : g ≠ vb := fun e => hne (by rw [e]; rfl)
      have hsz : (Try.prog.info? 9).map (·.size) = some 1 := by rw [hi0]; simp [hz1]
      have hcs : ∀ (j : Nat) (u : Value), xs[j]? = some u → w.cell? ⟨g, j, none⟩ = some u := fun j u hu => hat.cell (by rw [List.getElem?_append_left (List.getElem?_eq_some_iff.1 hu).1]; exact hu)
      by_cases hroom : xs.length + 1 ≤ c
      · have hov : ∀ lb cb, (callFunc 44 #[.slice (some ⟨vb, 0, none⟩) 1 1, .slice (some ⟨g, i + 1, none⟩) lb cb]).run Try.prog w = .ok (.value (.bool false)) w := fun lb cb => by
          rw [run_callFunc_extern Try.func44 (by kernel_rfl) (by kernel_rfl) (by kernel_rfl) (e := Extern.SlicesOverlaps.overlaps #[22, 22] #[4]) (by kernel_rfl),
            Lib.run_overlaps_apart w 22 4 9 Try.underlying22 1 (fun w => by simp [Go.sizeOf, typeInfo, hi0, hz1]) ⟨vb, 0, none⟩ ⟨g, i + 1, none⟩ 1 1 lb cb (fun e => hgv e.symm) 9 9 1 (xs ++ rest).length (hvb.shape) (hat.shape) (by rw [List.length_append]; omega) (hvb.frozen 0) (hvb.frozen 1)]
          rfl
        have hsp : ∀ k, k < c → (w.cell? ⟨g, k, none⟩).isSome = true := fun k hk => by
          rw [hat.cell (j := k) (v := (xs ++ rest)[k]'(by simp; omega)) (by simp)]; rfl
        have hdl : (xs.drop i).length = xs.length - i := by simp
        have hcp1 : ∀ dc sc, (Builtin.copy_ #[22, 22] 3 #[.slice (some ⟨g, i + 1, none⟩) (xs.length - i) dc, .slice (some ⟨g, i, none⟩) (xs.length + 1 - i) sc]).run Try.prog w.drew = .ok (goInt (xs.drop i).length) (w.drew.setCells g (i + 1) (xs.drop i)) := fun dc sc =>
          run_copy_cells w.drew _ _ 3 9 g (i + 1) (xs.length - i) dc ⟨g, i, none⟩ (xs.length + 1 - i) sc (xs.drop i) Try.underlying22 hsz (by rw [hdl]; simp only [Nat.min_def]; split <;> omega)
            (fun j u hj => by rw [Addr.add_lit]; exact hcs (i + j) u (by rwa [List.getElem?_drop] at hj))
            (fun j hj => hsp _ (by omega)) (fun j hj => hat.frozen _) (fun u hu => h1 u (List.mem_of_mem_drop hu))
        obtain ⟨W1, hW1⟩ : ∃ W1, W1 = w.drew.setCells g (i + 1) (xs.drop i) := ⟨_, rfl⟩
        have hA1 : At W1 g 9 ((xs ++ rest).take (i + 1) ++ xs.drop i ++ (xs ++ rest).drop (i + 1 + (xs.drop i).length)) := by
          rw [hW1]; exact At.setCells _ _ _ _ hat.drew (by simp; omega)
        have hV1 : At W1 vb 9 [x] := by rw [hW1]; exact At.setCellsOther (fun e => hgv e.symm) _ _ _ hvb.drew
        have hK1 : Keeps (OnlyB (.slice (some ⟨g, 0, none⟩) xs.length c)) w W1 := by rw [hW1]; exact Keeps.setCells (fun _ => onlyB_self g _ _) _ _ _ (Keeps.refl _ w).drew
        have hL1 : ((xs ++ rest).take (i + 1) ++ xs.drop i ++ (xs ++ rest).drop (i + 1 + (xs.drop i).length)).length = c := by simp; omega
        have hcp2 : ∀ dc, (Builtin.copy_ #[22, 22] 3 #[.slice (some ⟨g, i, none⟩) (xs.length + 1 - i) dc, .slice (some ⟨vb, 0, none⟩) 1 1]).run Try.prog W1 = .ok (goInt [x].length) (W1.setCells g i [x]) := fun dc =>
          run_copy_cells W1 _ _ 3 9 g i (xs.length + 1 - i) dc ⟨vb, 0, none⟩ 1 1 [x] Try.underlying22 hsz (by simp only [Nat.min_def, List.length_singleton]; split <;> omega)
            (fun j u hj => by
              match j, hj with
              | 0, hj => simp at hj; subst hj; rw [Addr.add_lit]; exact hV1.cell (j := 0) rfl)
            (fun j hj => by rw [hA1.cell (j := i + j) (v := ((xs ++ rest).take (i + 1) ++ xs.drop i ++ (xs ++ rest).drop (i + 1 + (xs.drop i).length))[i + j]'(by rw [hL1]; simp at hj; omega)) (by simp)]; rfl)
            (fun j hj => hA1.frozen _) (by simpa using hx1)
        have hfin : InsPost w 9 (.slice (some ⟨g, 0, none⟩) xs.length c) (xs.take i ++ x :: xs.drop i) (.returned (.slice (some ⟨g, 0, none⟩) (xs.length + 1) c)) (W1.setCells g i [x]) := by
          refine ⟨_, rfl, .inr ⟨g, c, rest.drop 1, ?_, ?_, ?_, hcp⟩, Keeps.setCells (fun _ => onlyB_self g _ _) _ _ _ hK1, .inl rfl, by simp [Value.ownBlock]⟩
          · simp; omega
          · have := At.setCells [x] i _ _ hA1 (by rw [hL1]; simp; omega)
            have e := ins_list xs rest i x hlt
            rw [e] at this
            exact this
          · simp; omega
        have HF : Hid _ := hfin
        have HC1 : Hid _ := hcp1
        have HC2 : Hid _ := hcp2
        rw [← hW1] at HC1
        have hz2' : ¬ ((i : Int) = (xs.length : Int)) := by omega
        have hw1 : IntKind.i64.wrap ((i : Int) + 1) = (i : Int) + 1 := by rw [IntKind.wrap_i64]; omega
        have htn : ((i : Int) + 1).toNat = i + 1 := by omega
        have hb1 : (0 : Int) ≤ (i : Int) + 1 := by omega
        have hb2 : ¬ (c = i + 1) := by omega
        have hb4 : ¬ (c = i) := by omega
        have hb3 : (i : Int) ≤ (xs.length : Int) + 1 := by omega
        clear hcp1 hcp2 hW1 hA1 hV1 hK1 hL1 hfin hsp hat hvb hcs hnews h1 hx1 hxc hdl hend hne
        generalize hxd : xs.drop i = xd at *
        generalize xs.length = n at *
        go_enter Try.func37, Try.ntmps37
        go_wp2_with (simp only [hov])
        go_region_law (refine step_copy_run rfl (.tmp 73) (.tmp 76) 22 22 rfl (.slice (some ⟨g, i + 1, none⟩) (n - i) (c - (i + 1))) (.slice (some ⟨g, i, none⟩) (n + 1 - i) (c - i)) (by simp [Act.eval, Act.put]) (by simp [Act.eval, Act.put]) (HC1.out _ _) ?_)
        have hc2 := HC2.out
        go_wp2_with fail
        go_ret
        exact HF.out
      · have hcn : c = xs.length := by omega
        subst hcn
        have hrest : rest = [] := List.eq_nil_of_length_eq_zero (by omega)
        subst hrest
        rw [List.append_nil] at hat
        have hgl := hat.lt
        have hvl := hvb.lt
        obtain ⟨G, hG⟩ : ∃ G, G = grownCap w (xs.length + 1) xs.length 9 := ⟨_, rfl⟩
        have hGge : xs.length + 1 ≤ G := by rw [hG]; exact grownCap_ge w _ _ _
        have hGle : G ≤ 9223372036854775807 := by rw [hG]; have := grownCap_le_maxLen w (xs.length + 1) xs.length 9 (by unfold maxLen; omega); unfold maxLen at this; omega
        have hrz : (Builtin.append_ #[22, 3] 22 #[.slice (some ⟨g, 0, none⟩) i xs.length, .int .i64 ((xs.length : Int) + 1 - (i : Int))]).run Try.prog w =
            .ok (.slice (some ⟨w.heap.size, 0, none⟩) (xs.length + 1) G) (w.drew.alloc (.cells ((xs.take i).toArray ++ Builtin.zeroCells (Value.string ByteArray.empty).cells (xs.length + 1 - i) ++ Builtin.zeroCells (Value.string ByteArray.empty).cells (G - (xs.length + 1))) 9)) := by
          have hold : (Builtin.firstCells i0.size i (.slice (some ⟨g, 0, none⟩) i xs.length)).run Try.prog w.drew = .ok (xs.take i).toArray w.drew := by
            rw [hz1]
            exact run_firstCells_some w.drew 1 i ⟨g, 0, none⟩ i xs.length (xs.take i) (by simp; omega) (fun j u hj => by
              rw [Addr.add_lit, Nat.zero_add]
              rw [List.getElem?_take] at hj
              split at hj
              · exact hcs j u hj
              · cases hj)
          have hik : i + (xs.length + 1 - i) = xs.length + 1 := by omega
          have h := Lib.run_append_grow_zeros (P := Try.prog) w 22 3 22 9 i0 (Value.string ByteArray.empty) .i64 .i64 Try.underlying22 Try.underlying3 hi0 hz0 (some ⟨g, 0, none⟩) i xs.length (xs.take i) hold (xs.length + 1 - i) (by omega) (by omega) (by omega) (by omega) (by rw [hz2]; omega)
            (by rw [hz2, hik]; exact growslice_fits (by omega) (by omega))
          rw [hik, ← hG] at h
          rw [show ((xs.length : Int) + 1 - (i : Int)) = ((xs.length + 1 - i : Nat) : Int) by omega]
          exact h
        obtain ⟨W1, hW1⟩ : ∃ W1, W1 = w.drew.alloc (.cells ((xs.take i).toArray ++ Builtin.zeroCells (Value.string ByteArray.empty).cells (xs.length + 1 - i) ++ Builtin.zeroCells (Value.string ByteArray.empty).cells (G - (xs.length + 1))) 9) := ⟨_, rfl⟩
        rw [← hW1] at hrz
        have hA1 : At W1 w.heap.size 9 (xs.take i ++ List.replicate (xs.length + 1 - i) (Value.string ByteArray.empty) ++ List.replicate (G - (xs.length + 1)) (Value.string ByteArray.empty)) := by
          rw [hW1]
          have := At.new w.drew 9 ((xs.take i).toArray ++ Builtin.zeroCells #[(Value.string ByteArray.empty)] (xs.length + 1 - i) ++ Builtin.zeroCells #[(Value.string ByteArray.empty)] (G - (xs.length + 1)))
          simp only [Array.toList_append, zeroCells_one] at this
          exact this
        have hG1 : At W1 g 9 xs := by rw [hW1]; exact (hat.drew).alloc _
        have hV1 : At W1 vb 9 [x] := by rw [hW1]; exact (hvb.drew).alloc _
        have hK1 : Keeps (OnlyB (.slice (some ⟨g, 0, none⟩) xs.length xs.length)) w W1 := by rw [hW1]; exact (Keeps.refl _ w).drew.alloc _
        have hL1 : (xs.take i ++ List.replicate (xs.length + 1 - i) (Value.string ByteArray.empty) ++ List.replicate (G - (xs.length + 1)) (Value.string ByteArray.empty)).length = G := by simp; omega
        have hgs : g ≠ w.heap.size := by omega
        have hvs : vb ≠ w.heap.size := by omega
        have hcp1 : ∀ dc, (Builtin.copy_ #[22, 22] 3 #[.slice (some ⟨w.heap.size, i, none⟩) (xs.length + 1 - i) dc, .slice (some ⟨vb, 0, none⟩) 1 1]).run Try.prog W1 = .ok (goInt [x].length) (W1.setCells w.heap.size i [x]) := fun dc =>
          run_copy_cells W1 _ _ 3 9 w.heap.size i (xs.length + 1 - i) dc ⟨vb, 0, none⟩ 1 1 [x] Try.underlying22 hsz (by simp only [Nat.min_def, List.length_singleton]; split <;> omega)
            (fun j u hj => by
              match j, hj with
              | 0, hj => simp at hj; subst hj; rw [Addr.add_lit]; exact hV1.cell (j := 0) rfl)
            (fun j hj => by rw [hA1.cell (j := i + j) (v := (xs.take i ++ List.replicate (xs.length + 1 - i) (Value.string ByteArray.empty) ++ List.replicate (G - (xs.length + 1)) (Value.string ByteArray.empty))[i + j]'(by rw [hL1]; simp at hj; omega)) (by simp)]; rfl)
            (fun j hj => hA1.frozen _) (by simpa using hx1)
        obtain ⟨W2, hW2⟩ : ∃ W2, W2 = W1.setCells w.heap.size i [x] := ⟨_, rfl⟩
        rw [← hW2] at hcp1
        have hA2 := At.setCells [x] i _ _ hA1 (by rw [hL1]; simp; omega)
        have hG2 : At W2 g 9 xs := by rw [hW2]; exact At.setCellsOther hgs _ _ _ hG1
        have hK2 : Keeps (OnlyB (.slice (some ⟨g, 0, none⟩) xs.length xs.length)) w W2 := by rw [hW2]; exact Keeps.setCells (fun h => absurd h (Nat.lt_irrefl _)) _ _ _ hK1
        rw [← hW2] at hA2
        have hL2 : (List.take i (xs.take i ++ List.replicate (xs.length + 1 - i) (Value.string ByteArray.empty) ++ List.replicate (G - (xs.length + 1)) (Value.string ByteArray.empty)) ++ [x] ++ List.drop (i + [x].length) (xs.take i ++ List.replicate (xs.length + 1 - i) (Value.string ByteArray.empty) ++ List.replicate (G - (xs.length + 1)) (Value.string ByteArray.empty))).length = G := by simp; omega
        have hdl : (xs.drop i).length = xs.length - i := by simp
        have hcp2 : ∀ dc sc, (Builtin.copy_ #[22, 22] 3 #[.slice (some ⟨w.heap.size, i + 1, none⟩) (xs.length - i) dc, .slice (some ⟨g, i, none⟩) (xs.length - i) sc]).run Try.prog W2.drew = .ok (goInt (xs.drop i).length) (W2.drew.setCells w.heap.size (i + 1) (xs.drop i)) := fun dc sc =>
          run_copy_cells W2.drew _ _ 3 9 w.heap.size (i + 1) (xs.length - i) dc ⟨g, i, none⟩ (xs.length - i) sc (xs.drop i) Try.underlying22 hsz (by rw [hdl]; simp only [Nat.min_def]; split <;> omega)
            (fun j u hj => by rw [Addr.add_lit]; exact hG2.drew.cell (by rwa [List.getElem?_drop] at hj))
            (fun j hj => by rw [hA2.drew.cell (j := i + 1 + j) (v := (List.take i (xs.take i ++ List.replicate (xs.length + 1 - i) (Value.string ByteArray.empty) ++ List.replicate (G - (xs.length + 1)) (Value.string ByteArray.empty)) ++ [x] ++ List.drop (i + [x].length) (xs.take i ++ List.replicate (xs.length + 1 - i) (Value.string ByteArray.empty) ++ List.replicate (G - (xs.length + 1)) (Value.string ByteArray.empty)))[i + 1 + j]'(by rw [hL2]; omega)) (by simp)]; rfl)
            (fun j hj => hA2.drew.frozen _) (fun u hu => h1 u (List.mem_of_mem_drop hu))
        have hfin : InsPost w 9 (.slice (some ⟨g, 0, none⟩) xs.length xs.length) (xs.take i ++ x :: xs.drop i) (.returned (.slice (some ⟨w.heap.size, 0, none⟩) (xs.length + 1) G)) (W2.drew.setCells w.heap.size (i + 1) (xs.drop i)) := by
          have hA3 := At.setCells (xs.drop i) (i + 1) _ _ hA2.drew (by rw [hL2]; simp; omega)
          refine ⟨_, rfl, .inr ⟨w.heap.size, G, List.replicate (G - (xs.length + 1)) (Value.string ByteArray.empty), by simp; omega, ?_, by simp; omega, hGle⟩, Keeps.setCells (fun h => absurd h (Nat.lt_irrefl _)) _ _ _ hK2.drew, .inr ⟨w.heap.size, rfl, Nat.le_refl _, hA3.lt⟩, by simp [Value.ownBlock]⟩
          rw [grow_list xs i x (Value.string ByteArray.empty) G hlt hGge] at hA3
          exact hA3
        have HF : Hid _ := hfin
        have HRZ : Hid _ := hrz
        have HC1 : Hid _ := hcp1
        have HC2 : Hid _ := hcp2
        have hz2' : ¬ ((i : Int) = (xs.length : Int)) := by omega
        have hb1 : (0 : Int) ≤ (i : Int) + 1 := by omega
        have hw1 : IntKind.i64.wrap ((i : Int) + 1) = (i : Int) + 1 := by rw [IntKind.wrap_i64]; omega
        have htn : ((i : Int) + 1).toNat = i + 1 := by omega
        have hb2 : ¬ (G = i + 1) := by omega
        have hb4 : ¬ (G = i) := by omega
        have hb5 : ¬ (xs.length = i) := by omega
        have hb3 : (i : Int) + 1 ≤ (xs.length : Int) + 1 := by omega
        clear hfin hrz hcp1 hcp2 hA1 hA2 hG1 hG2 hV1 hK1 hK2 hL1 hL2 hdl hW1 hW2 hat hvb hcs hnews h1 hx1 hxc hend hne hG hroom
        obtain ⟨B, hB⟩ : ∃ B, B = w.heap.size := ⟨_, rfl⟩
        rw [← hB] at HF HRZ HC1 HC2
        clear hB hgs hvs hgl hvl
        generalize hxd : xs.drop i = xd at *
        generalize xs.length = n at *
        go_enter Try.func37, Try.ntmps37
        have hc1 := HC1.out
        go_wp2_with (at_builtin; refine Lib.wpList_append_run _ rfl (.tmp 34) (.tmp 39) _ _ rfl _ _ rfl rfl _ _ HRZ.out ?_)
        clear hc1
        go_region_law (refine step_copy_run rfl (.tmp 50) (.tmp 53) 22 22 rfl (.slice (some ⟨B, i + 1, none⟩) (n - i) (G - (i + 1))) (.slice (some ⟨g, i, none⟩) (n - i) (n - i)) (by simp [Act.eval, Act.put]) (by simp [Act.eval, Act.put]) (HC2.out _ _) ?_)
        go_wp2_with fail
        go_ret
        exact HF.out
set_option maxHeartbeats 4000000 in
set_option maxRecDepth 100000 in
theorem insert38 (v : Value) (xs : List Value) (i : Nat) (x : Value) (vb : Nat) (w : World) (hi : i ≤ xs.length) (hown : OwnS w 25 v xs) (hvb : At w vb 25 [x]) (hne : v.ownBlock ≠ some vb) (hn : xs.length ≤ 1000)
    (h1 : ∀ u ∈ xs, u.oneCell' = true) (hx1 : x.oneCell' = true) :
    Calls Try.prog 38 #[v, .int .i64 i, .slice (some ⟨vb, 0, none⟩) 1 1] w (InsPost w 25 v (xs.take i ++ x :: xs.drop i)) := by
  obtain ⟨i0, hi0, hz0, hz1, hz2⟩ := info_parts Try.info25
  have hxc := hvb.cell (j := 0) rfl
  have hnews : ∀ (j : Nat) (u : Value), [x][j]? = some u → w.cell? ((⟨vb, 0, none⟩ : Addr).add j) = some u := fun j u hu => by
    match j, hu with
    | 0, hu => simp at hu; subst hu; rw [Addr.add_lit]; exact hxc
  obtain ⟨v', w', hr, ho', hk', hs', hb'⟩ := run_append_S (P := Try.prog) w 56 56 25 i0 (Value.pointer none) 8 Try.underlying56 hi0 hz0 hz1 hz2 rfl v xs hown ⟨vb, 0, none⟩ 1 1 [x] rfl hnews (by simpa using hx1) (by omega) (by omega) (by omega)
  by_cases hend : i = xs.length
  · subst hend
    have HP : Hid (InsPost w 25 v (xs.take xs.length ++ x :: xs.drop xs.length) (.returned v') w') := ⟨v', rfl, by simpa using ho', hk', hs', hb'⟩
    have HR : Hid _ := hr
    rcases hown with ⟨rfl, rfl⟩ | ⟨g, c, rest, rfl, hat, hlen, hcp⟩
    · clear ho' hk' hs' hb' hr hnews hvb h1 hx1 hne
      simp only [List.length_nil] at *
      go_enter Try.func38, Try.ntmps38
      go_wp2_with (at_builtin; refine Lib.wpList_append_run _ rfl _ _ _ _ rfl _ _ rfl rfl _ _ HR.out ?_)
      go_ret
      exact HP.out
    · clear ho' hk' hs' hb' hr hnews hvb h1 hx1 hne hat
      generalize xs.length = n at *
      go_enter Try.func38, Try.ntmps38
      go_wp2_with (at_builtin; refine Lib.wpList_append_run _ rfl _ _ _ _ rfl _ _ rfl rfl _ _ HR.out ?_)
      all_goals
        go_ret
        exact HP.out
  · clear ho' hk' hs' hb' hr
    rcases hown with ⟨rfl, rfl⟩ | ⟨g, c, rest, rfl, hat, hlen, hcp⟩
    · simp at hi hend; omega
    · have hlt : i < xs.length := by omega
      have hgv : g ≠ vb := fun e => hne (by rw [e]; rfl)
      have hsz : (Try.prog.info? 25).map (·.size) = some 1 := by rw [hi0]; simp [hz1]
      have hcs : ∀ (j : Nat) (u : Value), xs[j]? = some u → w.cell? ⟨g, j, none⟩ = some u := fun j u hu => hat.cell (by rw [List.getElem?_append_left (List.getElem?_eq_some_iff.1 hu).1]; exact hu)
      by_cases hroom : xs.length + 1 ≤ c
      · have hov : ∀ lb cb, (callFunc 46 #[.slice (some ⟨vb, 0, none⟩) 1 1, .slice (some ⟨g, i + 1, none⟩) lb cb]).run Try.prog w = .ok (.value (.bool false)) w := fun lb cb => by
          rw [run_callFunc_extern Try.func46 (by kernel_rfl) (by kernel_rfl) (by kernel_rfl) (e := Extern.SlicesOverlaps.overlaps #[56, 56] #[4]) (by kernel_rfl),
            Lib.run_overlaps_apart w 56 4 25 Try.underlying56 1 (fun w => by simp [Go.sizeOf, typeInfo, hi0, hz1]) ⟨vb, 0, none⟩ ⟨g, i + 1, none⟩ 1 1 lb cb (fun e => hgv e.symm) 25 25 1 (xs ++ rest).length (hvb.shape) (hat.shape) (by rw [List.length_append]; omega) (hvb.frozen 0) (hvb.frozen 1)]
          rfl
        have hsp : ∀ k, k < c → (w.cell? ⟨g, k, none⟩).isSome = true := fun k hk => by
          rw [hat.cell (j := k) (v := (xs ++ rest)[k]'(by simp; omega)) (by simp)]; rfl
        have hdl : (xs.drop i).length = xs.length - i := by simp
        have hcp1 : ∀ dc sc, (Builtin.copy_ #[56, 56] 3 #[.slice (some ⟨g, i + 1, none⟩) (xs.length - i) dc, .slice (some ⟨g, i, none⟩) (xs.length + 1 - i) sc]).run Try.prog w.drew = .ok (goInt (xs.drop i).length) (w.drew.setCells g (i + 1) (xs.drop i)) := fun dc sc =>
          run_copy_cells w.drew _ _ 3 25 g (i + 1) (xs.length - i) dc ⟨g, i, none⟩ (xs.length + 1 - i) sc (xs.drop i) Try.underlying56 hsz (by rw [hdl]; simp only [Nat.min_def]; split <;> omega)
            (fun j u hj => by rw [Addr.add_lit]; exact hcs (i + j) u (by rwa [List.getElem?_drop] at hj))
            (fun j hj => hsp _ (by omega)) (fun j hj => hat.frozen _) (fun u hu => h1 u (List.mem_of_mem_drop hu))
        obtain ⟨W1, hW1⟩ : ∃ W1, W1 = w.drew.setCells g (i + 1) (xs.drop i) := ⟨_, rfl⟩
        have hA1 : At W1 g 25 ((xs ++ rest).take (i + 1) ++ xs.drop i ++ (xs ++ rest).drop (i + 1 + (xs.drop i).length)) := by
          rw [hW1]; exact At.setCells _ _ _ _ hat.drew (by simp; omega)
        have hV1 : At W1 vb 25 [x] := by rw [hW1]; exact At.setCellsOther (fun e => hgv e.symm) _ _ _ hvb.drew
        have hK1 : Keeps (OnlyB (.slice (some ⟨g, 0, none⟩) xs.length c)) w W1 := by rw [hW1]; exact Keeps.setCells (fun _ => onlyB_self g _ _) _ _ _ (Keeps.refl _ w).drew
        have hL1 : ((xs ++ rest).take (i + 1) ++ xs.drop i ++ (xs ++ rest).drop (i + 1 + (xs.drop i).length)).length = c := by simp; omega
        have hcp2 : ∀ dc, (Builtin.copy_ #[56, 56] 3 #[.slice (some ⟨g, i, none⟩) (xs.length + 1 - i) dc, .slice (some ⟨vb, 0, none⟩) 1 1]).run Try.prog W1 = .ok (goInt [x].length) (W1.setCells g i [x]) := fun dc =>
          run_copy_cells W1 _ _ 3 25 g i (xs.length + 1 - i) dc ⟨vb, 0, none⟩ 1 1 [x] Try.underlying56 hsz (by simp only [Nat.min_def, List.length_singleton]; split <;> omega)
            (fun j u hj => by
              match j, hj with
              | 0, hj => simp at hj; subst hj; rw [Addr.add_lit]; exact hV1.cell (j := 0) rfl)
            (fun j hj => by rw [hA1.cell (j := i + j) (v := ((xs ++ rest).take (i + 1) ++ xs.drop i ++ (xs ++ rest).drop (i + 1 + (xs.drop i).length))[i + j]'(by rw [hL1]; simp at hj; omega)) (by simp)]; rfl)
            (fun j hj => hA1.frozen _) (by simpa using hx1)
        have hfin : InsPost w 25 (.slice (some ⟨g, 0, none⟩) xs.length c) (xs.take i ++ x :: xs.drop i) (.returned (.slice (some ⟨g, 0, none⟩) (xs.length + 1) c)) (W1.setCells g i [x]) := by
          refine ⟨_, rfl, .inr ⟨g, c, rest.drop 1, ?_, ?_, ?_, hcp⟩, Keeps.setCells (fun _ => onlyB_self g _ _) _ _ _ hK1, .inl rfl, by simp [Value.ownBlock]⟩
          · simp; omega
          · have := At.setCells [x] i _ _ hA1 (by rw [hL1]; simp; omega)
            have e := ins_list xs rest i x hlt
            rw [e] at this
            exact this
          · simp; omega
        have HF : Hid _ := hfin
        have HC1 : Hid _ := hcp1
        have HC2 : Hid _ := hcp2
        rw [← hW1] at HC1
        have hz2' : ¬ ((i : Int) = (xs.length : Int)) := by omega
        have hw1 : IntKind.i64.wrap ((i : Int) + 1) = (i : Int) + 1 := by rw [IntKind.wrap_i64]; omega
        have htn : ((i : Int) + 1).toNat = i + 1 := by omega
        have hb1 : (0 : Int) ≤ (i : Int) + 1 := by omega
        have hb2 : ¬ (c = i + 1) := by omega
        have hb4 : ¬ (c = i) := by omega
        have hb3 : (i : Int) ≤ (xs.length : Int) + 1 := by omega
        clear hcp1 hcp2 hW1 hA1 hV1 hK1 hL1 hfin hsp hat hvb hcs hnews h1 hx1 hxc hdl hend hne
        generalize hxd : xs.drop i = xd at *
        generalize xs.length = n at *
        go_enter Try.func38, Try.ntmps38
        go_wp2_with (simp only [hov])
        go_region_law (refine step_copy_run rfl (.tmp 73) (.tmp 76) 56 56 rfl (.slice (some ⟨g, i + 1, none⟩) (n - i) (c - (i + 1))) (.slice (some ⟨g, i, none⟩) (n + 1 - i) (c - i)) (by simp [Act.eval, Act.put]) (by simp [Act.eval, Act.put]) (HC1.out _ _) ?_)
        have hc2 := HC2.out
        go_wp2_with fail
        go_ret
        exact HF.out
      · have hcn : c = xs.length := by omega
        subst hcn
        have hrest : rest = [] := List.eq_nil_of_length_eq_zero (by omega)
        subst hrest
        rw [List.append_nil] at hat
        have hgl := hat.lt
        have hvl := hvb.lt
        obtain ⟨G, hG⟩ : ∃ G, G = grownCap w (xs.length + 1) xs.length 25 := ⟨_, rfl⟩
        have hGge : xs.length + 1 ≤ G := by rw [hG]; exact grownCap_ge w _ _ _
        have hGle : G ≤ 9223372036854775807 := by rw [hG]; have := grownCap_le_maxLen w (xs.length + 1) xs.length 25 (by unfold maxLen; omega); unfold maxLen at this; omega
        have hrz : (Builtin.append_ #[56, 3] 56 #[.slice (some ⟨g, 0, none⟩) i xs.length, .int .i64 ((xs.length : Int) + 1 - (i : Int))]).run Try.prog w =
            .ok (.slice (some ⟨w.heap.size, 0, none⟩) (xs.length + 1) G) (w.drew.alloc (.cells ((xs.take i).toArray ++ Builtin.zeroCells (Value.pointer none).cells (xs.length + 1 - i) ++ Builtin.zeroCells (Value.pointer none).cells (G - (xs.length + 1))) 25)) := by
          have hold : (Builtin.firstCells i0.size i (.slice (some ⟨g, 0, none⟩) i xs.length)).run Try.prog w.drew = .ok (xs.take i).toArray w.drew := by
            rw [hz1]
            exact run_firstCells_some w.drew 1 i ⟨g, 0, none⟩ i xs.length (xs.take i) (by simp; omega) (fun j u hj => by
              rw [Addr.add_lit, Nat.zero_add]
              rw [List.getElem?_take] at hj
              split at hj
              · exact hcs j u hj
              · cases hj)
          have hik : i + (xs.length + 1 - i) = xs.length + 1 := by omega
          have h := Lib.run_append_grow_zeros (P := Try.prog) w 56 3 56 25 i0 (Value.pointer none) .i64 .i64 Try.underlying56 Try.underlying3 hi0 hz0 (some ⟨g, 0, none⟩) i xs.length (xs.take i) hold (xs.length + 1 - i) (by omega) (by omega) (by omega) (by omega) (by rw [hz2]; omega)
            (by rw [hz2, hik]; exact growslice_fits (by omega) (by omega))
          rw [hik, ← hG] at h
          rw [show ((xs.length : Int) + 1 - (i : Int)) = ((xs.length + 1 - i : Nat) : Int) by omega]
          exact h
        obtain ⟨W1, hW1⟩ : ∃ W1, W1 = w.drew.alloc (.cells ((xs.take i).toArray ++ Builtin.zeroCells (Value.pointer none).cells (xs.length + 1 - i) ++ Builtin.zeroCells (Value.pointer none).cells (G - (xs.length + 1))) 25) := ⟨_, rfl⟩
        rw [← hW1] at hrz
        have hA1 : At W1 w.heap.size 25 (xs.take i ++ List.replicate (xs.length + 1 - i) (Value.pointer none) ++ List.replicate (G - (xs.length + 1)) (Value.pointer none)) := by
          rw [hW1]
          have := At.new w.drew 25 ((xs.take i).toArray ++ Builtin.zeroCells #[(Value.pointer none)] (xs.length + 1 - i) ++ Builtin.zeroCells #[(Value.pointer none)] (G - (xs.length + 1)))
          simp only [Array.toList_append, zeroCells_one] at this
          exact this
        have hG1 : At W1 g 25 xs := by rw [hW1]; exact (hat.drew).alloc _
        have hV1 : At W1 vb 25 [x] := by rw [hW1]; exact (hvb.drew).alloc _
        have hK1 : Keeps (OnlyB (.slice (some ⟨g, 0, none⟩) xs.length xs.length)) w W1 := by rw [hW1]; exact (Keeps.refl _ w).drew.alloc _
        have hL1 : (xs.take i ++ List.replicate (xs.length + 1 - i) (Value.pointer none) ++ List.replicate (G - (xs.length + 1)) (Value.pointer none)).length = G := by simp; omega
        have hgs : g ≠ w.heap.size := by omega
        have hvs : vb ≠ w.heap.size := by omega
        have hcp1 : ∀ dc, (Builtin.copy_ #[56, 56] 3 #[.slice (some ⟨w.heap.size, i, none⟩) (xs.length + 1 - i) dc, .slice (some ⟨vb, 0, none⟩) 1 1]).run Try.prog W1 = .ok (goInt [x].length) (W1.setCells w.heap.size i [x]) := fun dc =>
          run_copy_cells W1 _ _ 3 25 w.heap.size i (xs.length + 1 - i) dc ⟨vb, 0, none⟩ 1 1 [x] Try.underlying56 hsz (by simp only [Nat.min_def, List.length_singleton]; split <;> omega)
            (fun j u hj => by
              match j, hj with
              | 0, hj => simp at hj; subst hj; rw [Addr.add_lit]; exact hV1.cell (j := 0) rfl)
            (fun j hj => by rw [hA1.cell (j := i + j) (v := (xs.take i ++ List.replicate (xs.length + 1 - i) (Value.pointer none) ++ List.replicate (G - (xs.length + 1)) (Value.pointer none))[i + j]'(by rw [hL1]; simp at hj; omega)) (by simp)]; rfl)
            (fun j hj => hA1.frozen _) (by simpa using hx1)
        obtain ⟨W2, hW2⟩ : ∃ W2, W2 = W1.setCells w.heap.size i [x] := ⟨_, rfl⟩
        rw [← hW2] at hcp1
        have hA2 := At.setCells [x] i _ _ hA1 (by rw [hL1]; simp; omega)
        have hG2 : At W2 g 25 xs := by rw [hW2]; exact At.setCellsOther hgs _ _ _ hG1
        have hK2 : Keeps (OnlyB (.slice (some ⟨g, 0, none⟩) xs.length xs.length)) w W2 := by rw [hW2]; exact Keeps.setCells (fun h => absurd h (Nat.lt_irrefl _)) _ _ _ hK1
        rw [← hW2] at hA2
        have hL2 : (List.take i (xs.take i ++ List.replicate (xs.length + 1 - i) (Value.pointer none) ++ List.replicate (G - (xs.length + 1)) (Value.pointer none)) ++ [x] ++ List.drop (i + [x].length) (xs.take i ++ List.replicate (xs.length + 1 - i) (Value.pointer none) ++ List.replicate (G - (xs.length + 1)) (Value.pointer none))).length = G := by simp; omega
        have hdl : (xs.drop i).length = xs.length - i := by simp
        have hcp2 : ∀ dc sc, (Builtin.copy_ #[56, 56] 3 #[.slice (some ⟨w.heap.size, i + 1, none⟩) (xs.length - i) dc, .slice (some ⟨g, i, none⟩) (xs.length - i) sc]).run Try.prog W2.drew = .ok (goInt (xs.drop i).length) (W2.drew.setCells w.heap.size (i + 1) (xs.drop i)) := fun dc sc =>
          run_copy_cells W2.drew _ _ 3 25 w.heap.size (i + 1) (xs.length - i) dc ⟨g, i, none⟩ (xs.length - i) sc (xs.drop i) Try.underlying56 hsz (by rw [hdl]; simp only [Nat.min_def]; split <;> omega)
            (fun j u hj => by rw [Addr.add_lit]; exact hG2.drew.cell (by rwa [List.getElem?_drop] at hj))
            (fun j hj => by rw [hA2.drew.cell (j := i + 1 + j) (v := (List.take i (xs.take i ++ List.replicate (xs.length + 1 - i) (Value.pointer none) ++ List.replicate (G - (xs.length + 1)) (Value.pointer none)) ++ [x] ++ List.drop (i + [x].length) (xs.take i ++ List.replicate (xs.length + 1 - i) (Value.pointer none) ++ List.replicate (G - (xs.length + 1)) (Value.pointer none)))[i + 1 + j]'(by rw [hL2]; omega)) (by simp)]; rfl)
            (fun j hj => hA2.drew.frozen _) (fun u hu => h1 u (List.mem_of_mem_drop hu))
        have hfin : InsPost w 25 (.slice (some ⟨g, 0, none⟩) xs.length xs.length) (xs.take i ++ x :: xs.drop i) (.returned (.slice (some ⟨w.heap.size, 0, none⟩) (xs.length + 1) G)) (W2.drew.setCells w.heap.size (i + 1) (xs.drop i)) := by
          have hA3 := At.setCells (xs.drop i) (i + 1) _ _ hA2.drew (by rw [hL2]; simp; omega)
          refine ⟨_, rfl, .inr ⟨w.heap.size, G, List.replicate (G - (xs.length + 1)) (Value.pointer none), by simp; omega, ?_, by simp; omega, hGle⟩, Keeps.setCells (fun h => absurd h (Nat.lt_irrefl _)) _ _ _ hK2.drew, .inr ⟨w.heap.size, rfl, Nat.le_refl _, hA3.lt⟩, by simp [Value.ownBlock]⟩
          rw [grow_list xs i x (Value.pointer none) G hlt hGge] at hA3
          exact hA3
        have HF : Hid _ := hfin
        have HRZ : Hid _ := hrz
        have HC1 : Hid _ := hcp1
        have HC2 : Hid _ := hcp2
        have hz2' : ¬ ((i : Int) = (xs.length : Int)) := by omega
        have hb1 : (0 : Int) ≤ (i : Int) + 1 := by omega
        have hw1 : IntKind.i64.wrap ((i : Int) + 1) = (i : Int) + 1 := by rw [IntKind.wrap_i64]; omega
        have htn : ((i : Int) + 1).toNat = i + 1 := by omega
        have hb2 : ¬ (G = i + 1) := by omega
        have hb4 : ¬ (G = i) := by omega
        have hb5 : ¬ (xs.length = i) := by omega
        have hb3 : (i : Int) + 1 ≤ (xs.length : Int) + 1 := by omega
        clear hfin hrz hcp1 hcp2 hA1 hA2 hG1 hG2 hV1 hK1 hK2 hL1 hL2 hdl hW1 hW2 hat hvb hcs hnews h1 hx1 hxc hend hne hG hroom
        obtain ⟨B, hB⟩ : ∃ B, B = w.heap.size := ⟨_, rfl⟩
        rw [← hB] at HF HRZ HC1 HC2
        clear hB hgs hvs hgl hvl
        generalize hxd : xs.drop i = xd at *
        generalize xs.length = n at *
        go_enter Try.func38, Try.ntmps38
        have hc1 := HC1.out
        go_wp2_with (at_builtin; refine Lib.wpList_append_run _ rfl (.tmp 34) (.tmp 39) _ _ rfl _ _ rfl rfl _ _ HRZ.out ?_)
        clear hc1
        go_region_law (refine step_copy_run rfl (.tmp 50) (.tmp 53) 56 56 rfl (.slice (some ⟨B, i + 1, none⟩) (n - i) (G - (i + 1))) (.slice (some ⟨g, i, none⟩) (n - i) (n - i)) (by simp [Act.eval, Act.put]) (by simp [Act.eval, Act.put]) (HC2.out _ _) ?_)
        go_wp2_with fail
        go_ret
        exact HF.out
end Go.Proofs.Qxb6603837a
