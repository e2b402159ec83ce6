/- The plain part of finish: no Go in sight. -/
namespace Go.Proofs.Qxb6603867a.Plf
/-- the number at place i -/
def at' (ps : List Int) (i : Nat) : Int := ps.getD i 0
def seenB (ps : List Int) (k : Nat) (q : Nat) : Bool := (List.range k).any fun j => decide (at' ps j = (q : Int))
/-- how many of the first k are processes -/
def cnt (ps : List Int) : Nat → Nat
  | 0 => 0
  | k + 1 => if 0 ≤ at' ps k then cnt ps k + 1 else cnt ps k
theorem cnt_le (ps : List Int) : ∀ k, cnt ps k ≤ k
  | 0 => Nat.le_refl _
  | k + 1 => by have := cnt_le ps k; rw [cnt]; split <;> omega
theorem cnt_mono (ps : List Int) (k : Nat) : ∀ m, cnt ps k ≤ cnt ps (k + m) ∧ cnt ps (k + m) ≤ cnt ps k + m
  | 0 => ⟨Nat.le_refl _, Nat.le_refl _⟩
  | m + 1 => by have := cnt_mono ps k m; rw [← Nat.add_assoc, cnt]; split <;> omega
theorem seen_zero (ps : List Int) (q : Nat) : seenB ps 0 q = false := by simp [seenB]
theorem seen_succ (ps : List Int) (k q : Nat) : seenB ps (k + 1) q = (seenB ps k q || decide (at' ps k = (q : Int))) := by simp [seenB, List.range_succ]
theorem seen_iff (ps : List Int) (k q : Nat) : seenB ps k q = true ↔ ∃ j, j < k ∧ at' ps j = (q : Int) := by simp [seenB]
/-- of the first k: the processes lie under nL, no two alike -/
def OkTo (nL : Nat) (ps : List Int) (k : Nat) : Prop :=
  (∀ i, i < k → 0 ≤ at' ps i → at' ps i < nL) ∧ ∀ i j, i < j → j < k → 0 ≤ at' ps i → at' ps i ≠ at' ps j
theorem ok_zero (nL : Nat) (ps : List Int) : OkTo nL ps 0 := ⟨fun i h => absurd h (by omega), fun i j _ h => absurd h (by omega)⟩
theorem ok_neg {nL : Nat} {ps : List Int} {k : Nat} (h : OkTo nL ps k) (hn : at' ps k < 0) : OkTo nL ps (k + 1) := by
  refine ⟨fun i hi h0 => ?_, fun i j hij hj h0 => ?_⟩
  · by_cases e : i = k
    · subst e; omega
    · exact h.1 i (by omega) h0
  · by_cases e : j = k
    · subst e; omega
    · exact h.2 i j hij (by omega) h0
theorem ok_pos {nL : Nat} {ps : List Int} {k q : Nat} (h : OkTo nL ps k) (hq : at' ps k = (q : Int)) (hl : q < nL) (hs : seenB ps k q = false) : OkTo nL ps (k + 1) := by
  refine ⟨fun i hi h0 => ?_, fun i j hij hj h0 => ?_⟩
  · by_cases e : i = k
    · subst e; omega
    · exact h.1 i (by omega) h0
  · by_cases e : j = k
    · subst e
      intro he
      have : seenB ps j q = true := (seen_iff ps j q).2 ⟨i, hij, by omega⟩
      simp [hs] at this
    · exact h.2 i j hij (by omega) h0
structure FDom (nN nL : Nat) (vs us ps : List Int) : Prop where
  ul : us.length = vs.length
  pl : ps.length = nN
  ok : OkTo nL ps nN
  ct : cnt ps nN = nL
  vb : ∀ x, x < vs.length → 0 ≤ at' vs x → at' vs x < nN
/-- the next free number, and the new number of the name k -/
def nx (nL : Nat) (ps : List Int) (k : Nat) : Nat := nL + (k - cnt ps k)
def ren (nL : Nat) (ps : List Int) (k : Nat) : Nat := if at' ps k < 0 then nx nL ps k else (at' ps k).toNat
theorem nx_succ_neg {nL : Nat} {ps : List Int} {k : Nat} (h : at' ps k < 0) : nx nL ps (k + 1) = nx nL ps k + 1 := by
  have := cnt_le ps k
  unfold nx
  rw [cnt, if_neg (by omega)]
  omega
theorem nx_succ_pos {nL : Nat} {ps : List Int} {k : Nat} (h : 0 ≤ at' ps k) : nx nL ps (k + 1) = nx nL ps k := by
  unfold nx
  rw [cnt, if_pos h]
  omega
theorem nx_mono (nL : Nat) (ps : List Int) (k m : Nat) : nx nL ps k ≤ nx nL ps (k + m) := by
  have := cnt_mono ps k m
  have := cnt_le ps k
  unfold nx
  omega
theorem nx_le {nN nL : Nat} {vs us ps : List Int} (D : FDom nN nL vs us ps) {k : Nat} (hk : k ≤ nN) : nL ≤ nx nL ps k ∧ nx nL ps k ≤ nN := by
  have h1 := cnt_mono ps k (nN - k)
  rw [show k + (nN - k) = nN from by omega, D.ct] at h1
  have := cnt_le ps k
  unfold nx
  omega
theorem ren_lt {nN nL : Nat} {vs us ps : List Int} (D : FDom nN nL vs us ps) {k : Nat} (hk : k < nN) : ren nL ps k < nN := by
  unfold ren
  split
  · rename_i h
    have := nx_succ_neg (nL := nL) h
    have := (nx_le D (k := k + 1) (by omega)).2
    omega
  · rename_i h
    have := D.ok.1 k hk (by omega)
    have := (nx_le D (k := 0) (by omega)).2
    unfold nx at this
    omega
theorem ren_inj {nN nL : Nat} {vs us ps : List Int} (D : FDom nN nL vs us ps) {i j : Nat} (hij : i < j) (hj : j < nN) : ren nL ps i ≠ ren nL ps j := by
  unfold ren
  by_cases hi0 : at' ps i < 0
  · rw [if_pos hi0]
    by_cases hj0 : at' ps j < 0
    · rw [if_pos hj0]
      have h1 := nx_succ_neg (nL := nL) hi0
      have h2 := nx_mono nL ps (i + 1) (j - (i + 1))
      rw [show i + 1 + (j - (i + 1)) = j from by omega] at h2
      omega
    · rw [if_neg hj0]
      have h1 := D.ok.1 j hj (by omega)
      have h2 := (nx_le D (k := i) (by omega)).1
      omega
  · rw [if_neg hi0]
    by_cases hj0 : at' ps j < 0
    · rw [if_pos hj0]
      have h1 := D.ok.1 i (by omega) (by omega)
      have h2 := (nx_le D (k := j) (by omega)).1
      omega
    · rw [if_neg hj0]
      have := D.ok.2 i j hij hj (by omega)
      omega
/-- numbers under n, no two alike: at most n -/
theorem few : ∀ (n : Nat) (l : List Nat), l.Nodup → (∀ x ∈ l, x < n) → l.length ≤ n
  | 0, l, _, h => by
    cases l with
    | nil => simp
    | cons x t => exact absurd (h x (by simp)) (by omega)
  | n + 1, l, hd, h => by
    have h1 := few n (l.erase n) (hd.erase n) (fun x hx => by
      have h2 := h x (List.mem_of_mem_erase hx)
      have h3 : x ≠ n := fun e => by subst e; exact (List.Nodup.not_mem_erase hd) hx
      omega)
    have h2 : l.length ≤ (l.erase n).length + 1 := by
      by_cases hm : n ∈ l
      · rw [List.length_erase_of_mem hm]; omega
      · rw [List.erase_of_not_mem hm]; omega
    omega
/-- every place is the new number of some name -/
theorem ren_onto {nN nL : Nat} {vs us ps : List Int} (D : FDom nN nL vs us ps) {q : Nat} (hq : q < nN) : ∃ k, k < nN ∧ ren nL ps k = q := by
  refine Classical.byContradiction fun hne => ?_
  have hnd : ((List.range nN).map (ren nL ps)).Nodup := by
    rw [List.nodup_iff_pairwise_ne, List.pairwise_map]
    refine List.Pairwise.imp_of_mem ?_ (List.pairwise_lt_range (n := nN))
    intro a b _ hb hab
    exact ren_inj D hab (by simpa using hb)
  have hnot : q ∉ (List.range nN).map (ren nL ps) := by
    intro hm
    obtain ⟨k, hk, he⟩ := List.mem_map.1 hm
    exact hne ⟨k, by simpa using hk, he⟩
  have := few nN (q :: (List.range nN).map (ren nL ps)) (List.nodup_cons.2 ⟨hnot, hnd⟩) (by
    intro x hx
    rcases List.mem_cons.1 hx with rfl | hx
    · exact hq
    · obtain ⟨k, hk, rfl⟩ := List.mem_map.1 hx
      exact ren_lt D (by simpa using hk))
  simp at this
  omega
/-- a leaf's new number -/
def newVal (nL : Nat) (ps : List Int) (v : Int) : Int := if v < 0 then v else (ren nL ps v.toNat : Nat)
end Go.Proofs.Qxb6603867a.Plf
