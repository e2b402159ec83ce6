/- The plain law: no Go in sight. -/
namespace Go.Proofs.Qxb6603939a.Plain
def digB (c : Int) : Bool := decide (48 ≤ c) && decide (c ≤ 57)
def punB (c : Int) : Bool := (decide (33 ≤ c) && decide (c ≤ 47)) || (decide (58 ≤ c) && decide (c ≤ 64)) || (decide (91 ≤ c) && decide (c ≤ 96)) || (decide (123 ≤ c) && decide (c ≤ 126))
theorem dig_not_pun {c : Int} (h : digB c = true) : punB c = false := by
  simp [digB] at h
  simp [punB]
  omega
def byteAt (s : ByteArray) (k : Nat) : Int := if h : k < s.size then ((s[k]'h).toNat : Int) else 0
theorem byteAt_lt {s : ByteArray} {k : Nat} (h : k < s.size) : byteAt s k = ((s[k]'h).toNat : Int) := by simp [byteAt, h]
/-- is there a cut at k: the end, or a punctuation byte -/
def cutB (s : ByteArray) (k : Nat) : Bool := decide (k = s.size) || punB (byteAt s k)
def okB (s : ByteArray) (k : Nat) : Bool := digB (byteAt s k) || punB (byteAt s k)
def done (s : ByteArray) : Nat → List ByteArray × Nat
  | 0 => ([], 0)
  | k + 1 => if cutB s k = true then ((done s k).1 ++ [s.extract (done s k).2 k], k + 1) else done s k
def pieces (s : ByteArray) : List ByteArray := (done s (s.size + 1)).1
def lenB (p : ByteArray) : Bool := decide (1 ≤ p.size) && decide (p.size ≤ 4)
def goodB (s : ByteArray) : Bool := (List.range s.size).all (okB s)
def okM (s : ByteArray) : Bool := goodB s && (pieces s).all lenB
theorem done_cut {s : ByteArray} {k : Nat} (h : cutB s k = true) : done s (k + 1) = ((done s k).1 ++ [s.extract (done s k).2 k], k + 1) := by
  rw [done, if_pos h]
theorem done_no {s : ByteArray} {k : Nat} (h : cutB s k = false) : done s (k + 1) = done s k := by
  rw [done, if_neg (by simp [h])]
theorem start_le (s : ByteArray) : ∀ k, (done s k).2 ≤ k
  | 0 => Nat.le_refl _
  | k + 1 => by
    have := start_le s k
    cases h : cutB s k
    · rw [done_no h]; omega
    · rw [done_cut h]; exact Nat.le_refl _
theorem len_le (s : ByteArray) : ∀ k, (done s k).1.length ≤ k
  | 0 => Nat.le_refl _
  | k + 1 => by
    have := len_le s k
    cases h : cutB s k
    · rw [done_no h]; omega
    · rw [done_cut h]; simp; omega
theorem done_mono (s : ByteArray) (k : Nat) : ∀ m, ∃ t, (done s (k + m)).1 = (done s k).1 ++ t
  | 0 => ⟨[], by simp⟩
  | m + 1 => by
    obtain ⟨t, ht⟩ := done_mono s k m
    cases h : cutB s (k + m)
    · exact ⟨t, by rw [← Nat.add_assoc, done_no h, ht]⟩
    · exact ⟨t ++ [s.extract (done s (k + m)).2 (k + m)], by rw [← Nat.add_assoc, done_cut h, ht]; simp⟩
theorem mem_pieces {s : ByteArray} {k : Nat} (hk : k ≤ s.size + 1) {p : ByteArray} (h : p ∈ (done s k).1) : p ∈ pieces s := by
  obtain ⟨t, ht⟩ := done_mono s k (s.size + 1 - k)
  rw [show k + (s.size + 1 - k) = s.size + 1 from by omega] at ht
  unfold pieces
  rw [ht]
  exact List.mem_append_left _ h
theorem good_iff (s : ByteArray) : goodB s = true ↔ ∀ j, j < s.size → okB s j = true := by simp [goodB]
theorem okM_iff (s : ByteArray) : okM s = true ↔ (∀ j, j < s.size → okB s j = true) ∧ ∀ p ∈ pieces s, lenB p = true := by
  simp only [okM, Bool.and_eq_true, good_iff, List.all_eq_true]
/-- a bad byte -/
theorem okM_bad {s : ByteArray} {k : Nat} (hk : k < s.size) (h : okB s k = false) : okM s = false := by
  cases e : okM s
  · rfl
  · have := ((okM_iff s).1 e).1 k hk
    simp [h] at this
theorem okM_piece {s : ByteArray} {p : ByteArray} (hp : p ∈ pieces s) (h : lenB p = false) : okM s = false := by
  cases e : okM s
  · rfl
  · have := ((okM_iff s).1 e).2 p hp
    simp [h] at this
theorem size_ext (s : ByteArray) (a b : Nat) (hb : b ≤ s.size) : (s.extract a b).size = b - a := by
  rw [ByteArray.size_extract]; omega
/-- at a place that is no digit the run is empty or too long: the text is refused -/
theorem okM_run {s : ByteArray} {k : Nat} (hk : k ≤ s.size) (hnd : k = s.size ∨ digB (byteAt s k) = false) (hlen : k = (done s k).2 ∨ 4 < k - (done s k).2) : okM s = false := by
  by_cases hc : cutB s k = true
  · have hm : s.extract (done s k).2 k ∈ (done s (k + 1)).1 := by rw [done_cut hc]; simp
    refine okM_piece (mem_pieces (by omega) hm) ?_
    have := size_ext s (done s k).2 k hk
    simp only [lenB, this, Bool.and_eq_false_imp, decide_eq_true_eq, decide_eq_false_iff_not]
    omega
  · have hc' : cutB s k = false := by simpa using hc
    simp [cutB] at hc'
    have hkn : k < s.size := by omega
    refine okM_bad hkn ?_
    have hd : digB (byteAt s k) = false := by rcases hnd with h | h; omega; exact h
    simp [okB, hd, hc'.2]
/-- what holds at the head of digitRuns' round k -/
def Inv (s : ByteArray) (k : Nat) : Prop := (∀ j, j < k → j < s.size → okB s j = true) ∧ ∀ p ∈ (done s k).1, lenB p = true
theorem inv_zero (s : ByteArray) : Inv s 0 := ⟨fun j h => absurd h (by omega), by simp [done]⟩
theorem inv_dig {s : ByteArray} {k : Nat} (h : Inv s k) (hk : k < s.size) (hd : digB (byteAt s k) = true) : Inv s (k + 1) ∧ done s (k + 1) = done s k := by
  have hp := dig_not_pun hd
  have hc : cutB s k = false := by simp [cutB, hp]; omega
  refine ⟨⟨fun j hj hjn => ?_, ?_⟩, done_no hc⟩
  · by_cases e : j = k
    · subst e; simp [okB, hd]
    · exact h.1 j (by omega) hjn
  · rw [done_no hc]; exact h.2
theorem inv_cut {s : ByteArray} {k : Nat} (h : Inv s k) (hk : k ≤ s.size) (hc : cutB s k = true) (h1 : k ≠ (done s k).2) (h2 : k - (done s k).2 ≤ 4) :
    Inv s (k + 1) := by
  have hs := start_le s k
  refine ⟨fun j hj hjn => ?_, ?_⟩
  · by_cases e : j = k
    · subst e
      have : ¬ j = s.size := by omega
      simp [cutB, this] at hc
      simp [okB, hc]
    · exact h.1 j (by omega) hjn
  · rw [done_cut hc]
    intro p hp
    rcases List.mem_append.1 hp with hp | hp
    · exact h.2 p hp
    · simp at hp
      subst hp
      have := size_ext s (done s k).2 k hk
      simp only [lenB, this, Bool.and_eq_true, decide_eq_true_eq]
      omega
theorem inv_end {s : ByteArray} (h : Inv s (s.size + 1)) : okM s = true := (okM_iff s).2 ⟨fun j hj => h.1 j (by omega) hj, h.2⟩
end Go.Proofs.Qxb6603939a.Plain
