import Derived.Test.Qxb6603939aRuns
import Derived.Deep.QuietTactic
import Derived.BigQuiet
namespace Go.Proofs.Qxb6603939a
open Go.RowKit Plain
/-- what a row of strings that is not empty looks like -/
theorem row_open {w : World} {base : Nat} {v : Value} {L : List ByteArray} (h : w.ownsRow base 9 1 v L.length (L.map Value.string)) (hne : 0 < L.length) :
    ∃ g cap, v = .slice (some ⟨g, 0, none⟩) L.length cap ∧ base ≤ g ∧ g < w.heap.size ∧ ∀ j, j < L.length → w.cell? ⟨g, j, none⟩ = some (.string (L.getD j ByteArray.empty)) := by
  rcases h.2 with ⟨_, h0⟩ | ⟨g, cap, cur, rfl, hb, hg, _⟩
  · omega
  · refine ⟨g, cap, rfl, hb, (Array.getElem?_eq_some_iff.1 hg).1, fun j hj => ?_⟩
    rw [h.cellAt j (by omega)]
    simp [List.getD, hj]
theorem pieces_pos (s : ByteArray) : 0 < (pieces s).length := by
  unfold pieces
  rw [done_cut (by simp [cutB])]
  simp
set_option maxHeartbeats 1000000 in
theorem same7 (L : List ByteArray) (g1 c1 g2 c2 : Nat) (w : World) (hL : L.length ≤ 2097152) (h1 : ∀ j, j < L.length → w.cell? ⟨g1, j, none⟩ = some (.string (L.getD j ByteArray.empty)))
    (h2 : ∀ j, j < L.length → w.cell? ⟨g2, j, none⟩ = some (.string (L.getD j ByteArray.empty))) :
    Calls Try.prog 7 #[.slice (some ⟨g1, 0, none⟩) L.length c1, .slice (some ⟨g2, 0, none⟩) L.length c2] w fun e w' => e = .returned (.bool true) ∧ Below w.heap.size w w' := by
  go_enter Try.func7, Try.ntmps7
  go_wp2
  go_loopw [5] (fun i wr => ∃ k : Nat, k ≤ L.length ∧ i = .int .i64 k ∧ ∃ n, wr = w.drewN n) (fun i _ => L.length - (intOf i).toNat)
  case atStart => exact ⟨0, Nat.zero_le _, rfl, 0, rfl⟩
  case round =>
    obtain ⟨k, hk, rfl, n, rfl⟩ := hrel
    by_cases hlt : k < L.length
    · have q1 := h1 k hlt
      have q2 := h2 k hlt
      clear h1 h2
      generalize L.getD k ByteArray.empty = x at *
      go_wp2
      go_quiet (fail)
      go_wp2
      go_roundw
      case rel => exact ⟨k + 1, by omega, by go_num, _, rfl⟩
      case measure => simp [intOf]; omega
    · go_wp2
      go_ret
      exact ⟨rfl, below_drewN (Below.refl _ _) _⟩
set_option maxHeartbeats 1000000 in
theorem model6 (s : ByteArray) (w : World) (hs : s.size ≤ 1048576) :
    Calls Try.prog 6 #[.string s] w fun e w' => ∃ v, e = .returned (.tuple #[v, .bool (okM s)]) ∧ Below w.heap.size w w' ∧
      (okM s = true → w'.ownsRow w.heap.size 9 1 v (pieces s).length ((pieces s).map Value.string)) ∧ (okM s = false → v = .slice none 0 0) := by
  obtain ⟨i0, hi, hz0, hz1, hz2⟩ := info_parts Try.info9
  go_enter Try.func6, Try.ntmps6
  go_wp2
  go_loop [4] (fun i => ∃ k : Nat, k ≤ s.size ∧ i = .int .i64 k ∧ ∀ j, j < k → okB s j = true) (fun i => s.size - (intOf i).toNat)
  case atStart => exact ⟨0, Nat.zero_le _, rfl, fun j h => absurd h (by omega)⟩
  case round =>
    obtain ⟨k, hk, rfl, hall⟩ := hrel
    have Hall : Hid (∀ j, j < k → okB s j = true) := hall
    clear hall
    by_cases hk1 : k < s.size
    · have hb := byteAt_lt hk1
      have Hok : Hid (okB s k = true → ∀ j, j < k + 1 → okB s j = true) := fun h j hj => by
        by_cases e : j = k
        · subst e; exact h
        · exact Hall.out j (by omega)
      have Hbad : Hid (okB s k = false → okM s = false) := okM_bad hk1
      have HO : Hid (okB s k = (digB (byteAt s k) || punB (byteAt s k))) := rfl
      rw [hb] at HO
      clear hb
      by_cases hd : digB (↑(s[k]'hk1).toNat) = true
      · have Hk : Hid (∀ j, j < k + 1 → okB s j = true) := Hok.out (by rw [HO.out, hd]; rfl)
        go_wp2_with (first
          | (go_at_call 9; refine (isDigit9 _ _).mono ?_; rintro e w' ⟨rfl, rfl⟩)
          | (go_at_call 10; refine (isPunct10 _ _).mono ?_; rintro e w' ⟨rfl, rfl⟩))
        go_round
        case rel => exact ⟨k + 1, by omega, by go_num, Hk.out⟩
        case measure => simp [intOf]; omega
      · have hd' : digB (↑(s[k]'hk1).toNat) = false := by simpa using hd
        clear hd
        by_cases hp : punB (↑(s[k]'hk1).toNat) = true
        · have Hk : Hid (∀ j, j < k + 1 → okB s j = true) := Hok.out (by rw [HO.out, hp, hd']; rfl)
          go_wp2_with (first
            | (go_at_call 9; refine (isDigit9 _ _).mono ?_; rintro e w' ⟨rfl, rfl⟩)
            | (go_at_call 10; refine (isPunct10 _ _).mono ?_; rintro e w' ⟨rfl, rfl⟩))
          go_round
          case rel => exact ⟨k + 1, by omega, by go_num, Hk.out⟩
          case measure => simp [intOf]; omega
        · have hp' : punB (↑(s[k]'hk1).toNat) = false := by simpa using hp
          clear hp
          have HF : Hid (okM s = false) := Hbad.out (by rw [HO.out, hd', hp']; rfl)
          go_wp2_with (first
            | (go_at_call 9; refine (isDigit9 _ _).mono ?_; rintro e w' ⟨rfl, rfl⟩)
            | (go_at_call 10; refine (isPunct10 _ _).mono ?_; rintro e w' ⟨rfl, rfl⟩))
          go_ret2
          exact ⟨.slice none 0 0, by rw [HF.out]; rfl, Below.refl _ _, fun h => absurd h (by simp [HF.out]), fun _ => rfl⟩
    · have Hgood : Hid (∀ j, j < s.size → okB s j = true) := fun j hj => Hall.out j (by omega)
      clear Hall
      go_wp2_with fail
      go_loopw [5, 6, 7] (fun v st i wr => ∃ k : Nat, k ≤ s.size ∧ i = .int .i64 k ∧ st = .int .i64 ((done s k).2 : Nat) ∧ wr.ownsRow w.heap.size 9 1 v (done s k).1.length ((done s k).1.map Value.string) ∧ Below w.heap.size w wr)
        (fun _ _ i _ => s.size - (intOf i).toNat)
      case atStart => exact ⟨0, Nat.zero_le _, rfl, rfl, World.ownsRow_nil _ _ _ _, Below.refl _ _⟩
      case round =>
        clear hk1 hk
        obtain ⟨k, hk, rfl, rfl, hown, hnx⟩ := hrel
        have hsl := start_le s k
        have hll := len_le s k
        by_cases hk1 : k < s.size
        · have hb := byteAt_lt hk1
          have Hcut : Hid (punB (byteAt s k) = true → done s (k + 1) = ((done s k).1 ++ [s.extract (done s k).2 k], k + 1)) := fun h => done_cut (by simp [cutB, h])
          have Hno : Hid (punB (byteAt s k) = false → done s (k + 1) = done s k) := fun h => done_no (by simp [cutB, h]; omega)
          rw [hb] at Hcut Hno
          clear hb
          by_cases hp : punB (↑(s[k]'hk1).toNat) = true
          · have Hdn : Hid (done s (k + 1) = ((done s k).1 ++ [s.extract (done s k).2 k], k + 1)) := Hcut.out hp
            clear Hcut Hno
            generalize hS : (done s k).2 = st at *
            generalize hL : (done s k).1 = L at *
            clear hS hL
            go_wp2_with (first
              | (go_at_call 10; refine (isPunct10 _ _).mono ?_; rintro e w' ⟨rfl, rfl⟩)
              | (at_builtin; refine wpList_append_own _ rfl _ _ 23 rfl w.heap.size 9 i0 (.string ByteArray.empty) 1 16 Try.underlying23 hi hz0 hz1 hz2 rfl (by decide) _ _ _ rfl (hown.alloc _) ⟨wr.heap.size, 0, none⟩ 1 1 [.string (s.extract st k)] rfl rfl ?d1 ?d2 ?d3 ?d4 ?d5 ?_))
            case d1 => exact cell_one
            case d2 => intro u hu; simp at hu; subst hu; rfl
            case d3 => unfold maxLen; omega
            case d4 => omega
            case d5 => have := hnx.size; simp; omega
            · intro v' w1 hown' hgrow _
              have R := app_step hown hnx hown' hgrow
              clear hown' hgrow hown hnx
              go_wp2
              go_roundw
              case rel => exact ⟨k + 1, by omega, by go_num, by rw [Hdn.out]; go_num, by rw [Hdn.out]; exact R.1, R.2⟩
              case measure => simp [intOf]; omega
          · have hp' : punB (↑(s[k]'hk1).toNat) = false := by simpa using hp
            have Hdn : Hid (done s (k + 1) = done s k) := Hno.out hp'
            clear Hcut Hno hp
            go_wp2_with (go_at_call 10; refine (isPunct10 _ _).mono ?_; rintro e w' ⟨rfl, rfl⟩)
            go_roundw
            case rel => exact ⟨k + 1, by omega, by go_num, by rw [Hdn.out], by rw [Hdn.out]; exact hown, hnx⟩
            case measure => simp [intOf]; omega
        · obtain rfl : k = s.size := by omega
          have hdn : done s (s.size + 1) = ((done s s.size).1 ++ [s.extract (done s s.size).2 s.size], s.size + 1) := done_cut (by simp [cutB])
          have hpc : pieces s = (done s s.size).1 ++ [s.extract (done s s.size).2 s.size] := by unfold pieces; rw [hdn]
          have HP : Hid (pieces s = (done s s.size).1 ++ [s.extract (done s s.size).2 s.size]) := hpc
          clear hdn hpc hk1
          generalize hS : (done s s.size).2 = st at *
          generalize hL : (done s s.size).1 = L at *
          clear hS hL
          go_wp2_with (at_builtin; refine wpList_append_own _ rfl _ _ 23 rfl w.heap.size 9 i0 (.string ByteArray.empty) 1 16 Try.underlying23 hi hz0 hz1 hz2 rfl (by decide) _ _ _ rfl (hown.alloc _) ⟨wr.heap.size, 0, none⟩ 1 1 [.string (s.extract st s.size)] rfl rfl ?e1 ?e2 ?e3 ?e4 ?e5 ?_)
          case e1 => exact cell_one
          case e2 => intro u hu; simp at hu; subst hu; rfl
          case e3 => unfold maxLen; omega
          case e4 => omega
          case e5 => have := hnx.size; simp; omega
          · intro v' w1 hown' hgrow _
            have R := app_step hown hnx hown' hgrow
            rw [← HP.out] at R
            have hpl : (pieces s).length ≤ s.size + 1 := len_le s (s.size + 1)
            obtain ⟨g, cap, hv, _, _, hcell⟩ := row_open R.1 (pieces_pos s)
            have HR : Hid (w1.ownsRow w.heap.size 9 1 v' (pieces s).length ((pieces s).map Value.string) ∧ Below w.heap.size w w1) := R
            rw [hv] at HR
            rw [hv]
            clear hown' hgrow hown hnx R hv HP
            go_wp2_with fail
            go_loop [8] (fun i => ∃ k : Nat, k ≤ (pieces s).length ∧ i = .int .i64 k ∧ ∀ j, j < k → lenB ((pieces s).getD j ByteArray.empty) = true) (fun i => (pieces s).length - (intOf i).toNat)
            case atStart => exact ⟨0, Nat.zero_le _, rfl, fun j h => absurd h (by omega)⟩
            case round =>
              obtain ⟨m, hm, rfl, hall⟩ := hrel
              have Hall : Hid (∀ j, j < m → lenB ((pieces s).getD j ByteArray.empty) = true) := hall
              clear hall
              by_cases hm1 : m < (pieces s).length
              · have hc := hcell m hm1
                have Hok : Hid (lenB ((pieces s).getD m ByteArray.empty) = true → ∀ j, j < m + 1 → lenB ((pieces s).getD j ByteArray.empty) = true) := fun h j hj => by
                  by_cases e : j = m
                  · subst e; exact h
                  · exact Hall.out j (by omega)
                have Hbad : Hid (lenB ((pieces s).getD m ByteArray.empty) = false → okM s = false) := fun h => okM_piece (p := (pieces s).getD m ByteArray.empty) (by simp [List.getD, hm1]) h
                clear hcell
                generalize (pieces s).getD m ByteArray.empty = x at *
                by_cases q1 : x.size = 0
                · have HF : Hid (okM s = false) := Hbad.out (by simp [lenB]; omega)
                  have q1' : ((x.size : Int) == 0) = true := by simp [q1]
                  clear q1
                  go_wp2_with fail
                  go_ret2
                  exact ⟨.slice none 0 0, by rw [HF.out]; rfl, HR.out.2, fun h => absurd h (by simp [HF.out]), fun _ => rfl⟩
                · have q1' : ((x.size : Int) == 0) = false := beq_eq_false_iff_ne.2 (by omega)
                  by_cases q2 : 4 < x.size
                  · have HF : Hid (okM s = false) := Hbad.out (by simp [lenB]; omega)
                    have q2' : (4 : Int) < (x.size : Int) := by omega
                    go_wp2_with fail
                    go_ret2
                    exact ⟨.slice none 0 0, by rw [HF.out]; rfl, HR.out.2, fun h => absurd h (by simp [HF.out]), fun _ => rfl⟩
                  · have q2' : (x.size : Int) ≤ 4 := by omega
                    have Hk : Hid (∀ j, j < m + 1 → lenB ((pieces s).getD j ByteArray.empty) = true) := Hok.out (by simp only [lenB, Bool.and_eq_true, decide_eq_true_eq]; omega)
                    go_wp2_with fail
                    go_round
                    case rel => exact ⟨m + 1, by omega, by go_num, Hk.out⟩
                    case measure => simp [intOf]; omega
              · have HT : Hid (okM s = true) := (okM_iff s).2 ⟨Hgood.out, fun p hp => by
                  obtain ⟨j, hj, rfl⟩ := List.mem_iff_getElem.1 hp
                  have := Hall.out j (by omega)
                  simpa [List.getD, hj] using this⟩
                clear hcell
                go_wp2_with fail
                go_ret2
                exact ⟨_, by rw [HT.out]; rfl, HR.out.2, fun _ => HR.out.1, fun h => absurd h (by simp [HT.out])⟩
end Go.Proofs.Qxb6603939a
