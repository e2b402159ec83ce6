import Derived.Test.Qxb6603939aLeaf
import Derived.Outline
namespace Go.Proofs.Qxb6603939a
open Go.RowKit Plain
theorem Try.info9 : (Try.prog.info? 9).map (fun i => (i.zero, i.size, i.bytes)) = some (some (.string ByteArray.empty), 1, 16) := by kernel_rfl
/-- behind 'append(runs, piece)': what is owned, and that old memory stands -/
theorem app_step {w wr w1 : World} {v v' : Value} {L : List ByteArray} {p : ByteArray} {o : Obj} (hown : wr.ownsRow w.heap.size 9 1 v L.length (L.map Value.string)) (hnx : Below w.heap.size w wr)
    (hown' : w1.ownsRow w.heap.size 9 1 v' (L.length + 1) (L.map Value.string ++ [Value.string p])) (hg : (wr.alloc o).grownBy w1 v.ownBlock) :
    w1.ownsRow w.heap.size 9 1 v' (L ++ [p]).length ((L ++ [p]).map Value.string) ∧ Below w.heap.size w w1 := by
  have hz := hnx.size
  exact ⟨by simpa using hown', (hnx.alloc hz _).grown hg (by simp; omega) fun k hk => (hown.lt k hk).1⟩
theorem cell_one {w : World} {v : Value} {e : TypeId} : ∀ (j : Nat) (u : Value), [v][j]? = some u → (w.alloc (Obj.cells #[v] e)).cell? ({ block := w.heap.size, off := 0 : Addr }.add j) = some u := by
  intro j u hj
  match j, hj with
  | 0, hj => simp at hj; subst hj; simp [Addr.add]
set_option maxHeartbeats 1000000 in
theorem digitRuns8 (s : ByteArray) (w : World) (hs : s.size ≤ 1048576) :
    Calls Try.prog 8 #[.string s] w fun e w' => ∃ v, e = .returned (.tuple #[v, .bool (okM s)]) ∧ Below w.heap.size w w' ∧
      (okM s = true → w'.ownsRow w.heap.size 9 1 v (pieces s).length ((pieces s).map Value.string)) ∧ (okM s = false → v = .slice none 0 0) := by
  obtain ⟨i0, hi, hz0, hz1, hz2⟩ := info_parts Try.info9
  go_enter Try.func8, Try.ntmps8
  go_wp2
  go_loopw [4, 5, 6] (fun v st i wr => ∃ k : Nat, k ≤ s.size + 1 ∧ i = .int .i64 k ∧ st = .int .i64 ((done s k).2 : Nat) ∧ wr.ownsRow w.heap.size 9 1 v (done s k).1.length ((done s k).1.map Value.string) ∧ Below w.heap.size w wr ∧ Inv s k)
    (fun _ _ i _ => s.size + 1 - (intOf i).toNat)
  case atStart => exact ⟨0, Nat.zero_le _, rfl, rfl, World.ownsRow_nil _ _ _ _, Below.refl _ _, inv_zero s⟩
  case round =>
    obtain ⟨k, hk, rfl, rfl, hown, hnx, hinv⟩ := hrel
    have hsl := start_le s k
    have hll := len_le s k
    have Hinv : Hid (Inv s k) := hinv
    clear hinv
    by_cases hk1 : k < s.size
    · have hb := byteAt_lt hk1
      by_cases hd : digB (byteAt s k) = true
      · obtain ⟨hi2, hdn⟩ := inv_dig Hinv.out hk1 hd
        have Hi2 : Hid (Inv s (k + 1)) := hi2
        have Hdn : Hid (done s (k + 1) = done s k) := hdn
        rw [hb] at hd
        clear hi2 hdn hb
        go_wp2_with (go_at_call 11; refine (isDigit11 _ _).mono ?_; rintro e w' ⟨rfl, rfl⟩)
        go_roundw
        case rel => exact ⟨k + 1, by omega, by go_num, by rw [Hdn.out], by rw [Hdn.out]; exact hown, hnx, Hi2.out⟩
        case measure => simp [intOf]; omega
      · have hd' : digB (byteAt s k) = false := by simpa using hd
        clear hd
        have Hrun : Hid (k = (done s k).2 ∨ 4 < k - (done s k).2 → okM s = false) := okM_run (Nat.le_of_lt hk1) (.inr hd')
        have Hbad : Hid (punB (byteAt s k) = false → okM s = false) := fun hp => okM_bad hk1 (by simp [okB, hd', hp])
        have Hcut : Hid (punB (byteAt s k) = true → k ≠ (done s k).2 → k - (done s k).2 ≤ 4 → Inv s (k + 1) ∧ done s (k + 1) = ((done s k).1 ++ [s.extract (done s k).2 k], k + 1)) := fun hp h1 h2 => by
          have hc : cutB s k = true := by simp [cutB, hp]
          exact ⟨inv_cut Hinv.out (Nat.le_of_lt hk1) hc h1 h2, done_cut hc⟩
        rw [hb] at hd' Hbad Hcut
        clear hb
        generalize hS : (done s k).2 = st at *
        generalize hL : (done s k).1 = L at *
        have HS : Hid ((done s k).2 = st) := hS
        have HL : Hid ((done s k).1 = L) := hL
        clear hS hL
        by_cases h1 : k = st
        · have hf : okM s = false := Hrun.out (.inl h1)
          have hq : ((k : Int) == (st : Int)) = true := by simp [h1]
          have HF : Hid (okM s = false) := hf
          clear hf h1
          go_wp2_with (go_at_call 11; refine (isDigit11 _ _).mono ?_; rintro e w' ⟨rfl, rfl⟩)
          go_ret2
          exact ⟨.slice none 0 0, by rw [HF.out]; rfl, hnx, fun h => absurd h (by simp [HF.out]), fun _ => rfl⟩
        · have hq : ((k : Int) == (st : Int)) = false := by simp; omega
          by_cases h2 : 4 < k - st
          · have HF : Hid (okM s = false) := Hrun.out (.inr h2)
            have h2' : (4 : Int) < (k : Int) - (st : Int) := by omega
            clear h1
            go_wp2_with (go_at_call 11; refine (isDigit11 _ _).mono ?_; rintro e w' ⟨rfl, rfl⟩)
            go_ret2
            exact ⟨.slice none 0 0, by rw [HF.out]; rfl, hnx, fun h => absurd h (by simp [HF.out]), fun _ => rfl⟩
          · have h2' : (k : Int) - (st : Int) ≤ 4 := by omega
            by_cases hp : punB (↑(s[k]'hk1).toNat) = true
            · obtain ⟨hi2, hdn⟩ := Hcut.out hp h1 (by omega)
              have Hi2 : Hid (Inv s (k + 1)) := hi2
              have Hdn : Hid (done s (k + 1) = (L ++ [s.extract st k], k + 1)) := hdn
              clear hi2 hdn h1 h2
              go_wp2_with (first
                | (go_at_call 11; refine (isDigit11 _ _).mono ?_; rintro e w' ⟨rfl, rfl⟩)
                | (go_at_call 12; refine (isPunct12 _ _).mono ?_; rintro e w' ⟨rfl, rfl⟩)
                | (at_builtin; refine wpList_append_own _ rfl _ _ 23 rfl w.heap.size 9 i0 (.string ByteArray.empty) 1 16 Try.underlying23 hi hz0 hz1 hz2 rfl (by decide) _ _ _ rfl (hown.alloc _) ⟨wr.heap.size, 0, none⟩ 1 1 [.string (s.extract st k)] rfl rfl ?c1 ?c2 ?c3 ?c4 ?c5 ?_))
              case c1 => exact cell_one
              case c2 => intro u hu; simp at hu; subst hu; rfl
              case c3 => unfold maxLen; omega
              case c4 => omega
              case c5 => have := hnx.size; simp; omega
              · intro v' w1 hown' hgrow _
                have R := app_step hown hnx hown' hgrow
                clear hown' hgrow hown hnx
                go_wp2
                go_roundw
                case rel => exact ⟨k + 1, by omega, by go_num, by rw [Hdn.out]; go_num, by rw [Hdn.out]; exact R.1, R.2, Hi2.out⟩
                case measure => simp [intOf]; omega
            · have hp' : punB (↑(s[k]'hk1).toNat) = false := by simpa using hp
              have HF : Hid (okM s = false) := Hbad.out hp'
              clear h1 h2 hp
              go_wp2_with (first
                | (go_at_call 11; refine (isDigit11 _ _).mono ?_; rintro e w' ⟨rfl, rfl⟩)
                | (go_at_call 12; refine (isPunct12 _ _).mono ?_; rintro e w' ⟨rfl, rfl⟩))
              go_ret2
              exact ⟨.slice none 0 0, by rw [HF.out]; rfl, hnx, fun h => absurd h (by simp [HF.out]), fun _ => rfl⟩
    · by_cases hk2 : k = s.size
      · have Hrun : Hid (k = (done s k).2 ∨ 4 < k - (done s k).2 → okM s = false) := okM_run (Nat.le_of_eq hk2) (.inl hk2)
        have Hcut : Hid (k ≠ (done s k).2 → k - (done s k).2 ≤ 4 → Inv s (k + 1) ∧ done s (k + 1) = ((done s k).1 ++ [s.extract (done s k).2 k], k + 1)) := fun h1 h2 => by
          have hc : cutB s k = true := by simp [cutB, hk2]
          exact ⟨inv_cut Hinv.out (Nat.le_of_eq hk2) hc h1 h2, done_cut hc⟩
        have hk3 : k ≤ s.size := by omega
        clear hk2
        generalize hS : (done s k).2 = st at *
        generalize hL : (done s k).1 = L at *
        have HS : Hid ((done s k).2 = st) := hS
        have HL : Hid ((done s k).1 = L) := hL
        clear hS hL
        by_cases h1 : k = st
        · have hf : okM s = false := Hrun.out (.inl h1)
          have hq : ((k : Int) == (st : Int)) = true := by simp [h1]
          have HF : Hid (okM s = false) := hf
          clear hf h1
          go_wp2_with fail
          go_ret2
          exact ⟨.slice none 0 0, by rw [HF.out]; rfl, hnx, fun h => absurd h (by simp [HF.out]), fun _ => rfl⟩
        · have hq : ((k : Int) == (st : Int)) = false := by simp; omega
          by_cases h2 : 4 < k - st
          · have HF : Hid (okM s = false) := Hrun.out (.inr h2)
            have h2' : (4 : Int) < (k : Int) - (st : Int) := by omega
            clear h1
            go_wp2_with fail
            go_ret2
            exact ⟨.slice none 0 0, by rw [HF.out]; rfl, hnx, fun h => absurd h (by simp [HF.out]), fun _ => rfl⟩
          · have h2' : (k : Int) - (st : Int) ≤ 4 := by omega
            obtain ⟨hi2, hdn⟩ := Hcut.out h1 (by omega)
            have Hi2 : Hid (Inv s (k + 1)) := hi2
            have Hdn : Hid (done s (k + 1) = (L ++ [s.extract st k], k + 1)) := hdn
            clear hi2 hdn h1 h2
            go_wp2_with (at_builtin; refine wpList_append_own _ rfl _ _ 23 rfl w.heap.size 9 i0 (.string ByteArray.empty) 1 16 Try.underlying23 hi hz0 hz1 hz2 rfl (by decide) _ _ _ rfl (hown.alloc _) ⟨wr.heap.size, 0, none⟩ 1 1 [.string (s.extract st k)] rfl rfl ?d1 ?d2 ?d3 ?d4 ?d5 ?_)
            case d1 => exact cell_one
            case d2 => intro u hu; simp at hu; subst hu; rfl
            case d3 => unfold maxLen; omega
            case d4 => omega
            case d5 => have := hnx.size; simp; omega
            · intro v' w1 hown' hgrow _
              have R := app_step hown hnx hown' hgrow
              clear hown' hgrow hown hnx
              go_wp2
              go_roundw
              case rel => exact ⟨k + 1, by omega, by go_num, by rw [Hdn.out]; go_num, by rw [Hdn.out]; exact R.1, R.2, Hi2.out⟩
              case measure => simp [intOf]; omega
      · obtain rfl : k = s.size + 1 := by omega
        have HT : Hid (okM s = true) := inv_end Hinv.out
        clear hk2 hk1 hll hsl
        go_wp2_with fail
        go_ret2
        exact ⟨u4, by rw [HT.out]; rfl, hnx, fun _ => hown, fun h => absurd h (by simp [HT.out])⟩
end Go.Proofs.Qxb6603939a
