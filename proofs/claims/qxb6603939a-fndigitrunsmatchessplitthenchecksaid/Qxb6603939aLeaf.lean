import Derived.Test.Qxb6603939aRows
import Derived.Test.Qxb6603939aPlain
import Derived.WalkKit
import Derived.WalkSpells
import Derived.WalkLawsBesides
namespace Go.Proofs.Qxb6603939a
open Go.RowKit Plain
theorem ret_b {a b : Bool} (h : a = b) : Ending.returned (.bool a) = .returned (.bool b) := by rw [h]
set_option maxHeartbeats 400000 in
theorem isDigit9 (c : Int) (w : World) : Calls Try.prog 9 #[.int .u8 c] w fun e w' => e = .returned (.bool (digB c)) ∧ w = w' := by
  by_cases h1 : 48 ≤ c <;> by_cases h2 : c ≤ 57
  all_goals
    have hf : digB c = (decide (48 ≤ c) && decide (c ≤ 57)) := rfl
    simp only [h1, h2] at hf
    rw [hf]; clear hf
    go_enter Try.func9, Try.ntmps9
    go_wp2
    go_ret
    exact ⟨by first | (simp; done) | (simp; omega), rfl⟩
theorem isDigit11 (c : Int) (w : World) : Calls Try.prog 11 #[.int .u8 c] w fun e w' => e = .returned (.bool (digB c)) ∧ w = w' := by
  by_cases h1 : 48 ≤ c <;> by_cases h2 : c ≤ 57
  all_goals
    have hf : digB c = (decide (48 ≤ c) && decide (c ≤ 57)) := rfl
    simp only [h1, h2] at hf
    rw [hf]; clear hf
    go_enter Try.func11, Try.ntmps11
    go_wp2
    go_ret
    exact ⟨by first | (simp; done) | (simp; omega), rfl⟩
theorem punT {c : Int} (h : (33 ≤ c ∧ c ≤ 47) ∨ (58 ≤ c ∧ c ≤ 64) ∨ (91 ≤ c ∧ c ≤ 96) ∨ (123 ≤ c ∧ c ≤ 126)) : punB c = true := by
  simp [punB]; omega
theorem punF {c : Int} (h : ¬ ((33 ≤ c ∧ c ≤ 47) ∨ (58 ≤ c ∧ c ≤ 64) ∨ (91 ≤ c ∧ c ≤ 96) ∨ (123 ≤ c ∧ c ≤ 126))) : punB c = false := by
  simp [punB]; omega
theorem nine (c : Int) : c < 33 ∨ (33 ≤ c ∧ c ≤ 47) ∨ (48 ≤ c ∧ c ≤ 57) ∨ (58 ≤ c ∧ c ≤ 64) ∨ (65 ≤ c ∧ c ≤ 90) ∨ (91 ≤ c ∧ c ≤ 96) ∨ (97 ≤ c ∧ c ≤ 122) ∨ (123 ≤ c ∧ c ≤ 126) ∨ 126 < c := by omega
set_option maxHeartbeats 1000000 in
theorem isPunct12 (c : Int) (w : World) : Calls Try.prog 12 #[.int .u8 c] w fun e w' => e = .returned (.bool (punB c)) ∧ w = w' := by
  rcases nine c with h | ⟨h1, h2⟩ | ⟨h1, h2⟩ | ⟨h1, h2⟩ | ⟨h1, h2⟩ | ⟨h1, h2⟩ | ⟨h1, h2⟩ | ⟨h1, h2⟩ | h
  all_goals
    first | rw [punT (by omega)] | rw [punF (by omega)]
    go_enter Try.func12, Try.ntmps12
    go_wp2
    go_ret
    exact ⟨by first | (simp; done) | (simp; omega), rfl⟩
set_option maxHeartbeats 1000000 in
theorem isPunct10 (c : Int) (w : World) : Calls Try.prog 10 #[.int .u8 c] w fun e w' => e = .returned (.bool (punB c)) ∧ w = w' := by
  rcases nine c with h | ⟨h1, h2⟩ | ⟨h1, h2⟩ | ⟨h1, h2⟩ | ⟨h1, h2⟩ | ⟨h1, h2⟩ | ⟨h1, h2⟩ | ⟨h1, h2⟩ | h
  all_goals
    first | rw [punT (by omega)] | rw [punF (by omega)]
    go_enter Try.func10, Try.ntmps10
    go_wp2
    go_ret
    exact ⟨by first | (simp; done) | (simp; omega), rfl⟩
end Go.Proofs.Qxb6603939a
