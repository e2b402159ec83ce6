import Derived.Test.Qxb6603867aClone
namespace Go.Proofs.Qxb6603867a
open Go.RowKit
/-- some bool; old memory stands -/
def SomeB (w : World) (e : Ending) (w' : World) : Prop := ∃ b : Bool, e = .returned (.bool b) ∧ Keeps No w w'
set_option maxHeartbeats 2000000 in
theorem bytes8 (a0 a1 a2 a3 a4 a5 a6 : Option Addr) (n0 n1 n2 n3 n4 n5 n6 c0 c1 c2 c3 c4 c5 c6 : Nat) (x y z t : Int) (w : World)
    (h0 : n0 ≤ 9223372036854775807) (h1 : n1 ≤ 9223372036854775807) (h2 : n2 ≤ 9223372036854775807) (h3 : n3 ≤ 9223372036854775807) (h4 : n4 ≤ 9223372036854775807) (h5 : n5 ≤ 9223372036854775807) (h6 : n6 ≤ 9223372036854775807) :
    Calls Try.prog 8 #[.slice a0 n0 c0, .slice a1 n1 c1, .slice a2 n2 c2, .slice a3 n3 c3, .slice a4 n4 c4, .slice a5 n5 c5, .slice a6 n6 c6, .int .i64 x, .int .i64 y, .int .i64 z, .int .i64 t] w
      (SomeB w) := by
  go_enter Try.func8, Try.ntmps8
  go_wp2
  all_goals
    go_ret
    exact ⟨_, rfl, Keeps.refl _ _⟩
set_option maxHeartbeats 2000000 in
theorem bytes13 (a0 a1 a2 a3 a4 a5 a6 : Option Addr) (n0 n1 n2 n3 n4 n5 n6 c0 c1 c2 c3 c4 c5 c6 : Nat) (ss : List ByteArray) (w : World)
    (h0 : n0 ≤ 9223372036854775807) (h1 : n1 ≤ 9223372036854775807) (h2 : n2 ≤ 9223372036854775807) (h3 : n3 ≤ 9223372036854775807) (h4 : n4 ≤ 9223372036854775807) (h5 : n5 ≤ 9223372036854775807) (h6 : n6 ≤ 9223372036854775807)
    (hr : Rd w a0 n0 (ss.map Value.string)) (hss : ∀ k, (ss.getD k ByteArray.empty).size ≤ 9223372036854775807) :
    Calls Try.prog 13 #[.slice a0 n0 c0, .slice a1 n1 c1, .slice a2 n2 c2, .slice a3 n3 c3, .slice a4 n4 c4, .slice a5 n5 c5, .slice a6 n6 c6] w
      (SomeB w) := by
  by_cases hb0 : n0 ≤ 1048576
  · go_enter Try.func13, Try.ntmps13
    go_wp2
    go_loop [15, 16] (fun v i => ∃ (k : Nat) (z : Int), k ≤ n0 ∧ i = .int .i64 k ∧ v = .int .i64 z ∧ 0 ≤ z ∧ z ≤ 1048576) (fun _ i => n0 - (intOf i).toNat)
    case atStart => exact ⟨0, n0, Nat.zero_le _, rfl, rfl, by omega, by omega⟩
    case round =>
      obtain ⟨k, z, hk, rfl, rfl, hz1, hz2⟩ := hrel
      by_cases hlt : k < n0
      · obtain ⟨b, off, rfl, hc⟩ := hr.at ByteArray.empty hlt
        have hck := hc k hlt
        have hsk := hss k
        clear hc hr hss
        generalize ss.getD k ByteArray.empty = s at *
        by_cases hs : s.size ≤ 1048576
        · go_wp2
          · go_ret
            exact ⟨_, rfl, Keeps.refl _ _⟩
          · go_round
            case rel => exact ⟨k + 1, _, by omega, by go_num, rfl, by omega, by omega⟩
            case measure => simp [intOf]; omega
        · go_wp2
          go_ret
          exact ⟨_, rfl, Keeps.refl _ _⟩
      · clear hss hr
        go_wp2
        all_goals
          go_ret
          exact ⟨_, rfl, Keeps.refl _ _⟩
  · clear hss hr
    go_enter Try.func13, Try.ntmps13
    go_wp2
    go_ret
    exact ⟨_, rfl, Keeps.refl _ _⟩
set_option maxHeartbeats 2000000 in
theorem bytes21 (a0 a1 a2 a3 a4 a5 a6 : Option Addr) (n0 n1 n2 n3 n4 n5 n6 c0 c1 c2 c3 c4 c5 c6 : Nat) (ss : List ByteArray) (w : World)
    (h0 : n0 ≤ 9223372036854775807) (h1 : n1 ≤ 9223372036854775807) (h2 : n2 ≤ 9223372036854775807) (h3 : n3 ≤ 9223372036854775807) (h4 : n4 ≤ 9223372036854775807) (h5 : n5 ≤ 9223372036854775807) (h6 : n6 ≤ 9223372036854775807)
    (hr : Rd w a0 n0 (ss.map Value.string)) (hss : ∀ k, (ss.getD k ByteArray.empty).size ≤ 9223372036854775807) :
    Calls Try.prog 21 #[.slice a0 n0 c0, .slice a1 n1 c1, .slice a2 n2 c2, .slice a3 n3 c3, .slice a4 n4 c4, .slice a5 n5 c5, .slice a6 n6 c6] w
      (SomeB w) := by
  by_cases hb0 : n0 ≤ 1048576
  · go_enter Try.func21, Try.ntmps21
    go_wp2
    go_loop [15, 16] (fun v i => ∃ (k : Nat) (z : Int), k ≤ n0 ∧ i = .int .i64 k ∧ v = .int .i64 z ∧ 0 ≤ z ∧ z ≤ 1048576) (fun _ i => n0 - (intOf i).toNat)
    case atStart => exact ⟨0, n0, Nat.zero_le _, rfl, rfl, by omega, by omega⟩
    case round =>
      obtain ⟨k, z, hk, rfl, rfl, hz1, hz2⟩ := hrel
      by_cases hlt : k < n0
      · obtain ⟨b, off, rfl, hc⟩ := hr.at ByteArray.empty hlt
        have hck := hc k hlt
        have hsk := hss k
        clear hc hr hss
        generalize ss.getD k ByteArray.empty = s at *
        by_cases hs : s.size ≤ 1048576
        · go_wp2
          · go_ret
            exact ⟨_, rfl, Keeps.refl _ _⟩
          · go_round
            case rel => exact ⟨k + 1, _, by omega, by go_num, rfl, by omega, by omega⟩
            case measure => simp [intOf]; omega
        · go_wp2
          go_ret
          exact ⟨_, rfl, Keeps.refl _ _⟩
      · clear hss hr
        go_wp2
        all_goals
          go_ret
          exact ⟨_, rfl, Keeps.refl _ _⟩
  · clear hss hr
    go_enter Try.func21, Try.ntmps21
    go_wp2
    go_ret
    exact ⟨_, rfl, Keeps.refl _ _⟩
end Go.Proofs.Qxb6603867a
