/- The bounds on lengths: whatever they answer, they return and only read. -/
import Derived.Test.Qxb6603837aBld
namespace Go.Proofs.Qxb6603837a
open Go.RowKit
/-- some bool; some number -/
def SomeB (e : Ending) : Prop := ∃ b, e = .returned (.bool b)
def SomeI (e : Ending) : Prop := ∃ b : Nat, e = .returned (.int .i64 b)
set_option maxHeartbeats 2000000 in
theorem bytes27 {x : Option Addr} {n c : Nat} {zs : List ByteArray} {w : World} (hx : Rd w x n (zs.map Value.string)) : Calls Try.prog 27 #[.slice x n c] w fun e w' => SomeB e ∧ w = w' := by
  have HX : Hid (Rd w x n (zs.map Value.string)) := hx
  clear hx
  by_cases hn : (1048576 : Int) < n
  · go_enter Try.func27, Try.ntmps27
    go_wp2_with fail
    go_ret
    exact ⟨⟨_, rfl⟩, rfl⟩
  · go_enter Try.func27, Try.ntmps27
    go_wp2_with fail
    go_loopg [3, 4] n (fun g s3 s4 wr => ∃ (i t : Nat), s3 = .int .i64 t ∧ s4 = .int .i64 i ∧ i ≤ n ∧ t ≤ 1048576 ∧ g = n - i ∧ wr = w)
    case atStart => exact ⟨0, n, by go_num, rfl, by omega, by omega, rfl, rfl⟩
    case round =>
      obtain ⟨i, t, rfl, rfl, hin, ht, rfl, rfl⟩ := hrel
      by_cases hlt : i < n
      · obtain ⟨b, off, rfl, hc⟩ := Rd.at HX.out (k := i) ByteArray.empty hlt
        have c0 := hc i hlt
        generalize zs.getD i ByteArray.empty = key at *
        clear hc
        by_cases h1 : (1048576 : Int) < key.size
        · go_wp2_with fail
          go_ret
          exact ⟨⟨_, rfl⟩, rfl⟩
        · by_cases h2 : (1048576 : Int) < (t : Int) + key.size
          · go_wp2_with fail
            go_ret
            exact ⟨⟨_, rfl⟩, rfl⟩
          · go_wp2_with fail
            go_roundg (n - (i + 1))
            case measure => omega
            case rel => exact ⟨i + 1, t + key.size, by go_num, by go_num, by omega, by omega, rfl, rfl⟩
      · have hi : i = n := by omega
        subst hi
        go_wp2_with fail
        go_ret
        exact ⟨⟨_, rfl⟩, rfl⟩
set_option maxHeartbeats 2000000 in
theorem keyBytes9 {x : Option Addr} {n c t0 : Nat} {zs : List ByteArray} {w : World} (hx : Rd w x n (zs.map Value.string)) (hn : n ≤ 1048576) (h0 : t0 ≤ 1048576) : Calls Try.prog 9 #[.slice x n c, .int .i64 t0] w fun e w' => SomeI e ∧ w = w' := by
  have HX : Hid (Rd w x n (zs.map Value.string)) := hx
  clear hx
  go_enter Try.func9, Try.ntmps9
  go_wp2_with fail
  go_loopg [1, 5] n (fun g s1 s5 wr => ∃ (i t : Nat), s1 = .int .i64 t ∧ s5 = .int .i64 i ∧ i ≤ n ∧ t ≤ 3000000 ∧ g = n - i ∧ wr = w)
  case atStart => exact ⟨0, t0, rfl, rfl, by omega, by omega, rfl, rfl⟩
  case round =>
    obtain ⟨i, t, rfl, rfl, hin, ht, rfl, rfl⟩ := hrel
    by_cases hlt : i < n
    · obtain ⟨b, off, rfl, hc⟩ := Rd.at HX.out (k := i) ByteArray.empty hlt
      have c0 := hc i hlt
      generalize zs.getD i ByteArray.empty = key at *
      clear hc
      by_cases h2 : (1048576 : Int) < t
      · go_wp2_with fail
        go_ret
        exact ⟨⟨1048577, rfl⟩, rfl⟩
      · by_cases h1 : (1048576 : Int) < key.size
        · go_wp2_with fail
          go_ret
          exact ⟨⟨1048577, rfl⟩, rfl⟩
        · go_wp2_with fail
          go_roundg (n - (i + 1))
          case measure => omega
          case rel => exact ⟨i + 1, t + (key.size + 16), by go_num, by go_num, by omega, by omega, rfl, rfl⟩
    · have hi : i = n := by omega
      subst hi
      go_wp2_with fail
      go_ret
      exact ⟨⟨t, rfl⟩, rfl⟩
set_option maxHeartbeats 2000000 in
theorem bytes26 {x : Option Addr} {n c : Nat} {zs : List ByteArray} {pr : ByteArray} {w : World} (hx : Rd w x n (zs.map Value.string)) : Calls Try.prog 26 #[.slice x n c, .string pr] w fun e w' => SomeB e ∧ w = w' := by
  have HX : Hid (Rd w x n (zs.map Value.string)) := hx
  clear hx
  by_cases hn : (1048576 : Int) < n
  · go_enter Try.func26, Try.ntmps26
    go_wp2_with fail
    go_ret
    exact ⟨⟨_, rfl⟩, rfl⟩
  · go_enter Try.func26, Try.ntmps26
    go_wp2_with fail
    go_loopg [5, 6] n (fun g s3 s4 wr => ∃ (i t : Nat), s3 = .int .i64 t ∧ s4 = .int .i64 i ∧ i ≤ n ∧ t ≤ 1048576 ∧ g = n - i ∧ wr = w)
    case atStart => exact ⟨0, n, by go_num, rfl, by omega, by omega, rfl, rfl⟩
    case round =>
      obtain ⟨i, t, rfl, rfl, hin, ht, rfl, rfl⟩ := hrel
      by_cases hlt : i < n
      · obtain ⟨b, off, rfl, hc⟩ := Rd.at HX.out (k := i) ByteArray.empty hlt
        have c0 := hc i hlt
        generalize zs.getD i ByteArray.empty = key at *
        clear hc
        by_cases h1 : (1048576 : Int) < key.size
        · go_wp2_with fail
          go_ret
          exact ⟨⟨_, rfl⟩, rfl⟩
        · by_cases h2 : (1048576 : Int) < (t : Int) + key.size
          · go_wp2_with fail
            go_ret
            exact ⟨⟨_, rfl⟩, rfl⟩
          · go_wp2_with fail
            go_roundg (n - (i + 1))
            case measure => omega
            case rel => exact ⟨i + 1, t + key.size, by go_num, by go_num, by omega, by omega, rfl, rfl⟩
      · have hi : i = n := by omega
        subst hi
        by_cases h1 : (1048576 : Int) < pr.size
        · go_wp2_with fail
          go_ret
          exact ⟨⟨_, rfl⟩, rfl⟩
        · by_cases h2 : (1048576 : Int) < (t : Int) + pr.size
          · go_wp2_with fail
            go_ret
            exact ⟨⟨_, rfl⟩, rfl⟩
          · go_wp2_with fail
            go_ret
            exact ⟨⟨_, rfl⟩, rfl⟩
end Go.Proofs.Qxb6603837a
