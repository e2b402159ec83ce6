/- A script of steps: the slice of structs, its bounds. -/
import Derived.Test.Qxb6603837aByt
import Derived.Test.Qxb6603837aOpen2
namespace Go.Proofs.Qxb6603837a
open Go.RowKit
set_option maxHeartbeats 2000000 in
theorem bytes20 {x : Option Addr} {n c : Nat} {zs : List (Bool × ByteArray)} {w : World} (hx : RdS w x n zs) : Calls Try.prog 20 #[.slice x n c] w fun e w' => SomeB e ∧ w = w' := by
  have HX : Hid (RdS w x n zs) := hx
  clear hx
  by_cases hn : (1048576 : Int) < n
  · go_enter Try.func20, Try.ntmps20
    go_wp2_with fail
    go_ret
    exact ⟨⟨_, rfl⟩, rfl⟩
  · go_enter Try.func20, Try.ntmps20
    go_wp2_with fail
    go_loopg [3, 4] n (fun g s3 s4 wr => ∃ (i t : Nat), s3 = .int .i64 t ∧ s4 = .int .i64 i ∧ i ≤ n ∧ t ≤ 1048576 ∧ g = n - i ∧ wr = w)
    case atStart => exact ⟨0, n, by go_num, rfl, by omega, by omega, rfl, rfl⟩
    case round =>
      obtain ⟨i, t, rfl, rfl, hin, ht, rfl, rfl⟩ := hrel
      by_cases hlt : i < n
      · obtain ⟨b, off, ⟨ins, key⟩, rfl, _, c0, c1⟩ := HX.out.at hlt
        simp only [] at c0 c1
        by_cases h1 : (1048576 : Int) < key.size
        · go_wp2_with fail
          go_ret
          exact ⟨⟨_, rfl⟩, rfl⟩
        · by_cases h2 : (1048576 : Int) < (t : Int) + key.size
          · go_wp2_with fail
            go_ret
            exact ⟨⟨_, rfl⟩, rfl⟩
          · go_wp2_with fail
            go_roundg (n - (i + 1))
            case measure => omega
            case rel => exact ⟨i + 1, t + key.size, by go_num, by go_num, by omega, by omega, rfl, rfl⟩
      · have hi : i = n := by omega
        subst hi
        go_wp2_with fail
        go_ret
        exact ⟨⟨_, rfl⟩, rfl⟩
end Go.Proofs.Qxb6603837a
