import Derived.Test.Qxb6603837aFind
namespace Go.Proofs.Qxb6603837a
open Go.RowKit
set_option maxHeartbeats 4000000 in
set_option maxRecDepth 100000 in
theorem zsearch13 (a : Option Addr) (n c : Nat) (ks : List ByteArray) (k : ByteArray) (w : World) (hasc : Asc ks) (hn : n ≤ 1048576) (hr : Rd w a n (ks.map Value.string)) :
    Calls Try.prog 13 #[.slice a n c, .string k] w fun e w' => e = .returned (.tuple #[.int .i64 (pos k ks : Nat), .bool (hit k ks)]) ∧ ∃ q, w' = w.drewN q := by
  have hl : ks.length = n := by simpa using hr.1
  have HA : Hid (Asc ks) := hasc
  have HR : Hid (Rd w a n (ks.map Value.string)) := hr
  have HL : Hid _ := hl
  clear hasc hr hl
  go_enter Try.func13, Try.ntmps13
  go_wp2
  go_loopg [6, 7] n (fun g s7 s8 wr => ∃ lo hi : Nat, s7 = .int .i64 lo ∧ s8 = .int .i64 hi ∧ hi - lo ≤ g ∧ wr = w ∧ hi ≤ n ∧ lo ≤ hi ∧ Hid (Bs k ks lo hi))
  case atStart => exact ⟨0, n, rfl, rfl, by omega, rfl, Nat.le_refl _, Nat.zero_le _, by have := Bs.start k ks; rw [HL.out] at this; exact this⟩
  case round =>
    obtain ⟨lo, hi, rfl, rfl, hg, rfl, hin, hlh, hb⟩ := hrel
    by_cases hlt : lo < hi
    · obtain ⟨b, off, rfl, hc⟩ := Rd.at HR.out (k := lo + (hi - lo) / 2) ByteArray.empty (by omega)
      have cm := hc (lo + (hi - lo) / 2) (by omega)
      clear hc
      obtain ⟨y, hy⟩ : ∃ y, ks.getD (lo + (hi - lo) / 2) ByteArray.empty = y := ⟨_, rfl⟩
      rw [hy] at cm
      cases hyx : lt y k
      · have hd : Hid (Bs k ks lo (lo + (hi - lo) / 2)) := Bs.down HA.out hb.out (by omega) (by omega) (by rw [hy]; exact hyx)
        unfold lt at hyx
        clear hb hy
        go_wp2
        go_roundg (lo + (hi - lo) / 2 - lo)
        case measure => omega
        case rel => exact ⟨lo, lo + (hi - lo) / 2, rfl, by go_num, Nat.le_refl _, rfl, by omega, by omega, hd⟩
      · have hd : Hid (Bs k ks (lo + (hi - lo) / 2 + 1) hi) := Bs.up HA.out hb.out (by omega) (by rw [hy]; exact hyx)
        unfold lt at hyx
        clear hb hy
        go_wp2
        go_roundg (hi - (lo + (hi - lo) / 2 + 1))
        case measure => omega
        case rel => exact ⟨lo + (hi - lo) / 2 + 1, hi, by go_num, rfl, Nat.le_refl _, rfl, by omega, by omega, hd⟩
    · have : hi = lo := by omega
      subst this
      have hp : pos k ks = hi := hb.out.done
      by_cases hn : hi < n
      · obtain ⟨b, off, rfl, hc⟩ := Rd.at HR.out (k := hi) ByteArray.empty hn
        have cm := hc hi hn
        clear hc
        obtain ⟨y, hy⟩ : ∃ y, ks.getD hi ByteArray.empty = y := ⟨_, rfl⟩
        rw [hy] at cm
        have hh : Hid (hit k ks = decide (y = k)) := by
          show hit k ks = _
          have hlen := HL.out
          have : ks[hi]? = some y := by rw [← hy]; simp [List.getD, hlen, hn]
          simp [hit, hp, this]
        have hp' : Hid _ := hp
        clear hy hp hb
        have hbe : Hid _ := beq_iff y k
        have hdn : decide ((hi : Int) < (n : Int)) = true := by simp; omega
        go_wp2
        go_quiet (fail)
        go_wp2
        go_ret2
        refine ⟨?_, _, rfl⟩
        rw [hp'.out, hh.out, ← hbe.out]
        rfl
      · have hh : Hid (hit k ks = false) := by
          show hit k ks = _
          have hlen := HL.out
          have : ks[hi]? = none := by simp [hlen]; omega
          simp [hit, hp, this]
        have hp' : Hid _ := hp
        have hdn : decide ((hi : Int) < (n : Int)) = false := by simp; omega
        clear hp hb
        go_wp2
        go_quiet (fail)
        go_wp2
        go_ret2
        rw [hp'.out, hh.out]
        exact ⟨rfl, _, rfl⟩
end Go.Proofs.Qxb6603837a
