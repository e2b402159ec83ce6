import Derived.Test.Qxb6603867aRows
import Derived.Test.Qxb6603867aMem
import Derived.Deep.QuietTactic
import Derived.BigQuiet
import Derived.Outline
namespace Go.Proofs.Qxb6603867a
open Go.RowKit
theorem Try.info21 : (Try.prog.info? 21).map (fun i => (i.zero, i.size, i.bytes)) = some (some (.int .i32 0), 1, 4) := by kernel_rfl
theorem Try.info3 : (Try.prog.info? 3).map (fun i => (i.zero, i.size, i.bytes)) = some (some (.int .i64 0), 1, 8) := by kernel_rfl
theorem Try.info2 : (Try.prog.info? 2).map (fun i => (i.zero, i.size, i.bytes)) = some (some (.int .i64 0), 1, 8) := by kernel_rfl
theorem Try.info9 : (Try.prog.info? 9).map (fun i => (i.zero, i.size, i.bytes)) = some (some (.string ByteArray.empty), 1, 16) := by kernel_rfl
theorem Try.info4 : (Try.prog.info? 4).map (fun i => (i.zero, i.size, i.bytes)) = some (some (.bool false), 1, 1) := by kernel_rfl
/-- a row that is filled from its head on -/
theorem fill_step {cs xs : List Value} {k : Nat} {v : Value} (hl : cs.length = xs.length) (h : ∀ j, j < k → cs[j]? = xs[j]?) (hk : k < xs.length) (hv : xs[k]? = some v) :
    (cs.set k v).length = xs.length ∧ ∀ j, j < k + 1 → (cs.set k v)[j]? = xs[j]? := by
  refine ⟨by simpa using hl, fun j hj => ?_⟩
  by_cases e : j = k
  · subst e; rw [hv, List.getElem?_set_self (by omega)]
  · rw [List.getElem?_set_ne (by omega)]; exact h j (by omega)
theorem fill_end {cs xs : List Value} (hl : cs.length = xs.length) (h : ∀ j, j < xs.length → cs[j]? = xs[j]?) : cs = xs := by
  apply List.ext_getElem?
  intro j
  by_cases e : j < xs.length
  · exact h j e
  · rw [List.getElem?_eq_none (by omega), List.getElem?_eq_none (by omega)]
/-- what each clone does -/
def Cloned (w w' : World) (e : TypeId) (a a' : Option Addr) (n : Nat) (cs : List Value) : Prop :=
  Sl w' w.heap.size e a' n cs ∧ Keeps No w w' ∧ (a' = none ↔ a = none)
set_option maxHeartbeats 1000000 in
theorem cloneI32 (a : Option Addr) (n c : Nat) (zs : List Int) (w : World) (hn : n ≤ 1048576) (h0 : a = none → n = 0) (hr : Rd w a n (zs.map (Value.int .i32))) :
    Calls Try.prog 10 #[.slice a n c] w fun e w' => ∃ a' : Option Addr, e = .returned (.slice a' n n) ∧ Cloned w w' 21 a a' n (zs.map (Value.int .i32)) := by
  have hnil := fun wx => Lib.run_eql_slice_nil (P := Try.prog) wx 22 21 a n c 0 0 Try.underlying22
  obtain ⟨i0, hi, hz0, hz1, hz2⟩ := info_parts Try.info21
  have hlen : zs.length = n := by simpa using hr.1
  cases a with
  | none =>
    obtain rfl := h0 rfl
    simp only [Option.isNone_none] at hnil
    go_enter Try.func10, Try.ntmps10
    go_wp2
    go_ret
    exact ⟨none, rfl, ⟨hr.1, .inl ⟨rfl, rfl⟩⟩, Keeps.refl _ _, by simp⟩
  | some x =>
    simp only [Option.isNone_some] at hnil
    have HL : Hid (zs.length = n) := hlen
    clear hlen h0
    go_enter Try.func10, Try.ntmps10
    go_wp2_with (at_make; refine wpList_make_at _ rfl _ _ 22 rfl 21 i0 (.int .i32 0) 1 4 Try.underlying22 hi hz0 hz1 hz2 .i64 .i64 _ _ n rfl rfl rfl rfl (by omega) (by omega) ?_)
    intro w1 cs hl1 _ hat hk1 hs1
    have hl1 : cs.length = (zs.map (Value.int .i32)).length := by rw [List.length_map, HL.out]; omega
    go_wp2_with fail
    go_loopw [4] (fun i wr => ∃ (k : Nat) (cs : List Value), k ≤ n ∧ i = .int .i64 k ∧ At wr w.heap.size 21 cs ∧ Keeps No w wr ∧ cs.length = (zs.map (Value.int .i32)).length ∧ ∀ j, j < k → cs[j]? = (zs.map (Value.int .i32))[j]?) (fun i _ => n - (intOf i).toNat)
    case atStart => exact ⟨0, cs, Nat.zero_le _, rfl, hat, hk1, hl1, fun j h => absurd h (by omega)⟩
    case round =>
      clear hat hk1 hs1 hl1
      obtain ⟨k, cs, hk, rfl, hat, hkp, hl1, hall⟩ := hrel
      by_cases hlt : k < n
      · obtain ⟨b, off, hx, hc⟩ := (hr.kept hkp).at 0 hlt
        have hck := hc k hlt
        obtain rfl := Option.some.inj hx
        obtain ⟨old, hold⟩ : ∃ v, cs[k]? = some v := by
          rw [List.length_map, HL.out] at hl1
          exact ⟨cs[k], by simp⟩
        have hcw := hat.cell hold
        have hfw := hat.frozen k
        have F := fill_step hl1 hall (by rw [List.length_map, HL.out]; exact hlt) (get_map (Value.int .i32) zs 0 (by rw [HL.out]; exact hlt))
        have HF : Hid _ := F
        have HA : Hid (At (wr.setCell ⟨w.heap.size, k, none⟩ (.int .i32 (zs.getD k 0))) w.heap.size 21 (cs.set k (.int .i32 (zs.getD k 0)))) := hat.set k _
        have HK : Hid (Keeps No w (wr.setCell ⟨w.heap.size, k, none⟩ (.int .i32 (zs.getD k 0)))) := hkp.setCell (fun h => absurd h (Nat.lt_irrefl _)) _
        clear F hc hall hl1 hold hkp hat
        generalize zs.getD k 0 = z at *
        go_wp2_with fail
        go_roundw
        case rel => exact ⟨k + 1, _, by omega, by go_num, HA.out, HK.out, HF.out.1, HF.out.2⟩
        case measure => simp [intOf]; omega
      · have he : cs = zs.map (Value.int .i32) := fill_end hl1 (fun j hj => hall j (by rw [List.length_map, HL.out] at hj; omega))
        go_wp2_with fail
        go_ret
        exact ⟨_, rfl, ⟨hr.1, .inr ⟨_, rfl, Nat.le_refl _, he ▸ hat⟩⟩, hkp, by simp⟩
set_option maxHeartbeats 1000000 in
theorem cloneStr (a : Option Addr) (n c : Nat) (zs : List ByteArray) (w : World) (hn : n ≤ 1048576) (h0 : a = none → n = 0) (hr : Rd w a n (zs.map (Value.string))) :
    Calls Try.prog 15 #[.slice a n c] w fun e w' => ∃ a' : Option Addr, e = .returned (.slice a' n n) ∧ Cloned w w' 9 a a' n (zs.map (Value.string)) := by
  have hnil := fun wx => Lib.run_eql_slice_nil (P := Try.prog) wx 30 9 a n c 0 0 Try.underlying30
  obtain ⟨i0, hi, hz0, hz1, hz2⟩ := info_parts Try.info9
  have hlen : zs.length = n := by simpa using hr.1
  cases a with
  | none =>
    obtain rfl := h0 rfl
    simp only [Option.isNone_none] at hnil
    go_enter Try.func15, Try.ntmps15
    go_wp2
    go_ret
    exact ⟨none, rfl, ⟨hr.1, .inl ⟨rfl, rfl⟩⟩, Keeps.refl _ _, by simp⟩
  | some x =>
    simp only [Option.isNone_some] at hnil
    have HL : Hid (zs.length = n) := hlen
    clear hlen h0
    go_enter Try.func15, Try.ntmps15
    go_wp2_with (at_make; refine wpList_make_at _ rfl _ _ 30 rfl 9 i0 (.string ByteArray.empty) 1 16 Try.underlying30 hi hz0 hz1 hz2 .i64 .i64 _ _ n rfl rfl rfl rfl (by omega) (by omega) ?_)
    intro w1 cs hl1 _ hat hk1 hs1
    have hl1 : cs.length = (zs.map (Value.string)).length := by rw [List.length_map, HL.out]; omega
    go_wp2_with fail
    go_loopw [4] (fun i wr => ∃ (k : Nat) (cs : List Value), k ≤ n ∧ i = .int .i64 k ∧ At wr w.heap.size 9 cs ∧ Keeps No w wr ∧ cs.length = (zs.map (Value.string)).length ∧ ∀ j, j < k → cs[j]? = (zs.map (Value.string))[j]?) (fun i _ => n - (intOf i).toNat)
    case atStart => exact ⟨0, cs, Nat.zero_le _, rfl, hat, hk1, hl1, fun j h => absurd h (by omega)⟩
    case round =>
      clear hat hk1 hs1 hl1
      obtain ⟨k, cs, hk, rfl, hat, hkp, hl1, hall⟩ := hrel
      by_cases hlt : k < n
      · obtain ⟨b, off, hx, hc⟩ := (hr.kept hkp).at ByteArray.empty hlt
        have hck := hc k hlt
        obtain rfl := Option.some.inj hx
        obtain ⟨old, hold⟩ : ∃ v, cs[k]? = some v := by
          rw [List.length_map, HL.out] at hl1
          exact ⟨cs[k], by simp⟩
        have hcw := hat.cell hold
        have hfw := hat.frozen k
        have F := fill_step hl1 hall (by rw [List.length_map, HL.out]; exact hlt) (get_map (Value.string) zs ByteArray.empty (by rw [HL.out]; exact hlt))
        have HF : Hid _ := F
        have HA : Hid (At (wr.setCell ⟨w.heap.size, k, none⟩ (.string (zs.getD k ByteArray.empty))) w.heap.size 9 (cs.set k (.string (zs.getD k ByteArray.empty)))) := hat.set k _
        have HK : Hid (Keeps No w (wr.setCell ⟨w.heap.size, k, none⟩ (.string (zs.getD k ByteArray.empty)))) := hkp.setCell (fun h => absurd h (Nat.lt_irrefl _)) _
        clear F hc hall hl1 hold hkp hat
        generalize zs.getD k ByteArray.empty = z at *
        go_wp2_with fail
        go_roundw
        case rel => exact ⟨k + 1, _, by omega, by go_num, HA.out, HK.out, HF.out.1, HF.out.2⟩
        case measure => simp [intOf]; omega
      · have he : cs = zs.map (Value.string) := fill_end hl1 (fun j hj => hall j (by rw [List.length_map, HL.out] at hj; omega))
        go_wp2_with fail
        go_ret
        exact ⟨_, rfl, ⟨hr.1, .inr ⟨_, rfl, Nat.le_refl _, he ▸ hat⟩⟩, hkp, by simp⟩
set_option maxHeartbeats 1000000 in
theorem cloneInt (a : Option Addr) (n c : Nat) (zs : List Int) (w : World) (hn : n ≤ 1048576) (h0 : a = none → n = 0) (hr : Rd w a n (zs.map (Value.int .i64))) :
    Calls Try.prog 16 #[.slice a n c] w fun e w' => ∃ a' : Option Addr, e = .returned (.slice a' n n) ∧ Cloned w w' 3 a a' n (zs.map (Value.int .i64)) := by
  have hnil := fun wx => Lib.run_eql_slice_nil (P := Try.prog) wx 31 3 a n c 0 0 Try.underlying31
  obtain ⟨i0, hi, hz0, hz1, hz2⟩ := info_parts Try.info3
  have hlen : zs.length = n := by simpa using hr.1
  cases a with
  | none =>
    obtain rfl := h0 rfl
    simp only [Option.isNone_none] at hnil
    go_enter Try.func16, Try.ntmps16
    go_wp2
    go_ret
    exact ⟨none, rfl, ⟨hr.1, .inl ⟨rfl, rfl⟩⟩, Keeps.refl _ _, by simp⟩
  | some x =>
    simp only [Option.isNone_some] at hnil
    have HL : Hid (zs.length = n) := hlen
    clear hlen h0
    go_enter Try.func16, Try.ntmps16
    go_wp2_with (at_make; refine wpList_make_at _ rfl _ _ 31 rfl 3 i0 (.int .i64 0) 1 8 Try.underlying31 hi hz0 hz1 hz2 .i64 .i64 _ _ n rfl rfl rfl rfl (by omega) (by omega) ?_)
    intro w1 cs hl1 _ hat hk1 hs1
    have hl1 : cs.length = (zs.map (Value.int .i64)).length := by rw [List.length_map, HL.out]; omega
    go_wp2_with fail
    go_loopw [4] (fun i wr => ∃ (k : Nat) (cs : List Value), k ≤ n ∧ i = .int .i64 k ∧ At wr w.heap.size 3 cs ∧ Keeps No w wr ∧ cs.length = (zs.map (Value.int .i64)).length ∧ ∀ j, j < k → cs[j]? = (zs.map (Value.int .i64))[j]?) (fun i _ => n - (intOf i).toNat)
    case atStart => exact ⟨0, cs, Nat.zero_le _, rfl, hat, hk1, hl1, fun j h => absurd h (by omega)⟩
    case round =>
      clear hat hk1 hs1 hl1
      obtain ⟨k, cs, hk, rfl, hat, hkp, hl1, hall⟩ := hrel
      by_cases hlt : k < n
      · obtain ⟨b, off, hx, hc⟩ := (hr.kept hkp).at 0 hlt
        have hck := hc k hlt
        obtain rfl := Option.some.inj hx
        obtain ⟨old, hold⟩ : ∃ v, cs[k]? = some v := by
          rw [List.length_map, HL.out] at hl1
          exact ⟨cs[k], by simp⟩
        have hcw := hat.cell hold
        have hfw := hat.frozen k
        have F := fill_step hl1 hall (by rw [List.length_map, HL.out]; exact hlt) (get_map (Value.int .i64) zs 0 (by rw [HL.out]; exact hlt))
        have HF : Hid _ := F
        have HA : Hid (At (wr.setCell ⟨w.heap.size, k, none⟩ (.int .i64 (zs.getD k 0))) w.heap.size 3 (cs.set k (.int .i64 (zs.getD k 0)))) := hat.set k _
        have HK : Hid (Keeps No w (wr.setCell ⟨w.heap.size, k, none⟩ (.int .i64 (zs.getD k 0)))) := hkp.setCell (fun h => absurd h (Nat.lt_irrefl _)) _
        clear F hc hall hl1 hold hkp hat
        generalize zs.getD k 0 = z at *
        go_wp2_with fail
        go_roundw
        case rel => exact ⟨k + 1, _, by omega, by go_num, HA.out, HK.out, HF.out.1, HF.out.2⟩
        case measure => simp [intOf]; omega
      · have he : cs = zs.map (Value.int .i64) := fill_end hl1 (fun j hj => hall j (by rw [List.length_map, HL.out] at hj; omega))
        go_wp2_with fail
        go_ret
        exact ⟨_, rfl, ⟨hr.1, .inr ⟨_, rfl, Nat.le_refl _, he ▸ hat⟩⟩, hkp, by simp⟩
set_option maxHeartbeats 1000000 in
theorem cloneI64 (a : Option Addr) (n c : Nat) (zs : List Int) (w : World) (hn : n ≤ 1048576) (h0 : a = none → n = 0) (hr : Rd w a n (zs.map (Value.int .i64))) :
    Calls Try.prog 17 #[.slice a n c] w fun e w' => ∃ a' : Option Addr, e = .returned (.slice a' n n) ∧ Cloned w w' 2 a a' n (zs.map (Value.int .i64)) := by
  have hnil := fun wx => Lib.run_eql_slice_nil (P := Try.prog) wx 32 2 a n c 0 0 Try.underlying32
  obtain ⟨i0, hi, hz0, hz1, hz2⟩ := info_parts Try.info2
  have hlen : zs.length = n := by simpa using hr.1
  cases a with
  | none =>
    obtain rfl := h0 rfl
    simp only [Option.isNone_none] at hnil
    go_enter Try.func17, Try.ntmps17
    go_wp2
    go_ret
    exact ⟨none, rfl, ⟨hr.1, .inl ⟨rfl, rfl⟩⟩, Keeps.refl _ _, by simp⟩
  | some x =>
    simp only [Option.isNone_some] at hnil
    have HL : Hid (zs.length = n) := hlen
    clear hlen h0
    go_enter Try.func17, Try.ntmps17
    go_wp2_with (at_make; refine wpList_make_at _ rfl _ _ 32 rfl 2 i0 (.int .i64 0) 1 8 Try.underlying32 hi hz0 hz1 hz2 .i64 .i64 _ _ n rfl rfl rfl rfl (by omega) (by omega) ?_)
    intro w1 cs hl1 _ hat hk1 hs1
    have hl1 : cs.length = (zs.map (Value.int .i64)).length := by rw [List.length_map, HL.out]; omega
    go_wp2_with fail
    go_loopw [4] (fun i wr => ∃ (k : Nat) (cs : List Value), k ≤ n ∧ i = .int .i64 k ∧ At wr w.heap.size 2 cs ∧ Keeps No w wr ∧ cs.length = (zs.map (Value.int .i64)).length ∧ ∀ j, j < k → cs[j]? = (zs.map (Value.int .i64))[j]?) (fun i _ => n - (intOf i).toNat)
    case atStart => exact ⟨0, cs, Nat.zero_le _, rfl, hat, hk1, hl1, fun j h => absurd h (by omega)⟩
    case round =>
      clear hat hk1 hs1 hl1
      obtain ⟨k, cs, hk, rfl, hat, hkp, hl1, hall⟩ := hrel
      by_cases hlt : k < n
      · obtain ⟨b, off, hx, hc⟩ := (hr.kept hkp).at 0 hlt
        have hck := hc k hlt
        obtain rfl := Option.some.inj hx
        obtain ⟨old, hold⟩ : ∃ v, cs[k]? = some v := by
          rw [List.length_map, HL.out] at hl1
          exact ⟨cs[k], by simp⟩
        have hcw := hat.cell hold
        have hfw := hat.frozen k
        have F := fill_step hl1 hall (by rw [List.length_map, HL.out]; exact hlt) (get_map (Value.int .i64) zs 0 (by rw [HL.out]; exact hlt))
        have HF : Hid _ := F
        have HA : Hid (At (wr.setCell ⟨w.heap.size, k, none⟩ (.int .i64 (zs.getD k 0))) w.heap.size 2 (cs.set k (.int .i64 (zs.getD k 0)))) := hat.set k _
        have HK : Hid (Keeps No w (wr.setCell ⟨w.heap.size, k, none⟩ (.int .i64 (zs.getD k 0)))) := hkp.setCell (fun h => absurd h (Nat.lt_irrefl _)) _
        clear F hc hall hl1 hold hkp hat
        generalize zs.getD k 0 = z at *
        go_wp2_with fail
        go_roundw
        case rel => exact ⟨k + 1, _, by omega, by go_num, HA.out, HK.out, HF.out.1, HF.out.2⟩
        case measure => simp [intOf]; omega
      · have he : cs = zs.map (Value.int .i64) := fill_end hl1 (fun j hj => hall j (by rw [List.length_map, HL.out] at hj; omega))
        go_wp2_with fail
        go_ret
        exact ⟨_, rfl, ⟨hr.1, .inr ⟨_, rfl, Nat.le_refl _, he ▸ hat⟩⟩, hkp, by simp⟩
set_option maxHeartbeats 1000000 in
theorem sameI32 (a1 a2 : Option Addr) (n c1 c2 : Nat) (zs : List Int) (w : World) (hn : n ≤ 1048576) (h1 : Rd w a1 n (zs.map (Value.int .i32))) (h2 : Rd w a2 n (zs.map (Value.int .i32))) :
    Calls Try.prog 12 #[.slice a1 n c1, .slice a2 n c2] w fun e w' => e = .returned (.bool true) ∧ Keeps No w w' := by
  go_enter Try.func12, Try.ntmps12
  go_wp2
  go_loopw [5] (fun i wr => ∃ k : Nat, k ≤ n ∧ i = .int .i64 k ∧ ∃ m, wr = w.drewN m) (fun i _ => n - (intOf i).toNat)
  case atStart => exact ⟨0, Nat.zero_le _, rfl, 0, rfl⟩
  case round =>
    obtain ⟨k, hk, rfl, m, rfl⟩ := hrel
    by_cases hlt : k < n
    · obtain ⟨b1, o1, rfl, q1⟩ := h1.at 0 hlt
      obtain ⟨b2, o2, rfl, q2⟩ := h2.at 0 hlt
      have q1 := q1 k hlt
      have q2 := q2 k hlt
      clear h1 h2
      generalize zs.getD k 0 = x at *
      go_wp2
      go_quiet (fail)
      go_wp2
      go_roundw
      case rel => exact ⟨k + 1, by omega, by go_num, _, rfl⟩
      case measure => simp [intOf]; omega
    · go_wp2
      go_ret
      exact ⟨rfl, (Keeps.refl _ _).drewN _⟩
set_option maxHeartbeats 1000000 in
theorem sameInt (a1 a2 : Option Addr) (n c1 c2 : Nat) (zs : List Int) (w : World) (hn : n ≤ 1048576) (h1 : Rd w a1 n (zs.map (Value.int .i64))) (h2 : Rd w a2 n (zs.map (Value.int .i64))) :
    Calls Try.prog 19 #[.slice a1 n c1, .slice a2 n c2] w fun e w' => e = .returned (.bool true) ∧ Keeps No w w' := by
  go_enter Try.func19, Try.ntmps19
  go_wp2
  go_loopw [5] (fun i wr => ∃ k : Nat, k ≤ n ∧ i = .int .i64 k ∧ ∃ m, wr = w.drewN m) (fun i _ => n - (intOf i).toNat)
  case atStart => exact ⟨0, Nat.zero_le _, rfl, 0, rfl⟩
  case round =>
    obtain ⟨k, hk, rfl, m, rfl⟩ := hrel
    by_cases hlt : k < n
    · obtain ⟨b1, o1, rfl, q1⟩ := h1.at 0 hlt
      obtain ⟨b2, o2, rfl, q2⟩ := h2.at 0 hlt
      have q1 := q1 k hlt
      have q2 := q2 k hlt
      clear h1 h2
      generalize zs.getD k 0 = x at *
      go_wp2
      go_quiet (fail)
      go_wp2
      go_roundw
      case rel => exact ⟨k + 1, by omega, by go_num, _, rfl⟩
      case measure => simp [intOf]; omega
    · go_wp2
      go_ret
      exact ⟨rfl, (Keeps.refl _ _).drewN _⟩
set_option maxHeartbeats 1000000 in
theorem sameI64 (a1 a2 : Option Addr) (n c1 c2 : Nat) (zs : List Int) (w : World) (hn : n ≤ 1048576) (h1 : Rd w a1 n (zs.map (Value.int .i64))) (h2 : Rd w a2 n (zs.map (Value.int .i64))) :
    Calls Try.prog 20 #[.slice a1 n c1, .slice a2 n c2] w fun e w' => e = .returned (.bool true) ∧ Keeps No w w' := by
  go_enter Try.func20, Try.ntmps20
  go_wp2
  go_loopw [5] (fun i wr => ∃ k : Nat, k ≤ n ∧ i = .int .i64 k ∧ ∃ m, wr = w.drewN m) (fun i _ => n - (intOf i).toNat)
  case atStart => exact ⟨0, Nat.zero_le _, rfl, 0, rfl⟩
  case round =>
    obtain ⟨k, hk, rfl, m, rfl⟩ := hrel
    by_cases hlt : k < n
    · obtain ⟨b1, o1, rfl, q1⟩ := h1.at 0 hlt
      obtain ⟨b2, o2, rfl, q2⟩ := h2.at 0 hlt
      have q1 := q1 k hlt
      have q2 := q2 k hlt
      clear h1 h2
      generalize zs.getD k 0 = x at *
      go_wp2
      go_quiet (fail)
      go_wp2
      go_roundw
      case rel => exact ⟨k + 1, by omega, by go_num, _, rfl⟩
      case measure => simp [intOf]; omega
    · go_wp2
      go_ret
      exact ⟨rfl, (Keeps.refl _ _).drewN _⟩
end Go.Proofs.Qxb6603867a
