/- zzCheck: a sound tree is found sound. -/
import Derived.Test.Qxb6603837aRoot
import Derived.BigQuiet
namespace Go.Proofs.Qxb6603837a
open Go.RowKit
def bd (b : Bool) (s : ByteArray) : Option ByteArray := if b then some s else none
def ChkPost (h : Nat) (w : World) (e : Ending) (w' : World) : Prop := e = .returned (.tuple #[.bool true, .int .i64 ((h : Int) + 1)]) ∧ Keeps No w w'
section
variable {F : Nat → Prop} {V : Nat → Value × Value} {M : Mm} {a : Nat} {xs : List ByteArray} {ad : List Nat} {w : World} {hl hh isRoot : Bool} {ls hs : ByteArray} {d : Nat}
set_option maxHeartbeats 4000000 in
set_option maxRecDepth 100000 in
theorem check_leaf (p : PoolV F V w M) (t : T M 0 (bd hl ls) (bd hh hs) a xs ad) (hz : xs.length ≤ 64) (hr : isRoot = false → 32 ≤ xs.length) (hd : d ≤ 40) :
    Calls Try.prog 30 #[ptr a, .bool isRoot, .bool hl, .string ls, .bool hh, .string hs, .int .i64 d] w (ChkPost 0 w) := by
  have na := p.node a _ t.1
  have hasc : Asc xs := t.2.2.1
  have hbd := t.2.2.2
  have hk := keys29 na
  have hlf := isLeaf28 na
  have hlf' : (Nd.mk xs []).leaf? = true := rfl
  rw [hlf'] at hlf
  obtain ⟨ka, kc, hkv, hrd⟩ := na.keys.rd
  simp only [List.length_map] at hkv hrd
  rw [hkv] at hk
  have HA : Hid (Asc xs) := hasc
  have HB : Hid _ := hbd
  have HR : Hid (Rd w ka xs.length (xs.map Value.string)) := hrd
  have hrr : (isRoot = true) ∨ (isRoot = false ∧ 32 ≤ xs.length) := by cases isRoot <;> simp_all
  clear hasc hbd hrd hkv na p t hr
  generalize hn : xs.length = n at *
  have HL : Hid (xs.length = n) := hn
  clear hn
  unfold ChkPost
  have h64 : ¬ (n : Int) > 64 := by omega
  rcases hrr with rfl | ⟨rfl, h32⟩
  all_goals
    (go_enter Try.func30, Try.ntmps30
     go_wp2_with (first | (go_at_call 29; refine hk.mono ?_; rintro e w' ⟨rfl, rfl⟩) | (go_at_call 28; refine hlf.mono ?_; rintro e w' ⟨rfl, rfl⟩))
     go_loopg [17] n (fun g s17 wr => ∃ i : Nat, s17 = .int .i64 i ∧ i ≤ n ∧ g = n - i ∧ Hid (Keeps No w wr))
     case atStart => exact ⟨0, rfl, by omega, rfl, Keeps.refl No w⟩
     case round =>
       obtain ⟨i, rfl, hin, rfl, hkw⟩ := hrel
       by_cases hlt : i < n
       · obtain ⟨b, off, rfl, hc⟩ := Rd.at (HR.out.kept hkw.out) (k := i) ByteArray.empty hlt
         have cm := hc i hlt
         obtain ⟨y, hy⟩ : ∃ y, xs.getD i ByteArray.empty = y := ⟨_, rfl⟩
         rw [hy] at cm
         have hget : xs[i]? = some y := by rw [← hy]; simp [List.getD, HL.out, hlt]
         have hyb := HB.out y (List.mem_of_getElem? hget)
         have hlo : hl = true → Op.bytesLess y.toList ls.toList = false := fun h => hyb.1 ls (by simp [bd, h])
         have hhi : hh = true → Op.bytesLess y.toList hs.toList = true := fun h => hyb.2 hs (by simp [bd, h])
         clear hyb hy
         rcases Nat.eq_zero_or_pos i with h0 | hpos
         · subst h0
           rw [Nat.add_zero] at cm
           clear hc hget
           cases hl <;> cases hh <;> simp only [forall_const, false_implies, reduceCtorEq] at hlo hhi
           all_goals
             (go_wp2_with fail
              go_quiet (fail)
              go_wp2_with fail
              go_roundg (n - 1)
              case measure => omega
              case rel => exact ⟨1, rfl, by omega, rfl, hkw.out.drewN _⟩)
         · obtain ⟨j, rfl⟩ : ∃ j, i = j + 1 := ⟨i - 1, by omega⟩
           have cm' := hc j (by omega)
           obtain ⟨x, hx⟩ : ∃ x, xs.getD j ByteArray.empty = x := ⟨_, rfl⟩
           rw [hx] at cm'
           have hget' : xs[j]? = some x := by have hj : j < xs.length := (by rw [HL.out]; omega); rw [← hx]; simp [List.getD, hj]
           have hxy : Op.bytesLess x.toList y.toList = true := asc_get HA.out hget' hget (by omega)
           clear hc hx hget' hget
           cases hl <;> cases hh <;> simp only [forall_const, false_implies, reduceCtorEq] at hlo hhi
           all_goals
             (go_wp2_with fail
              go_quiet (fail)
              go_wp2_with fail
              go_roundg (n - (j + 2))
              case measure => omega
              case rel => exact ⟨j + 2, by go_num, by omega, rfl, hkw.out.drewN _⟩)
       · have hi : i = n := by omega
         subst hi
         go_wp2_with fail
         go_ret2
         exact ⟨rfl, hkw.out⟩)
end
end Go.Proofs.Qxb6603837a
