/- FnBtreeScriptMatchesSortedSet. -/
import Derived.Test.Qxb6603837aScr
namespace Go.Proofs.Qxb6603837a
open Go.RowKit
/-- the set that a script leaves -/
def ran (zs : List (Bool × ByteArray)) : List ByteArray := zs.foldl (fun acc u => if u.1 then insK u.2 acc else remK u.2 acc) []
theorem ran_snoc (zs : List (Bool × ByteArray)) (u : Bool × ByteArray) : ran (zs ++ [u]) = if u.1 then insK u.2 (ran zs) else remK u.2 (ran zs) := by simp [ran]
theorem ran_fold_len : ∀ (zs : List (Bool × ByteArray)) (acc : List ByteArray), (zs.foldl (fun acc u => if u.1 then insK u.2 acc else remK u.2 acc) acc).length ≤ acc.length + zs.length
  | [], acc => by simp
  | ⟨b, k⟩ :: zs, acc => by
    have h1 := ran_fold_len zs (if b then insK k acc else remK k acc)
    have h2 := insK_le k acc
    have h3 : (remK k acc).length ≤ acc.length := List.length_filter_le _ _
    simp only [List.foldl_cons, List.length_cons]
    cases b <;> simp only [if_true, Bool.false_eq_true, if_false] at h1 ⊢ <;> omega
theorem ran_len (zs : List (Bool × ByteArray)) : (ran zs).length ≤ zs.length := by have := ran_fold_len zs []; simpa [ran] using this
set_option maxHeartbeats 4000000 in
set_option maxRecDepth 100000 in
theorem law5 {x : Option Addr} {n c : Nat} {zs : List (Bool × ByteArray)} {w : World} (hx : RdS w x n zs) : Calls Try.prog 5 #[.slice x n c] w fun e w' => e = .returned (.bool true) ∧ Keeps No w w' := by
  have hl : zs.length = n := hx.1
  have HX : Hid (RdS w x n zs) := hx
  have HL : Hid (zs.length = n) := hl
  clear hx hl
  go_enter Try.func5, Try.ntmps5
  go_wp2_with fail
  refine (bytes20 HX.out).mono ?_
  rintro e w' ⟨⟨b, rfl⟩, rfl⟩
  cases b
  · go_wp2_with fail
    go_ret
    exact ⟨rfl, Keeps.refl No w⟩
  · by_cases hn : (16384 : Int) < n
    · go_wp2_with fail
      go_ret
      exact ⟨rfl, Keeps.refl No w⟩
    · go_wp2_with fail
      go_loopg [3, 4] n (fun g s3 s4 wr => ∃ (i t : Nat), s3 = .int .i64 t ∧ s4 = .int .i64 i ∧ i ≤ n ∧ t ≤ 1048576 ∧ g = n - i ∧ w = wr)
      case atStart => exact ⟨0, 0, by go_num, rfl, by omega, by omega, rfl, rfl⟩
      case round =>
        obtain ⟨i, t, rfl, rfl, hin, ht, rfl, rfl⟩ := hrel
        by_cases hlt : i < n
        · obtain ⟨b, off, ⟨ins, key⟩, rfl, _, c0, c1⟩ := HX.out.at hlt
          simp only [] at c0 c1
          by_cases h1 : (1048576 : Int) < key.size
          · go_wp2_with fail
            go_ret
            exact ⟨rfl, Keeps.refl No w⟩
          · by_cases h2 : (1048576 : Int) < (t : Int) + (key.size + 24)
            · go_wp2_with fail
              go_ret
              exact ⟨rfl, Keeps.refl No w⟩
            · go_wp2_with fail
              go_roundg (n - (i + 1))
              case measure => omega
              case rel => exact ⟨i + 1, t + (key.size + 24), by go_num, by go_num, by omega, by omega, rfl, rfl⟩
        · have hi : i = n := by omega
          subst hi
          have hN := newLeaf21 w
          go_wp2_with (first | (go_at_call 21; refine hN.mono ?_; rintro e w1 ⟨r, nv, rfl, hnn⟩; have HS0 : Hid _ := St.new hnn; clear hnn))
          clear hN
          go_loopg [5, 6, 7] i (fun g s5 s6 s7 wx => ∃ (j : Nat) (M : Mm) (h a : Nat) (ad : List Nat) (mv : Value), s5 = ptr a ∧ mv = s6 ∧ s7 = .int .i64 j ∧ j ≤ i ∧ g = i - j ∧ Hid (St w wx M h a (ran (zs.take j)) ad mv (ran (zs.take j))))
          case atStart => exact ⟨0, _, _, _, _, _, rfl, rfl, rfl, by omega, rfl, HS0.out⟩
          case round =>
            obtain ⟨j, M, h, a, ad, mv, rfl, rfl, rfl, hjn, rfl, hS⟩ := hrel
            by_cases hlt2 : j < i
            · obtain ⟨b, off, ⟨ins, key⟩, rfl, hu, c0, c1⟩ := HX.out.at hlt2
              simp only [] at c0 c1
              have d0 := hS.out.keeps.cell c0 (fun h => h)
              have d1 := hS.out.keeps.cell c1 (fun h => h)
              have hset : ran (zs.take (j + 1)) = if ins then insK key (ran (zs.take j)) else remK key (ran (zs.take j)) := by rw [take_snoc hu, ran_snoc]
              have hlen : (ran (zs.take j)).length ≤ 1000000 := by
                have h1 := ran_len (zs.take j)
                simp at h1
                omega
              clear hu c0 c1
              generalize ran (zs.take j) = xs at *
              cases ins
              · simp only [Bool.false_eq_true, if_false] at hset
                have HSet : Hid _ := hset
                have hG := remRoot23 (key := key) hS.out.pool hS.out.root
                clear hset
                go_wp2_with fail
                refine hG.mono ?_
                rintro e w3 ⟨y, rfl, hy, M', ad', hg, hr⟩
                cases hy
                obtain ⟨V', p'⟩ := hg.1
                obtain ⟨h', a', ad2, hroot, hshr⟩ := hS.out.root.removed hr p'
                have HS2 : Hid (St w w3 M' h' a' (remK key xs) ad2 mv xs) := hS.out.tree hg hroot
                have hMd := modelRemove25 (k := key) HS2.out.own hS.out.root.asc hlen
                unfold MdlPost at hMd
                clear hg hr p' hroot hG
                generalize has key xs = bb at *
                go_wp2_with (first | (go_at_call 24; refine hshr.mono ?_; rintro e w' ⟨rfl, rfl⟩) | (go_at_call 25; refine hMd.mono ?_; rintro e w4 ⟨mv', rfl, hm⟩; have HM : Hid _ := hm; clear hm))
                go_roundg (i - (j + 1))
                case measure => omega
                case rel =>
                  refine ⟨j + 1, M', h', a', ad2, mv', rfl, rfl, by go_num, by omega, rfl, ?_⟩
                  rw [HSet.out]
                  exact HS2.out.model HM.out
              · simp only [if_true] at hset
                have HSet : Hid _ := hset
                have hG := grow22 (key := key) hS.out.pool hS.out.root
                unfold GrowPost at hG
                clear hset
                go_upto_region 24 with (first | (go_at_call 22; refine hG.mono ?_; rintro e w2 ⟨M', h', a', ad', rfl, hg, hr⟩; have HG : Hid _ := And.intro hg hr; clear hg hr))
                have HS2 : Hid _ := hS.out.tree HG.out.1 HG.out.2
                have hMd := modelInsert19 (k := key) HS2.out.own hS.out.root.asc hlen
                unfold MdlPost at hMd
                clear HG hG
                generalize has key xs = bb at *
                go_wp2_with (first | (go_at_call 19; refine hMd.mono ?_; rintro e w3 ⟨mv', rfl, hm⟩; have HM : Hid _ := hm; clear hm))
                go_roundg (i - (j + 1))
                case measure => omega
                case rel =>
                  refine ⟨j + 1, M', h', a', ad', mv', rfl, rfl, by go_num, by omega, rfl, ?_⟩
                  rw [HSet.out]
                  exact HS2.out.model HM.out
            · have hji : j = i := by omega
              subst hji
              have hlen : (ran (zs.take j)).length ≤ 1048576 := by
                have h1 := ran_len (zs.take j)
                simp at h1
                omega
              have hH := holds11 hS.out.pool hS.out.root hS.out.own hlen
              go_wp2_with (first | (go_at_call 11; refine hH.mono ?_; rintro e w2 ⟨rfl, hk⟩; have HK : Hid (Keeps No wr w2) := hk; clear hk))
              go_ret
              exact ⟨rfl, hS.out.keeps.tr HK.out⟩
end Go.Proofs.Qxb6603837a
