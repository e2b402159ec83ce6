/- FnBtreeRemoveEveryKeyEmptiesTree. -/
import Derived.Test.Qxb6603837aByt
namespace Go.Proofs.Qxb6603837a
open Go.RowKit
def remAll (xs ks : List ByteArray) : List ByteArray := ks.foldl (fun acc k => remK k acc) xs
theorem remAll_snoc (xs ks : List ByteArray) (k : ByteArray) : remAll xs (ks ++ [k]) = remK k (remAll xs ks) := by simp [remAll]
theorem mem_remAll {x : ByteArray} : ∀ {ks xs : List ByteArray}, x ∈ remAll xs ks → x ∈ xs ∧ x ∉ ks
  | [], xs, h => ⟨h, by simp⟩
  | k :: ks, xs, h => by
    have h' : x ∈ remAll (remK k xs) ks := h
    obtain ⟨h1, h2⟩ := mem_remAll h'
    obtain ⟨h3, h4⟩ := mem_remK.1 h1
    exact ⟨h3, by simp [h4, h2]⟩
theorem mem_foldl_ins {x : ByteArray} : ∀ {zs acc : List ByteArray}, x ∈ zs.foldl (fun acc k => insK k acc) acc → x ∈ acc ∨ x ∈ zs
  | [], acc, h => .inl h
  | z :: zs, acc, h => by
    rcases mem_foldl_ins (zs := zs) h with h | h
    · rcases mem_insK.1 h with h | h
      · exact .inr (by simp [h])
      · exact .inl h
    · exact .inr (by simp [h])
theorem mem_setOf {x : ByteArray} {zs : List ByteArray} (h : x ∈ setOf zs) : x ∈ zs := by
  rcases mem_foldl_ins h with h | h
  · cases h
  · exact h
theorem remAll_setOf (zs : List ByteArray) : remAll (setOf zs) zs = [] := by
  cases h : remAll (setOf zs) zs with
  | nil => rfl
  | cons x xs =>
    have hx : x ∈ remAll (setOf zs) zs := by rw [h]; simp
    obtain ⟨h1, h2⟩ := mem_remAll hx
    exact absurd (mem_setOf h1) h2
theorem remAll_len : ∀ (ks xs : List ByteArray), (remAll xs ks).length ≤ xs.length
  | [], _ => Nat.le_refl _
  | k :: ks, xs => Nat.le_trans (remAll_len ks (remK k xs)) (List.length_filter_le _ _)
theorem Root.empty {M : Mm} {h a : Nat} {ad : List Nat} (r : Root M h a [] ad) : M a = some ⟨[], []⟩ := by
  cases h with
  | zero => exact r.t.1
  | succ h =>
    obtain ⟨n, hn', _, h2⟩ := r.own
    have t := r.t
    obtain ⟨ks, cs, _, hm, _, ts⟩ := id t
    rw [hm] at hn'
    cases hn'
    have hlen := ts.len
    have hne : cs ≠ [] := by intro e; subst e; simp at hlen
    have h22 : 2 ≤ cs.length := h2 hne
    have hc := t.count ⟨_, hm, by simp only [Nd.size, if_neg hne]; omega, fun _ => h22⟩
    simp at hc
set_option maxHeartbeats 2000000 in
set_option maxRecDepth 100000 in
theorem law7 {x : Option Addr} {n c : Nat} {zs : List ByteArray} {w : World} (hx : Rd w x n (zs.map Value.string)) : Calls Try.prog 7 #[.slice x n c] w fun e w' => e = .returned (.bool true) ∧ Keeps No w w' := by
  have hl : zs.length = n := by simpa using hx.1
  have HX : Hid (Rd w x n (zs.map Value.string)) := hx
  have HL : Hid (zs.length = n) := hl
  clear hx hl
  go_enter Try.func7, Try.ntmps7
  go_wp2_with fail
  refine (bytes27 HX.out).mono ?_
  rintro e w' ⟨⟨b, rfl⟩, rfl⟩
  cases b
  · go_wp2_with fail
    go_ret
    exact ⟨rfl, Keeps.refl No w⟩
  · by_cases hn : (16384 : Int) < n
    · go_wp2_with fail
      go_ret
      exact ⟨rfl, Keeps.refl No w⟩
    · go_wp2_with fail
      refine (keyBytes9 (t0 := 0) HX.out (by omega) (by omega)).mono ?_
      rintro e w' ⟨⟨t, rfl⟩, rfl⟩
      by_cases ht : (1048576 : Int) < t
      · go_wp2_with fail
        go_ret
        exact ⟨rfl, Keeps.refl No w⟩
      · go_wp2_with fail
        refine (build10 HX.out (by omega)).mono ?_
        rintro e w1 ⟨M, h, a, ad, mv, rfl, hS⟩
        have hSl := setOf_len zs
        have hH := holds11 hS.pool hS.root hS.own (by have := HL.out; omega)
        have HS : Hid (St w w1 M h a (setOf zs) ad mv (setOf zs)) := hS
        clear hS
        go_wp2_with (first | (go_at_call 11; refine hH.mono ?_; rintro e w2 ⟨rfl, hk⟩; have HK : Hid (Keeps No w1 w2) := hk; clear hk))
        go_loopg [3, 4, 6] n (fun g s3 s4 s6 wr => ∃ (i : Nat) (M : Mm) (h a : Nat) (ad : List Nat) (mv : Value), s3 = ptr a ∧ mv = s4 ∧ s6 = .int .i64 i ∧ i ≤ n ∧ g = n - i ∧ Hid (St w wr M h a (remAll (setOf zs) (zs.take i)) ad mv (remAll (setOf zs) (zs.take i))))
        case atStart => exact ⟨0, _, _, _, _, _, rfl, rfl, rfl, by omega, rfl, HS.out.quiet HK.out⟩
        case round =>
          obtain ⟨i, M, h, a, ad, mv, rfl, rfl, rfl, hin, rfl, hS⟩ := hrel
          by_cases hlt : i < n
          · obtain ⟨b, off, rfl, hc⟩ := Rd.at HX.out (k := i) ByteArray.empty hlt
            have c0 := hc i hlt
            obtain ⟨key, hkey⟩ : ∃ key, zs.getD i ByteArray.empty = key := ⟨_, rfl⟩
            rw [hkey] at c0
            have c1 := hS.out.keeps.cell c0 (fun h => h)
            have hget : zs[i]? = some key := by have hj : i < zs.length := (by rw [HL.out]; exact hlt); rw [← hkey]; simp [List.getD, hj]
            have hset : remAll (setOf zs) (zs.take (i + 1)) = remK key (remAll (setOf zs) (zs.take i)) := by rw [take_snoc hget, remAll_snoc]
            have hlen : (remAll (setOf zs) (zs.take i)).length ≤ 1000000 := by
              have h1 := remAll_len (zs.take i) (setOf zs)
              have h2 := HL.out
              omega
            have hG := remRoot23 (key := key) hS.out.pool hS.out.root
            have HSet : Hid _ := hset
            clear hc hkey hget hset hH
            generalize remAll (setOf zs) (zs.take i) = xs at *
            go_wp2_with fail
            refine hG.mono ?_
            rintro e w3 ⟨y, rfl, hy, M', ad', hg, hr⟩
            cases hy
            obtain ⟨V', p'⟩ := hg.1
            obtain ⟨h', a', ad2, hroot, hshr⟩ := hS.out.root.removed hr p'
            have HS2 : Hid (St w w3 M' h' a' (remK key xs) ad2 mv xs) := hS.out.tree hg hroot
            have c2 := HS2.out.keeps.cell c0 (fun h => h)
            have hMd := modelRemove25 (k := key) HS2.out.own hS.out.root.asc hlen
            unfold MdlPost at hMd
            clear hg hr p' hroot hG
            generalize has key xs = bb at *
            go_wp2_with (first | (go_at_call 24; refine hshr.mono ?_; rintro e w' ⟨rfl, rfl⟩) | (go_at_call 25; refine hMd.mono ?_; rintro e w4 ⟨mv', rfl, hm⟩; have HM : Hid _ := hm; clear hm))
            go_roundg (n - (i + 1))
            case measure => omega
            case rel =>
              refine ⟨i + 1, M', h', a', ad2, mv', rfl, rfl, by go_num, by omega, rfl, ?_⟩
              rw [HSet.out]
              exact HS2.out.model HM.out
          · have hi : i = n := by omega
            subst hi
            have htk : zs.take zs.length = zs := List.take_of_length_le (Nat.le_refl _)
            rw [HL.out] at htk
            rw [htk, remAll_setOf] at hS
            obtain ⟨V', p'⟩ := hS.out.pool
            have hm := hS.out.root.empty
            have na := p'.node a _ hm
            have hlf := isLeaf28 na
            have hk := keys29 na
            have hlf' : (Nd.mk [] []).leaf? = true := rfl
            rw [hlf'] at hlf
            obtain ⟨x1, c1, e1, _⟩ := na.keys.rd
            rw [e1] at hk
            obtain ⟨x2, c2, rfl, _⟩ := hS.out.own.rd
            simp only [List.map_nil, List.length_nil] at hk
            simp only [List.map_nil, List.length_nil]
            have HK9 : Hid (Keeps No w wr) := hS.out.keeps
            clear hS na p' hm hH
            go_wp2_with (first | (go_at_call 28; refine hlf.mono ?_; rintro e w' ⟨rfl, rfl⟩) | (go_at_call 29; refine hk.mono ?_; rintro e w' ⟨rfl, rfl⟩))
            go_ret
            exact ⟨rfl, HK9.out⟩
end Go.Proofs.Qxb6603837a
