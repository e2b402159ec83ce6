/- FnBtreeRemoveAnswersMembership. -/
import Derived.Test.Qxb6603837aByt
import Derived.Test.Qxb6603837aShp
namespace Go.Proofs.Qxb6603837a
open Go.RowKit
set_option maxHeartbeats 2000000 in
theorem same16 {x y : Option Addr} {n c d : Nat} {zs : List Int} {w : World} (hx : Rd w x n (zs.map (Value.int .i64))) (hy : Rd w y n (zs.map (Value.int .i64))) (hn : n ≤ 1048576) :
    Calls Try.prog 16 #[.slice x n c, .slice y n d] w fun e w' => e = .returned (.bool true) ∧ Keeps No w w' := by
  have HX : Hid (Rd w x n (zs.map (Value.int .i64))) := hx
  have HY : Hid (Rd w y n (zs.map (Value.int .i64))) := hy
  clear hx hy
  go_enter Try.func16, Try.ntmps16
  go_wp2_with fail
  go_loopg [5] n (fun g s5 wr => ∃ i : Nat, s5 = .int .i64 i ∧ i ≤ n ∧ g = n - i ∧ Hid (Keeps No w wr))
  case atStart => exact ⟨0, rfl, by omega, rfl, Keeps.refl No w⟩
  case round =>
    obtain ⟨i, rfl, hin, rfl, hkw⟩ := hrel
    by_cases hlt : i < n
    · obtain ⟨b, off, rfl, hc⟩ := Rd.at (HX.out.kept hkw.out) (k := i) 0 hlt
      obtain ⟨b', off', rfl, hc'⟩ := Rd.at (HY.out.kept hkw.out) (k := i) 0 hlt
      have c1 := hc i hlt
      have c2 := hc' i hlt
      generalize zs.getD i 0 = u at *
      clear hc hc'
      go_wp2_with fail
      go_quiet (fail)
      go_wp2_with fail
      go_roundg (n - (i + 1))
      case measure => omega
      case rel => exact ⟨i + 1, by go_num, by omega, rfl, hkw.out.drewN _⟩
    · have hi : i = n := by omega
      subst hi
      go_wp2_with fail
      go_ret
      exact ⟨rfl, hkw.out⟩
theorem Keeps.wide {S S' : Nat → Prop} {w w' : World} (k : Keeps S w w') (h : ∀ b, S b → S' b) : Keeps S' w w' := ⟨k.os, k.tape, k.output, k.size, fun b hb hn => k.block b hb (fun hs => hn (h b hs))⟩
theorem Got.sub {F F' : Nat → Prop} {w w' : World} {M : Mm} (g : Got F' w M w') (h : ∀ b, F b → F' b) : Got F w M w' := by
  obtain ⟨⟨V, p⟩, k⟩ := g
  exact ⟨⟨V, p.sub h⟩, k.wide (fun b hb hf => hb (h b hf))⟩
theorem Root.shape_len {M : Mm} {h a : Nat} {xs : List ByteArray} {ad : List Nat} (r : Root M h a xs ad) (hn : xs.length ≤ 16384) : (shK M h a).length ≤ 1048576 ∧ (shS M h a).length ≤ 1048576 := by
  by_cases hx : xs = []
  · subst hx
    cases h with
    | zero =>
      have hm := r.t.1
      have eK : shK M 0 a = [] := by show (Qxb6603837a.nd M a).ks = _; rw [nd_of hm]
      have eS : shS M 0 a = [-1, 0] := by show [-1, ((Qxb6603837a.nd M a).ks.length : Int)] = _; rw [nd_of hm]; rfl
      rw [eK, eS]
      simp
    | succ h =>
      exfalso
      obtain ⟨n, hn', _, h2⟩ := r.own
      have t := r.t
      obtain ⟨ks, cs, _, hm, _, ts⟩ := id t
      rw [hm] at hn'
      cases hn'
      have hlen := ts.len
      have hne : cs ≠ [] := by intro e; subst e; simp at hlen
      have h22 : 2 ≤ cs.length := h2 hne
      have hc := t.count ⟨_, hm, by simp only [Nd.size, if_neg hne]; omega, fun _ => h22⟩
      simp at hc
  · obtain ⟨n, hm, h1, h2⟩ := r.own
    have hz : 1 ≤ n.size := by
      cases h with
      | zero =>
        have := r.t.1
        rw [hm] at this
        cases this
        simp only [Nd.size, if_true]
        exact List.length_pos_iff.2 hx
      | succ h =>
        obtain ⟨ks, cs, _, hm', _, ts⟩ := r.t
        rw [hm] at hm'
        cases hm'
        have hlen := ts.len
        have hne : cs ≠ [] := by intro e; subst e; simp at hlen
        simp only [Nd.size, if_neg hne]
        omega
    have := r.t.shape_len ⟨n, hm, hz, h2⟩
    omega
/-- the shape of a whole tree, laid out anew -/
theorem shapeRoot {F : Nat → Prop} {V : Nat → Value × Value} {M : Mm} {h a : Nat} {xs : List ByteArray} {ad : List Nat} {w : World} (p : PoolV F V w M) (r : Root M h a xs ad) (hn : xs.length ≤ 16384) :
    Calls Try.prog 14 #[ptr a, .slice none 0 0, .slice none 0 0] w fun e w' => ∃ sv tv, e = .returned (.tuple #[sv, tv]) ∧ OwnS w' 3 sv ((shS M h a).map (Value.int .i64)) ∧ OwnS w' 9 tv ((shK M h a).map Value.string) ∧ Keeps No w w' ∧ PoolV (With (With F sv) tv) V w' M := by
  obtain ⟨n, hm, h1, _⟩ := r.own
  obtain ⟨b1, b2⟩ := r.shape_len hn
  have o : OutS2 F V M (.slice none 0 0) [] (.slice none 0 0) [] w (.slice none 0 0) (.slice none 0 0) w :=
    ⟨OwnS.nil _ _, OwnS.nil _ _, Keeps.refl _ _, .inl rfl, .inl rfl, p.sub (fun b hb => by
      rcases hb with (hb | hb) | hb
      · exact hb
      · cases hb
      · cases hb)⟩
  refine (shape_T h o r.t ⟨n, hm, h1⟩ (by simpa using b1) (by simpa using b2)).mono ?_
  rintro e w' ⟨sv, tv, rfl, q⟩
  exact ⟨sv, tv, rfl, by simpa using q.o1, by simpa using q.o2, q.keeps.wide (fun b hb => by rcases hb with hb | hb <;> cases hb), q.pool⟩
set_option maxHeartbeats 4000000 in
set_option maxRecDepth 100000 in
theorem law6 {x : Option Addr} {n c : Nat} {zs : List ByteArray} {pr : ByteArray} {w : World} (hx : Rd w x n (zs.map Value.string)) : Calls Try.prog 6 #[.slice x n c, .string pr] w fun e w' => e = .returned (.bool true) ∧ Keeps No w w' := by
  have hl : zs.length = n := by simpa using hx.1
  have HX : Hid (Rd w x n (zs.map Value.string)) := hx
  have HL : Hid (zs.length = n) := hl
  clear hx hl
  go_enter Try.func6, Try.ntmps6
  go_wp2_with fail
  refine (bytes26 HX.out).mono ?_
  rintro e w' ⟨⟨b, rfl⟩, rfl⟩
  cases b
  · go_wp2_with fail
    go_ret
    exact ⟨rfl, Keeps.refl No w⟩
  · by_cases hn : (16384 : Int) < n
    · go_wp2_with fail
      go_ret
      exact ⟨rfl, Keeps.refl No w⟩
    · by_cases hpr : (1048576 : Int) < pr.size
      · go_wp2_with fail
        go_ret
        exact ⟨rfl, Keeps.refl No w⟩
      · go_wp2_with fail
        refine (keyBytes9 (t0 := pr.size) HX.out (by omega) (by omega)).mono ?_
        rintro e w' ⟨⟨t, rfl⟩, rfl⟩
        by_cases ht : (1048576 : Int) < t
        · go_wp2_with fail
          go_ret
          exact ⟨rfl, Keeps.refl No w⟩
        · go_wp2_with fail
          refine (build10 HX.out (by omega)).mono ?_
          rintro e w1 ⟨M, h, a, ad, mv, rfl, hS⟩
          have hSl : (setOf zs).length ≤ 16384 := by have := setOf_len zs; have := HL.out; omega
          generalize setOf zs = xs at *
          have hH := holds11 hS.pool hS.root hS.own (by omega)
          have HS : Hid (St w w1 M h a xs ad mv xs) := hS
          clear hS
          go_upto_region 12 with (first | (go_at_call 11; refine hH.mono ?_; rintro e w2 ⟨rfl, hk⟩; have HK : Hid (Keeps No w1 w2) := hk; clear hk))
          have HS2 : Hid (St w w2 M h a xs ad mv xs) := HS.out.quiet HK.out
          clear HS HK hH
          obtain ⟨ka, kc, hkv, hrd⟩ := HS2.out.own.rd
          simp only [List.length_map] at hkv hrd
          have hZ := zsearch13 ka xs.length kc xs pr w2 HS2.out.root.asc (by omega) hrd
          rw [← hkv, hit_iff pr xs HS2.out.root.asc] at hZ
          clear hkv hrd
          generalize pos pr xs = ps at *
          go_upto_region 13 with (first | (go_at_call 13; refine hZ.mono ?_; rintro e w3 ⟨rfl, q, rfl⟩))
          have HS3 : Hid (St w (w2.drewN q) M h a xs ad mv xs) := HS2.out.quiet ((Keeps.refl No w2).drewN q)
          clear HS2 hZ
          generalize w2.drewN q = w3 at *
          obtain ⟨V3, p3⟩ := HS3.out.pool
          have hSh := shapeRoot p3 HS3.out.root hSl
          clear p3
          go_upto_region 14 with (first | (go_at_call 14; refine hSh.mono ?_; rintro e w4 ⟨sv, tv, rfl, o1, o2, k4, p4⟩; have H4 : Hid _ := And.intro o1 (And.intro o2 (And.intro k4 p4)); clear o1 o2 k4 p4))
          clear hSh
          have HS4 : Hid (St w w4 M h a xs ad mv xs) := HS3.out.quiet H4.out.2.2.1
          have hG := remRoot23 (key := pr) ⟨V3, H4.out.2.2.2⟩ HS4.out.root
          clear HS3
          go_wp2_with fail
          refine hG.mono ?_
          rintro e w5 ⟨y, rfl, hy, M', ad', hg, hr⟩
          cases hy
          cases hb : has pr xs
          · obtain ⟨rfl, rfl⟩ := hr.no hb
            have hg0 : Got (With (Old w.heap.size) mv) w4 M' w5 := hg.sub (fun b hb => .inl (.inl hb))
            have HS5 : Hid (St w w5 M' h a xs ad' mv xs) := HS4.out.tree hg0 HS4.out.root
            have HO5 : Hid (OwnS w5 3 sv ((shS M' h a).map (Value.int .i64)) ∧ OwnS w5 9 tv ((shK M' h a).map Value.string)) := ⟨H4.out.1.keep hg.2 (fun _ hg hn => hn (.inl (.inr hg))), H4.out.2.1.keep hg.2 (fun _ hg hn => hn (.inr hg))⟩
            have HP5 : Hid (Pool (With (With (With (Old w.heap.size) mv) sv) tv) w5 M') := hg.1
            have hH := holds11 HS5.out.pool HS5.out.root HS5.out.own (by omega)
            clear hg hr hg0 hG H4 HS4
            go_upto_region 20 with (first | (go_at_call 11; refine hH.mono ?_; rintro e w6 ⟨rfl, hk⟩; have HK : Hid (Keeps No w5 w6) := hk; clear hk))
            have HS6 : Hid (St w w6 M' h a xs ad' mv xs) := HS5.out.quiet HK.out
            have HO6 : Hid (OwnS w6 3 sv ((shS M' h a).map (Value.int .i64)) ∧ OwnS w6 9 tv ((shK M' h a).map Value.string)) := ⟨HO5.out.1.keep HK.out (fun _ _ h => h), HO5.out.2.keep HK.out (fun _ _ h => h)⟩
            obtain ⟨V6, p6⟩ := HP5.out
            have hSh := shapeRoot (p6.keep HK.out) HS6.out.root hSl
            obtain ⟨lb1, lb2⟩ := HS6.out.root.shape_len hSl
            clear p6 HS5 HO5 HP5 hH HK
            go_upto_region 21 with (first | (go_at_call 14; refine hSh.mono ?_; rintro e w7 ⟨sv2, tv2, rfl, o1, o2, k7, p7⟩; have H7 : Hid _ := And.intro o1 (And.intro o2 k7); clear o1 o2 k7 p7))
            clear hSh
            have hk7 : Keeps No w6 w7 := H7.out.2.2
            obtain ⟨xa, ca, rfl, ra⟩ := (HO6.out.1.keep hk7 (fun _ _ h => h)).rd
            obtain ⟨xb, cb, rfl, rb⟩ := H7.out.1.rd
            obtain ⟨ya, da, rfl, sa⟩ := (HO6.out.2.keep hk7 (fun _ _ h => h)).rd
            obtain ⟨yb, db, rfl, sb⟩ := H7.out.2.1.rd
            simp only [List.length_map] at ra rb sa sb
            have hI := same16 (c := ca) (d := cb) ra rb lb2
            have hT : ∀ w8, Keeps No w7 w8 → Calls Try.prog 17 #[.slice ya (shK M' h a).length da, .slice yb (shK M' h a).length db] w8 fun e w' => e = .returned (.bool true) ∧ Keeps No w8 w' := fun w8 hk => same17 (sa.kept hk) (sb.kept hk) lb1
            simp only [List.length_map]
            have HKa : Hid (Keeps No w w7) := HS6.out.keeps.tr hk7
            clear ra rb sa sb H7 HO6 HS6 hk7
            go_wp2_with (first | (go_at_call 16; refine hI.mono ?_; rintro e w8 ⟨rfl, hk⟩; have HK8 : Hid (Keeps No w7 w8) := hk; clear hk) | (go_at_call 17; refine (hT _ HK8.out).mono ?_; rintro e w9 ⟨rfl, hk⟩; have HK9 : Hid (Keeps No w8 w9) := hk; clear hk))
            go_ret
            exact ⟨rfl, (HKa.out.tr HK8.out).tr HK9.out⟩
          · have hg0 : Got (With (Old w.heap.size) mv) w4 M' w5 := hg.sub (fun b hb => .inl (.inl hb))
            obtain ⟨V', p'⟩ := hg0.1
            obtain ⟨h', a', ad2, hroot, hshr⟩ := HS4.out.root.removed hr p'
            have HS5 : Hid (St w w5 M' h' a' (remK pr xs) ad2 mv xs) := HS4.out.tree hg0 hroot
            have hMd := modelRemove25 (k := pr) HS5.out.own HS4.out.root.asc (by omega)
            unfold MdlPost at hMd
            have hlr : (remK pr xs).length ≤ 1048576 := by have : (remK pr xs).length ≤ xs.length := List.length_filter_le _ _; omega
            clear hg hr p' hroot hG H4 HS4 hg0
            go_upto_region 24 with (first | (go_at_call 24; refine hshr.mono ?_; rintro e w' ⟨rfl, rfl⟩) | (go_at_call 25; refine hMd.mono ?_; rintro e w6 ⟨mv', rfl, hm⟩; have HM : Hid _ := hm; clear hm))
            have HS6 : Hid (St w w6 M' h' a' (remK pr xs) ad2 mv' (remK pr xs)) := HS5.out.model HM.out
            have hH := holds11 HS6.out.pool HS6.out.root HS6.out.own hlr
            clear HS5 HM hMd hshr
            go_wp2_with (first | (go_at_call 11; refine hH.mono ?_; rintro e w7 ⟨rfl, hk⟩; have HK : Hid (Keeps No w6 w7) := hk; clear hk))
            go_ret
            exact ⟨rfl, HS6.out.keeps.tr HK.out⟩
end Go.Proofs.Qxb6603837a
