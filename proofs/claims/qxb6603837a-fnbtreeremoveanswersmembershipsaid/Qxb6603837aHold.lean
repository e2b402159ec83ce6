/- zzSameStrings, zzHolds. -/
import Derived.Test.Qxb6603837aMdl
import Derived.Test.Qxb6603837aChk2
namespace Go.Proofs.Qxb6603837a
open Go.RowKit
set_option maxHeartbeats 2000000 in
theorem same17 {x y : Option Addr} {n c d : Nat} {zs : List ByteArray} {w : World} (hx : Rd w x n (zs.map Value.string)) (hy : Rd w y n (zs.map Value.string)) (hn : n ≤ 1048576) :
    Calls Try.prog 17 #[.slice x n c, .slice y n d] w fun e w' => e = .returned (.bool true) ∧ Keeps No w w' := by
  have HX : Hid (Rd w x n (zs.map Value.string)) := hx
  have HY : Hid (Rd w y n (zs.map Value.string)) := hy
  clear hx hy
  go_enter Try.func17, Try.ntmps17
  go_wp2_with fail
  go_loopg [5] n (fun g s5 wr => ∃ i : Nat, s5 = .int .i64 i ∧ i ≤ n ∧ g = n - i ∧ Hid (Keeps No w wr))
  case atStart => exact ⟨0, rfl, by omega, rfl, Keeps.refl No w⟩
  case round =>
    obtain ⟨i, rfl, hin, rfl, hkw⟩ := hrel
    by_cases hlt : i < n
    · obtain ⟨b, off, rfl, hc⟩ := Rd.at (HX.out.kept hkw.out) (k := i) ByteArray.empty hlt
      obtain ⟨b', off', rfl, hc'⟩ := Rd.at (HY.out.kept hkw.out) (k := i) ByteArray.empty hlt
      have c1 := hc i hlt
      have c2 := hc' i hlt
      generalize zs.getD i ByteArray.empty = u at *
      clear hc hc'
      go_wp2_with fail
      go_quiet (fail)
      go_wp2_with fail
      go_roundg (n - (i + 1))
      case measure => omega
      case rel => exact ⟨i + 1, by go_num, by omega, rfl, hkw.out.drewN _⟩
    · have hi : i = n := by omega
      subst hi
      go_wp2_with fail
      go_ret
      exact ⟨rfl, hkw.out⟩
theorem PoolV.sub {F F' : Nat → Prop} {V : Nat → Value × Value} {M : Mm} {w : World} (p : PoolV F V w M) (h : ∀ k, F' k → F k) : PoolV F' V w M :=
  ⟨p.node, p.kinj, p.cinj, fun a n hm hf => p.fnode a n hm (h _ hf), fun a n g hm hg hf => p.fkeys a n g hm hg (h _ hf), fun a n g hm hg hf => p.fkids a n g hm hg (h _ hf), fun k hf => p.flt k (h k hf)⟩
theorem Root.depth {M : Mm} {h a : Nat} {xs : List ByteArray} {ad : List Nat} (r : Root M h a xs ad) (hn : xs.length ≤ 1048576) : h ≤ 20 := by
  rcases Nat.eq_zero_or_pos h with h0 | hpos
  · omega
  · obtain ⟨n, hn', _, h2⟩ := r.own
    obtain ⟨h', rfl⟩ : ∃ h', h = h' + 1 := ⟨h - 1, by omega⟩
    have t := r.t
    obtain ⟨ks, cs, _, hm, _, ts⟩ := id t
    rw [hm] at hn'
    cases hn'
    have hlen := ts.len
    have hne : cs ≠ [] := by intro e; subst e; simp at hlen
    have h22 : 2 ≤ cs.length := h2 hne
    have hc := t.count ⟨_, hm, by simp only [Nd.size, if_neg hne]; omega, fun _ => h22⟩
    apply Classical.byContradiction
    intro hlt
    have : 2 ^ 21 ≤ 2 ^ (h' + 1) := Nat.pow_le_pow_right (by omega) (by omega)
    have e21 : (2 : Nat) ^ 21 = 2097152 := by decide
    omega
set_option maxHeartbeats 1000000 in
theorem holds11 {F : Nat → Prop} {M : Mm} {h a : Nat} {xs : List ByteArray} {ad : List Nat} {w : World} {mv : Value} (p : Pool F w M) (r : Root M h a xs ad) (ho : OwnS w 9 mv (xs.map Value.string)) (hn : xs.length ≤ 1048576) :
    Calls Try.prog 11 #[ptr a, mv] w fun e w' => e = .returned (.bool true) ∧ Keeps No w w' := by
  obtain ⟨V, p⟩ := p
  have hd := r.depth hn
  obtain ⟨n, hm, hz1, hz2⟩ := r.own
  have hC := check_T (hl := false) (hh := false) (isRoot := true) (ls := ⟨#[]⟩) (hs := ⟨#[]⟩) (d := 0) h p (by show T M h none none a xs ad; exact r.t) ⟨n, hm, hz1, hz2, fun h => (by cases h)⟩ (by omega)
  unfold ChkPost at hC
  have hCo : ∀ w1, Keeps No w w1 → Calls Try.prog 31 #[ptr a, .slice none 0 0] w1 (OutPost F V M (.slice none 0 0) xs w1) := fun w1 hk => by
    have := collect_T (F := F) (v := .slice none 0 0) (ys := []) h ((p.keep hk).sub (F' := With F (.slice none 0 0)) (fun k hk => hk.elim id (fun e => by cases e))) (OwnS.nil w1 9) r.t ⟨n, hm, hz1⟩ (by simpa using hn)
    simpa using this
  have HO : Hid (OwnS w 9 mv (xs.map Value.string)) := ho
  clear p r ho hm
  go_enter Try.func11, Try.ntmps11
  go_upto_region 4 with (first | (go_at_call 30; refine hC.mono ?_; rintro e w1 ⟨rfl, hk⟩; have HK : Hid (Keeps No w w1) := hk; clear hk))
  have hCo1 := hCo w1 HK.out
  clear hCo hC
  go_wp2_with fail
  refine hCo1.mono ?_
  rintro e w2 ⟨v', rfl, hO⟩
  have hk2 : Keeps No w1 w2 := ⟨hO.keeps.os, hO.keeps.tape, hO.keeps.output, hO.keeps.size, fun i hi _ => hO.keeps.block i hi (fun h => by cases h)⟩
  have ho2 := (HO.out.keep (HK.out.tr hk2) (fun _ _ h => h))
  obtain ⟨x, c, rfl, hx⟩ := hO.own.rd
  obtain ⟨y, d, rfl, hy⟩ := ho2.rd
  simp only [List.length_map] at hx hy
  have hS := same17 (c := c) (d := d) hx hy hn
  have HK2 : Hid (Keeps No w w2) := HK.out.tr hk2
  simp only [List.length_map]
  clear hO hk2 ho2 hx hy hCo1
  go_wp2_with (first | (go_at_call 17; refine hS.mono ?_; rintro e w3 ⟨rfl, hk⟩; have HK3 : Hid (Keeps No w2 w3) := hk; clear hk))
  go_ret
  exact ⟨rfl, HK2.out.tr HK3.out⟩
end Go.Proofs.Qxb6603837a
