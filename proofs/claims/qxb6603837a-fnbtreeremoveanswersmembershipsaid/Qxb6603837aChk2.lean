/- zzCheck at inner nodes. -/
import Derived.Test.Qxb6603837aChk
namespace Go.Proofs.Qxb6603837a
open Go.RowKit
section
variable {F : Nat → Prop} {V : Nat → Value × Value} {M : Mm} {a : Nat} {xs : List ByteArray} {ad : List Nat} {w : World} {hl hh isRoot : Bool} {ls hs : ByteArray} {d : Nat}
set_option maxHeartbeats 4000000 in
set_option maxRecDepth 100000 in
theorem check_inner {h : Nat} {ks : List ByteArray} {cs : List Nat} (p : PoolV F V w M) (hm : M a = some ⟨ks, cs⟩) (ts : Ts (Ch M h) (bd hl ls) (bd hh hs) ks cs xs ad) (hz : cs.length ≤ 64) (hz2 : 2 ≤ cs.length) (hr : isRoot = false → 32 ≤ cs.length) (hd' : d + h + 1 ≤ 40)
    (ih : ∀ (w' : World) (c : Nat) (xs : List ByteArray) (ad : List Nat) (hl hh : Bool) (ls hs : ByteArray), Keeps No w w' → Ch M h (bd hl ls) (bd hh hs) c xs ad →
      Calls Try.prog 30 #[ptr c, .bool false, .bool hl, .string ls, .bool hh, .string hs, .int .i64 ((d : Int) + 1)] w' (ChkPost h w')) :
    Calls Try.prog 30 #[ptr a, .bool isRoot, .bool hl, .string ls, .bool hh, .string hs, .int .i64 d] w (ChkPost (h + 1) w) := by
  have hlen := ts.len
  have na := p.node a _ hm
  have hk := keys29 na
  have hc := kids32 na
  have hlf := isLeaf28 na
  have hne : cs ≠ [] := by intro e; subst e; simp at hlen
  have hlf' : (Nd.mk ks cs).leaf? = false := by simpa [Nd.leaf?] using hne
  rw [hlf'] at hlf
  obtain ⟨gk, ck, hkv, _, _, hkc, _⟩ := na.keyFacts (by show 0 < ks.length; omega)
  obtain ⟨gc, cc, hcv, _, _, hcc, _⟩ := na.kidFacts (by show 0 < cs.length; omega)
  rw [hkv] at hk
  rw [hcv] at hc
  simp only [] at hk hc hkc hcc
  have HT : Hid _ := ts
  have hrr : (isRoot = true) ∨ (isRoot = false ∧ 32 ≤ cs.length) := by cases isRoot <;> simp_all
  have HK : Hid _ := hkc
  have HC : Hid _ := hcc
  clear hkv hcv na p ts hr hkc hcc hne hlf' hm
  generalize hL : ks.length = L at *
  rw [hlen] at hc hrr hz hz2
  unfold ChkPost at ih ⊢
  have h64 : ¬ ((L : Int) + 1) > 64 := by omega
  have h63 : L ≤ 63 := by omega
  rcases hrr with rfl | ⟨rfl, h32⟩
  all_goals
    (go_enter Try.func30, Try.ntmps30
     go_wp2_with (first | (go_at_call 29; refine hk.mono ?_; rintro e w' ⟨rfl, rfl⟩) | (go_at_call 28; refine hlf.mono ?_; rintro e w' ⟨rfl, rfl⟩) | (go_at_call 32; refine hc.mono ?_; rintro e w' ⟨rfl, rfl⟩))
     go_loopg [19, 20] (L + 1) (fun g s19 s20 wr => ∃ i : Nat, s20 = .int .i64 i ∧ s19 = .int .i64 (if i = 0 then 0 else (h : Int) + 1) ∧ i ≤ L + 1 ∧ g = L + 1 - i ∧ Hid (Keeps No w wr))
     case atStart => exact ⟨0, rfl, rfl, by omega, rfl, Keeps.refl No w⟩
     case round =>
       obtain ⟨i, rfl, rfl, hin, rfl, hkw⟩ := hrel
       by_cases hlt : i < L + 1
       · obtain ⟨c, x1, xm, x2, a1, am, a2, hci, _, _, _, hC, _⟩ := HT.out.at' (i := i) (by omega)
         have e1 := hkw.out.cell (HC.out i c hci) (fun h => h)
         rcases Nat.eq_zero_or_pos i with h0 | hpos
         · subst h0
           obtain ⟨k, hk0⟩ : ∃ k, ks[0]? = some k := ⟨ks[0], List.getElem?_eq_getElem (by omega)⟩
           have e2 := hkw.out.cell (HK.out 0 k hk0) (fun h => h)
           rw [drop_cons' hk0] at hC
           have hI := ih wr c xm am hl true ls k hkw.out hC
           clear hC hci hk0
           rw [if_pos rfl]
           go_wp2_with (first | (go_at_call 30; refine hI.mono ?_; rintro e w1 ⟨rfl, hk1⟩; have HK1 : Hid _ := hk1; clear hk1))
           go_roundg L
           case measure => omega
           case rel => exact ⟨1, rfl, by simp, by omega, by omega, hkw.out.tr HK1.out⟩
         · obtain ⟨j, rfl⟩ : ∃ j, i = j + 1 := ⟨i - 1, by omega⟩
           obtain ⟨k, hk0⟩ : ∃ k, ks[j]? = some k := ⟨ks[j], List.getElem?_eq_getElem (by omega)⟩
           have e2 := hkw.out.cell (HK.out j k hk0) (fun h => h)
           rw [take_snoc hk0, lst_snoc] at hC
           rw [if_neg (by omega)]
           by_cases hend : j + 1 < L
           · obtain ⟨k', hk1⟩ : ∃ k', ks[j + 1]? = some k' := ⟨ks[j + 1], List.getElem?_eq_getElem (by omega)⟩
             have e3 := hkw.out.cell (HK.out (j + 1) k' hk1) (fun h => h)
             rw [drop_cons' hk1] at hC
             have hI := ih wr c xm am true true k k' hkw.out hC
             clear hC hci hk0 hk1
             go_wp2_with (first | (go_at_call 30; refine hI.mono ?_; rintro e w1 ⟨rfl, hk1⟩; have HK1 : Hid _ := hk1; clear hk1))
             go_roundg (L - (j + 1))
             case measure => omega
             case rel => exact ⟨j + 2, by go_num, by simp, by omega, by omega, hkw.out.tr HK1.out⟩
           · have hjL : L = j + 1 := by omega
             rw [List.drop_of_length_le (by omega)] at hC
             have hI := ih wr c xm am true hh k hs hkw.out hC
             clear hC hci hk0
             subst hjL
             go_wp2_with (first | (go_at_call 30; refine hI.mono ?_; rintro e w1 ⟨rfl, hk1⟩; have HK1 : Hid _ := hk1; clear hk1))
             go_roundg 0
             case measure => omega
             case rel => exact ⟨j + 2, by go_num, by simp, by omega, by omega, hkw.out.tr HK1.out⟩
       · have hi : i = L + 1 := by omega
         subst hi
         rw [if_neg (by omega)]
         go_wp2_with fail
         go_ret2
         exact ⟨rfl, hkw.out⟩)
theorem check_T : ∀ (h : Nat) {a : Nat} {xs : List ByteArray} {ad : List Nat} {w : World} {hl hh isRoot : Bool} {ls hs : ByteArray} {d : Nat}, PoolV F V w M → T M h (bd hl ls) (bd hh hs) a xs ad →
    (∃ n, M a = some n ∧ n.size ≤ 64 ∧ (n.cs ≠ [] → 2 ≤ n.cs.length) ∧ (isRoot = false → 32 ≤ n.size)) → d + h ≤ 40 →
    Calls Try.prog 30 #[ptr a, .bool isRoot, .bool hl, .string ls, .bool hh, .string hs, .int .i64 d] w (ChkPost h w)
  | 0, a, xs, ad, w, hl, hh, isRoot, ls, hs, d, p, t, hz, hd => by
    obtain ⟨n, hn, h1, _, h3⟩ := hz
    rw [t.1] at hn
    cases hn
    simp only [Nd.size, if_true] at h1 h3
    exact check_leaf p t h1 h3 hd
  | h + 1, a, xs, ad, w, hl, hh, isRoot, ls, hs, d, p, t, hz, hd => by
    obtain ⟨ks, cs, ad', hm, rfl, ts⟩ := t
    obtain ⟨n, hn, h1, h2, h3⟩ := hz
    rw [hm] at hn
    cases hn
    have hlen := ts.len
    have hne : cs ≠ [] := by intro e; subst e; simp at hlen
    simp only [Nd.size, if_neg hne] at h1 h3
    refine check_inner p hm ts h1 (h2 hne) h3 (by omega) (fun w' c xs ad hl hh ls hs hk hc => ?_)
    obtain ⟨nc, hnc, z1, z2⟩ := hc.2
    have := check_T h (isRoot := false) (d := d + 1) (p.keep hk) hc.1 ⟨nc, hnc, z2, fun hne => by simp [Nd.size, hne] at z1; omega, fun _ => z1⟩ (by omega)
    rw [Int.natCast_add] at this
    exact this
end
end Go.Proofs.Qxb6603837a
