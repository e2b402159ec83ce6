/- zzBuild: the tree and the model, grown side by side. -/
import Derived.Test.Qxb6603837aHold
namespace Go.Proofs.Qxb6603837a
open Go.RowKit
def Old (N k : Nat) : Prop := k < N
/-- a tree (strings xs) and a model (strings ys), of the call's own -/
structure St (w wr : World) (M : Mm) (h a : Nat) (xs : List ByteArray) (ad : List Nat) (mv : Value) (ys : List ByteArray) : Prop where
  pool : Pool (With (Old w.heap.size) mv) wr M
  root : Root M h a xs ad
  own : OwnS wr 9 mv (ys.map Value.string)
  mge : ∀ g, mv.ownBlock = some g → w.heap.size ≤ g
  keeps : Keeps No w wr
section
variable {w wr w' : World} {M M' : Mm} {h a h' a' : Nat} {xs xs' ys ys' : List ByteArray} {ad ad' : List Nat} {mv mv' : Value}
theorem Keeps.old {F : Nat → Prop} (k : Keeps No w wr) (k' : Keeps (Not' F) wr w') (hF : ∀ b, b < w.heap.size → F b) : Keeps No w w' :=
  k.trans k' (fun _ _ h => h) (fun b hb hn => hn (hF b hb))
theorem St.tree (s : St w wr M h a xs ad mv ys) (g : Got (With (Old w.heap.size) mv) wr M' w') (r : Root M' h' a' xs' ad') : St w w' M' h' a' xs' ad' mv ys :=
  ⟨g.1, r, s.own.keep g.2 (fun _ hg hn => hn (.inr hg)), s.mge, s.keeps.old g.2 (fun _ hb => .inl hb)⟩
theorem St.quiet (s : St w wr M h a xs ad mv ys) (k : Keeps No wr w') : St w w' M h a xs ad mv ys :=
  ⟨by obtain ⟨V, p⟩ := s.pool; exact ⟨V, p.keep k⟩, s.root, s.own.keep k (fun _ _ h => h), s.mge, s.keeps.tr k⟩
theorem St.model (s : St w wr M h a xs ad mv ys) (m : MdlS mv ys' wr mv' w') : St w w' M h a xs ad mv' ys' := by
  obtain ⟨V, p⟩ := s.pool
  refine ⟨⟨V, p.shift m.keeps m.same m.own⟩, s.root, m.own, fun g hg => ?_, s.keeps.trans m.keeps (fun _ _ h => h) (fun b hb ho => ?_)⟩
  · rcases m.same with e | ⟨g', e, hge, _⟩
    · exact s.mge g (e ▸ hg)
    · rw [e] at hg
      cases hg
      exact Nat.le_trans s.keeps.size hge
  · have := s.mge b ho
    omega
/-- the empty tree -/
theorem St.new {n : Value × Value} (hn : NewNode w w' a ⟨[], []⟩ n) : St w w' (upd (fun _ => none) a (some ⟨[], []⟩)) 0 a [] [a] (.slice none 0 0) [] := by
  refine ⟨⟨fun _ => n, ?_⟩, ⟨⟨upd_same _ _ _, rfl, .nil, by simp⟩, by simp, _, upd_same _ _ _, by simp [Nd.size], fun h => absurd rfl h⟩, OwnS.nil _ _, fun g hg => (by cases hg), hn.keeps⟩
  have only : ∀ b m, upd (fun _ => none) a (some (⟨[], []⟩ : Nd)) b = some m → b = a ∧ m = ⟨[], []⟩ := fun b m hb => by
    by_cases e : b = a
    · subst e; rw [upd_same] at hb; cases hb; exact ⟨rfl, rfl⟩
    · rw [upd_other _ _ e] at hb; cases hb
  have hF : ∀ g, w.heap.size ≤ g → ¬ With (Old w.heap.size) (.slice none 0 0) g := fun g hg h => h.elim (fun h => absurd h (Nat.not_lt.2 hg)) (fun h => by cases h)
  refine ⟨fun b m hb => ?_, fun b c m m' g hb hc _ _ => ?_, fun b c m m' g hb hc _ _ => ?_, fun b m hb => ?_, fun b m g hb hg => ?_, fun b m g hb hg => ?_, fun k hk => ?_⟩
  · obtain ⟨rfl, rfl⟩ := only b m hb
    exact hn.node
  · rw [(only b m hb).1, (only c m' hc).1]
  · rw [(only b m hb).1, (only c m' hc).1]
  · obtain ⟨rfl, rfl⟩ := only b m hb
    exact hF _ hn.ge
  · exact hF g (hn.k1 g hg)
  · exact hF g (hn.k2 g hg)
  · rcases hk with hk | hk
    · exact Nat.lt_of_lt_of_le hk hn.keeps.size
    · cases hk
end
/-- the set that keys make -/
def setOf (zs : List ByteArray) : List ByteArray := zs.foldl (fun acc k => insK k acc) []
theorem setOf_snoc (zs : List ByteArray) (k : ByteArray) : setOf (zs ++ [k]) = insK k (setOf zs) := by simp [setOf]
theorem insK_le (k : ByteArray) (xs : List ByteArray) : (insK k xs).length ≤ xs.length + 1 := by
  rw [insK_length]
  split <;> omega
theorem foldl_len : ∀ (zs acc : List ByteArray), (zs.foldl (fun acc k => insK k acc) acc).length ≤ acc.length + zs.length
  | [], acc => by simp
  | z :: zs, acc => by
    have h1 := foldl_len zs (insK z acc)
    have h2 := insK_le z acc
    simp only [List.foldl_cons, List.length_cons]
    omega
theorem setOf_len (zs : List ByteArray) : (setOf zs).length ≤ zs.length := by have := foldl_len zs []; simpa [setOf] using this
def BuildPost (zs : List ByteArray) (w : World) (e : Ending) (w' : World) : Prop := ∃ M h a ad mv, e = .returned (.tuple #[ptr a, mv, .bool true]) ∧ St w w' M h a (setOf zs) ad mv (setOf zs)
set_option maxHeartbeats 2000000 in
set_option maxRecDepth 100000 in
theorem build10 {x : Option Addr} {n c : Nat} {zs : List ByteArray} {w : World} (hx : Rd w x n (zs.map Value.string)) (hn : n ≤ 1000000) : Calls Try.prog 10 #[.slice x n c] w (BuildPost zs w) := by
  have hl : zs.length = n := by simpa using hx.1
  have HX : Hid (Rd w x n (zs.map Value.string)) := hx
  have HL : Hid (zs.length = n) := hl
  have hN := newLeaf21 w
  clear hx hl
  unfold BuildPost
  go_enter Try.func10, Try.ntmps10
  go_wp2_with (first | (go_at_call 21; refine hN.mono ?_; rintro e w1 ⟨r, nv, rfl, hnn⟩; have HS0 : Hid _ := St.new hnn; clear hnn))
  go_loopg [5, 6, 7] n (fun g s5 s6 s7 wr => ∃ (i : Nat) (M : Mm) (h a : Nat) (ad : List Nat) (mv : Value), s5 = ptr a ∧ mv = s6 ∧ s7 = .int .i64 i ∧ i ≤ n ∧ g = n - i ∧ Hid (St w wr M h a (setOf (zs.take i)) ad mv (setOf (zs.take i))))
  case atStart => exact ⟨0, _, _, _, _, _, rfl, rfl, rfl, by omega, rfl, HS0.out⟩
  case round =>
    obtain ⟨i, M, h, a, ad, mv, rfl, rfl, rfl, hin, rfl, hS⟩ := hrel
    by_cases hlt : i < n
    · obtain ⟨b, off, rfl, hc⟩ := Rd.at HX.out (k := i) ByteArray.empty hlt
      have c0 := hc i hlt
      obtain ⟨key, hkey⟩ : ∃ key, zs.getD i ByteArray.empty = key := ⟨_, rfl⟩
      rw [hkey] at c0
      have c1 := hS.out.keeps.cell c0 (fun h => h)
      have hget : zs[i]? = some key := by have hj : i < zs.length := (by rw [HL.out]; exact hlt); rw [← hkey]; simp [List.getD, hj]
      have htk : zs.take (i + 1) = zs.take i ++ [key] := take_snoc hget
      have hset : setOf (zs.take (i + 1)) = insK key (setOf (zs.take i)) := by rw [htk, setOf_snoc]
      have hlen : (setOf (zs.take i)).length ≤ 1000000 := by have := setOf_len (zs.take i); simp at this; omega
      have hG := grow22 (key := key) hS.out.pool hS.out.root
      unfold GrowPost at hG
      have HSet : Hid _ := hset
      clear hc hkey hget htk hset
      generalize hxs : setOf (zs.take i) = xs at *
      go_upto_region 9 with (first | (go_at_call 22; refine hG.mono ?_; rintro e w2 ⟨M', h', a', ad', rfl, hg, hr⟩; have HG : Hid _ := And.intro hg hr; clear hg hr))
      have HS2 : Hid _ := hS.out.tree HG.out.1 HG.out.2
      have c2 := HS2.out.keeps.cell c0 (fun h => h)
      have hMd := modelInsert19 (k := key) HS2.out.own (by rw [← hxs]; rw [← hxs] at hS; exact hS.out.root.asc) hlen
      unfold MdlPost at hMd
      clear HG hG
      generalize has key xs = bb at *
      go_wp2_with (first | (go_at_call 19; refine hMd.mono ?_; rintro e w3 ⟨mv', rfl, hm⟩; have HM : Hid _ := hm; clear hm))
      go_roundg (n - (i + 1))
      case measure => omega
      case rel =>
        refine ⟨i + 1, M', h', a', ad', mv', rfl, rfl, by go_num, by omega, rfl, ?_⟩
        rw [HSet.out]
        exact HS2.out.model HM.out
    · have hi : i = n := by omega
      subst hi
      have htk : zs.take zs.length = zs := List.take_of_length_le (Nat.le_refl _)
      rw [HL.out] at htk
      rw [htk] at hS
      go_wp2_with fail
      go_ret3
      exact ⟨M, h, a, ad, mv, rfl, hS.out⟩
end Go.Proofs.Qxb6603837a
