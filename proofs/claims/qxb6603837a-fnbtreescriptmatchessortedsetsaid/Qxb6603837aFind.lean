import Derived.Test.Qxb6603837aPool
import Derived.Deep.LoopGhost
import Derived.LoopTactic
namespace Go.Proofs.Qxb6603837a
open Go.RowKit
theorem isNaN60 (x : ByteArray) (w : World) : Calls Try.prog 60 #[.string x] w fun e w' => e = .returned (.bool false) ∧ w = w' := by
  go_enter Try.func60, Try.ntmps60
  go_wp2
  go_ret
  exact ⟨by simp, rfl⟩
theorem isNaN56 (x : ByteArray) (w : World) : Calls Try.prog 56 #[.string x] w fun e w' => e = .returned (.bool false) ∧ w = w' := by
  go_enter Try.func56, Try.ntmps56
  go_wp2
  go_ret
  exact ⟨by simp, rfl⟩
theorem less55 (x y : ByteArray) (w : World) : Calls Try.prog 55 #[.string x, .string y] w fun e w' => e = .returned (.bool (lt x y)) ∧ w = w' := by
  go_enter Try.func55, Try.ntmps55
  go_wp2_with (go_at_call 60; refine (isNaN60 _ _).mono ?_; rintro e w' ⟨rfl, rfl⟩)
  go_ret
  exact ⟨rfl, rfl⟩
theorem OwnS.rd {w : World} {e : TypeId} {v : Value} {xs : List Value} (h : OwnS w e v xs) : ∃ a c, v = .slice a xs.length c ∧ Rd w a xs.length xs := by
  rcases h with ⟨rfl, rfl⟩ | ⟨g, c, rest, rfl, hat, _⟩
  · exact ⟨none, 0, rfl, rfl, fun h => by simp at h⟩
  · refine ⟨_, c, rfl, rfl, fun _ => ⟨g, 0, rfl, fun j v hv => ?_⟩⟩
    rw [Nat.zero_add]
    exact hat.cell (by rw [List.getElem?_append_left (List.getElem?_eq_some_iff.1 hv).1]; exact hv)
/-- the halving's invariant -/
def Bs (k : ByteArray) (ks : List ByteArray) (lo hi : Nat) : Prop :=
  lo ≤ hi ∧ hi ≤ ks.length ∧ (∀ j x, ks[j]? = some x → j < lo → lt x k = true) ∧ (∀ j x, ks[j]? = some x → hi ≤ j → lt x k = false)
theorem Bs.start (k : ByteArray) (ks : List ByteArray) : Bs k ks 0 ks.length :=
  ⟨Nat.zero_le _, Nat.le_refl _, fun _ _ _ h => by omega, fun j x hx h => by have := (List.getElem?_eq_some_iff.1 hx).1; omega⟩
theorem Bs.done {k : ByteArray} {ks : List ByteArray} {i : Nat} (h : Bs k ks i i) : pos k ks = i := pos_eq k ks i h.2.1 h.2.2.1 h.2.2.2
theorem asc_get {ks : List ByteArray} (h : Asc ks) {i j : Nat} {x y : ByteArray} (hi : ks[i]? = some x) (hj : ks[j]? = some y) (hij : i < j) : lt x y = true := by
  obtain ⟨h1, rfl⟩ := List.getElem?_eq_some_iff.1 hi
  obtain ⟨h2, rfl⟩ := List.getElem?_eq_some_iff.1 hj
  exact List.pairwise_iff_getElem.1 h i j h1 h2 hij
theorem Bs.up {k : ByteArray} {ks : List ByteArray} {lo hi m : Nat} (ha : Asc ks) (h : Bs k ks lo hi) (h2 : m < hi) (hx : lt (ks.getD m ByteArray.empty) k = true) : Bs k ks (m + 1) hi := by
  have hm : m < ks.length := by have := h.2.1; omega
  have hg : ks[m]? = some (ks.getD m ByteArray.empty) := by simp [List.getD, hm]
  refine ⟨h2, h.2.1, fun j x hj hlt => ?_, h.2.2.2⟩
  by_cases e : j = m
  · subst e
    rw [hg] at hj
    cases hj
    exact hx
  · exact lt_trans (asc_get ha hj hg (by omega)) hx
theorem Bs.down {k : ByteArray} {ks : List ByteArray} {lo hi m : Nat} (ha : Asc ks) (h : Bs k ks lo hi) (h1 : lo ≤ m) (h2 : m < hi) (hx : lt (ks.getD m ByteArray.empty) k = false) : Bs k ks lo m := by
  have hm : m < ks.length := by have := h.2.1; omega
  have hg : ks[m]? = some (ks.getD m ByteArray.empty) := by simp [List.getD, hm]
  refine ⟨h1, by omega, h.2.2.1, fun j x hj hle => ?_⟩
  by_cases e : j = m
  · subst e
    rw [hg] at hj
    cases hj
    exact hx
  · exact le_trans hx (lt_asymm (asc_get ha hg hj (by omega)))
set_option maxHeartbeats 4000000 in
set_option maxRecDepth 100000 in
theorem search43 (a : Option Addr) (n c : Nat) (ks : List ByteArray) (k : ByteArray) (w : World) (hasc : Asc ks) (hn : n ≤ 1048576) (hr : Rd w a n (ks.map Value.string)) :
    Calls Try.prog 43 #[.slice a n c, .string k] w fun e w' => e = .returned (.tuple #[.int .i64 (pos k ks : Nat), .bool (hit k ks)]) ∧ w = w' := by
  have hl : ks.length = n := by simpa using hr.1
  have HA : Hid (Asc ks) := hasc
  have HR : Hid (Rd w a n (ks.map Value.string)) := hr
  have HL : Hid _ := hl
  clear hasc hr hl
  go_enter Try.func43, Try.ntmps43
  go_wp2
  go_loopg [7, 8] n (fun g s7 s8 wr => ∃ lo hi : Nat, s7 = .int .i64 lo ∧ s8 = .int .i64 hi ∧ hi - lo ≤ g ∧ wr = w ∧ hi ≤ n ∧ lo ≤ hi ∧ Hid (Bs k ks lo hi))
  case atStart => exact ⟨0, n, rfl, rfl, by omega, rfl, Nat.le_refl _, Nat.zero_le _, by have := Bs.start k ks; rw [HL.out] at this; exact this⟩
  case round =>
    obtain ⟨lo, hi, rfl, rfl, hg, rfl, hin, hlh, hb⟩ := hrel
    by_cases hlt : lo < hi
    · obtain ⟨b, off, rfl, hc⟩ := Rd.at HR.out (k := (lo + hi) / 2) ByteArray.empty (by omega)
      have cm := hc ((lo + hi) / 2) (by omega)
      clear hc
      obtain ⟨y, hy⟩ : ∃ y, ks.getD ((lo + hi) / 2) ByteArray.empty = y := ⟨_, rfl⟩
      rw [hy] at cm
      cases hyx : lt y k
      · have hd : Hid (Bs k ks lo ((lo + hi) / 2)) := Bs.down HA.out hb.out (by omega) (by omega) (by rw [hy]; exact hyx)
        clear hb hy
        go_wp2_with (go_at_call 55; refine (less55 _ _ _).mono ?_; rintro e w' ⟨rfl, rfl⟩; rw [hyx])
        go_roundg ((lo + hi) / 2 - lo)
        case measure => omega
        case rel => exact ⟨lo, (lo + hi) / 2, rfl, by go_num, Nat.le_refl _, rfl, by omega, by omega, hd⟩
      · have hd : Hid (Bs k ks ((lo + hi) / 2 + 1) hi) := Bs.up HA.out hb.out (by omega) (by rw [hy]; exact hyx)
        clear hb hy
        go_wp2_with (go_at_call 55; refine (less55 _ _ _).mono ?_; rintro e w' ⟨rfl, rfl⟩; rw [hyx])
        go_roundg (hi - ((lo + hi) / 2 + 1))
        case measure => omega
        case rel => exact ⟨(lo + hi) / 2 + 1, hi, by go_num, rfl, Nat.le_refl _, rfl, by omega, by omega, hd⟩
    · have : hi = lo := by omega
      subst this
      have hp : pos k ks = hi := hb.out.done
      by_cases hn : hi < n
      · obtain ⟨b, off, rfl, hc⟩ := Rd.at HR.out (k := hi) ByteArray.empty hn
        have cm := hc hi hn
        clear hc
        obtain ⟨y, hy⟩ : ∃ y, ks.getD hi ByteArray.empty = y := ⟨_, rfl⟩
        rw [hy] at cm
        have hh : Hid (hit k ks = decide (y = k)) := by
          show hit k ks = _
          have hlen := HL.out
          have : ks[hi]? = some y := by rw [← hy]; simp [List.getD, hlen, hn]
          simp [hit, hp, this]
        have hp' : Hid _ := hp
        clear hy hp hb
        have hbe := beq_iff y k
        by_cases hyk : y = k
        · simp only [hyk, decide_true] at hbe
          rw [hyk] at cm
          go_wp2_with (go_at_call 56; refine (isNaN56 _ _).mono ?_; rintro e w' ⟨rfl, rfl⟩)
          go_ret2
          rw [hp'.out, hh.out]
          simp [hyk]
        · simp only [hyk, decide_false] at hbe
          go_wp2_with (go_at_call 56; refine (isNaN56 _ _).mono ?_; rintro e w' ⟨rfl, rfl⟩)
          go_ret2
          rw [hp'.out, hh.out]
          simp [hyk]
      · have hh : Hid (hit k ks = false) := by
          show hit k ks = _
          have hlen := HL.out
          have : ks[hi]? = none := by simp [hlen]; omega
          simp [hit, hp, this]
        have hp' : Hid _ := hp
        clear hp hb
        go_wp2
        go_ret2
        rw [hp'.out, hh.out]
        simp
/-- a node's number of items -/
def Nd.size (n : Nd) : Nat := if n.cs = [] then n.ks.length else n.cs.length
def Nd.leaf? (n : Nd) : Bool := n.cs.isEmpty
theorem NodeIn.nilKids {w : World} {a : Nat} {v : Value × Value} {n : Nd} (h : NodeIn w a v n) :
    (n.leaf? = true ∧ v.2 = .slice none 0 0) ∨ (n.leaf? = false ∧ n.cs ≠ [] ∧ ∃ g c, v.2 = .slice (some ⟨g, 0, none⟩) n.cs.length c) := by
  by_cases e : n.cs = []
  · exact .inl ⟨by simp [Nd.leaf?, e], h.leaf e⟩
  · refine .inr ⟨by simpa [Nd.leaf?] using e, e, ?_⟩
    rcases h.kids with ⟨_, h2⟩ | ⟨g, c, rest, h2, _⟩
    · simp at h2; exact absurd h2 e
    · exact ⟨g, c, by simpa using h2⟩
theorem NodeIn.cell0 {w : World} {a : Nat} {v : Value × Value} {n : Nd} (h : NodeIn w a v n) : w.cell? ⟨a, 0, none⟩ = some v.1 := h.at_.cell (by simp)
theorem NodeIn.cell1 {w : World} {a : Nat} {v : Value × Value} {n : Nd} (h : NodeIn w a v n) : w.cell? ⟨a, 1, none⟩ = some v.2 := h.at_.cell (by simp)
theorem leaf35 {a : Nat} {v : Value × Value} {n : Nd} {w : World} (h : NodeIn w a v n) :
    Calls Try.prog 35 #[ptr a] w fun e w' => e = .returned (.bool n.leaf?) ∧ w = w' := by
  have c1 := h.cell1
  have hnil := fun x m c => fun wx => Lib.run_eql_slice_nil (P := Try.prog) wx 56 25 x m c 0 0 Try.underlying56
  rcases h.nilKids with ⟨hl, e⟩ | ⟨hl, _, g, c, e⟩
  · rw [e] at c1
    rw [hl]
    have hnil := hnil none 0 0
    simp only [Option.isNone_none] at hnil
    go_enter Try.func35, Try.ntmps35
    go_wp2
    go_ret
    exact ⟨rfl, rfl⟩
  · rw [e] at c1
    rw [hl]
    have hnil := hnil (some ⟨g, 0, none⟩) n.cs.length c
    simp only [Option.isNone_some] at hnil
    go_enter Try.func35, Try.ntmps35
    go_wp2
    go_ret
    exact ⟨rfl, rfl⟩
theorem size39 {a : Nat} {v : Value × Value} {n : Nd} {w : World} (h : NodeIn w a v n) :
    Calls Try.prog 39 #[ptr a] w fun e w' => e = .returned (.int .i64 n.size) ∧ w = w' := by
  have c0 := h.cell0
  have c1 := h.cell1
  obtain ⟨ka, kc, hk, _⟩ := h.keys.rd
  rcases h.nilKids with ⟨hl, e⟩ | ⟨hl, hne, g, c, e⟩
  · have hs : n.size = n.ks.length := by simp [Nd.size]; intro h; simp [Nd.leaf?] at hl; exact absurd hl h
    rw [hs]
    rw [hk] at c0
    simp only [List.length_map] at c0
    clear hs e
    go_enter Try.func39, Try.ntmps39
    go_wp2_with (go_at_call 35; refine (leaf35 h).mono ?_; rintro e w' ⟨rfl, rfl⟩; rw [hl])
    go_ret
    exact ⟨rfl, rfl⟩
  · have hs : n.size = n.cs.length := by simp [Nd.size, hne]
    rw [hs]
    rw [e] at c1
    clear hs
    go_enter Try.func39, Try.ntmps39
    go_wp2_with (go_at_call 35; refine (leaf35 h).mono ?_; rintro e w' ⟨rfl, rfl⟩; rw [hl])
    go_ret
    exact ⟨rfl, rfl⟩
/-- find: the leaf's place; the child's place -/
def Nd.fnd (n : Nd) (k : ByteArray) : Nat × Bool := if hit k n.ks && !n.leaf? then (pos k n.ks + 1, false) else (pos k n.ks, hit k n.ks)
theorem find36 {a : Nat} {v : Value × Value} {n : Nd} {w : World} (h : NodeIn w a v n) (k : ByteArray) (hasc : Asc n.ks) (hn : n.ks.length ≤ 1000) :
    Calls Try.prog 36 #[ptr a, .string k] w fun e w' => e = .returned (.tuple #[.int .i64 ((n.fnd k).1 : Nat), .bool (n.fnd k).2]) ∧ w = w' := by
  have c0 := h.cell0
  obtain ⟨ka, kc, hk, hr⟩ := h.keys.rd
  rw [hk] at c0
  simp only [List.length_map] at c0 hr
  have hs := search43 ka n.ks.length kc n.ks k w hasc (by omega) hr
  have hp : pos k n.ks ≤ n.ks.length := pos_le _ _
  obtain ⟨p, hpp⟩ : ∃ p, pos k n.ks = p := ⟨_, rfl⟩
  rw [hpp] at hs hp
  clear hr
  cases hh : hit k n.ks <;> rw [hh] at hs
  · have e : n.fnd k = (p, false) := by simp [Nd.fnd, hh, hpp]
    rw [e]
    clear e
    go_enter Try.func36, Try.ntmps36
    go_wp2_with (first | (go_at_call 43; refine hs.mono ?_; rintro e w' ⟨rfl, rfl⟩) | (go_at_call 35; refine (leaf35 h).mono ?_; rintro e w' ⟨rfl, rfl⟩))
    go_ret2
    exact ⟨rfl, rfl⟩
  · cases hl : n.leaf?
    · have e : n.fnd k = (p + 1, false) := by simp [Nd.fnd, hh, hl, hpp]
      rw [e]
      clear e
      go_enter Try.func36, Try.ntmps36
      go_wp2_with (first | (go_at_call 43; refine hs.mono ?_; rintro e w' ⟨rfl, rfl⟩) | (go_at_call 35; refine (leaf35 h).mono ?_; rintro e w' ⟨rfl, rfl⟩; rw [hl]))
      go_ret2
      exact ⟨rfl, rfl⟩
    · have e : n.fnd k = (p, true) := by simp [Nd.fnd, hh, hl, hpp]
      rw [e]
      clear e
      go_enter Try.func36, Try.ntmps36
      go_wp2_with (first | (go_at_call 43; refine hs.mono ?_; rintro e w' ⟨rfl, rfl⟩) | (go_at_call 35; refine (leaf35 h).mono ?_; rintro e w' ⟨rfl, rfl⟩; rw [hl]))
      go_ret2
      exact ⟨rfl, rfl⟩
end Go.Proofs.Qxb6603837a
