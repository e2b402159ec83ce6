/- Trees over the pool's abstract memory: shape, bounds, strings, addresses. No Go in sight. -/
import Derived.Test.Qxb6603837aFind
namespace Go.Proofs.Qxb6603837a
/-- within [lo, hi) -/
def In (lo hi : Option ByteArray) (x : ByteArray) : Prop := (∀ l, lo = some l → lt x l = false) ∧ (∀ u, hi = some u → lt x u = true)
abbrev TP := Option ByteArray → Option ByteArray → Nat → List ByteArray → List Nat → Prop
/-- a row of children with its separators -/
def Ts (P : TP) : Option ByteArray → Option ByteArray → List ByteArray → List Nat → List ByteArray → List Nat → Prop
  | lo, hi, [], [c], xs, ad => P lo hi c xs ad
  | lo, hi, k :: ks, c :: cs, xs, ad => ∃ x1 a1 x2 a2, xs = x1 ++ x2 ∧ ad = a1 ++ a2 ∧ P lo (some k) c x1 a1 ∧ Ts P (some k) hi ks cs x2 a2
  | _, _, _, _, _, _ => False
def Sz (M : Mm) (c : Nat) : Prop := ∃ n, M c = some n ∧ 32 ≤ n.size ∧ n.size ≤ 64
/-- the subtree at a: height, bounds, strings, addresses -/
def T (M : Mm) : Nat → TP
  | 0, lo, hi, a, xs, ad => M a = some ⟨xs, []⟩ ∧ ad = [a] ∧ Asc xs ∧ ∀ x ∈ xs, In lo hi x
  | h + 1, lo, hi, a, xs, ad => ∃ ks cs ad', M a = some ⟨ks, cs⟩ ∧ ad = a :: ad' ∧ Ts (fun lo hi c xs ad => T M h lo hi c xs ad ∧ Sz M c) lo hi ks cs xs ad'
/-- a child: a subtree of full size -/
abbrev Ch (M : Mm) (h : Nat) : TP := fun lo hi c xs ad => T M h lo hi c xs ad ∧ Sz M c
def lst : Option ByteArray → List ByteArray → Option ByteArray
  | lo, [] => lo
  | _, k :: ks => lst (some k) ks
def hd (hi : Option ByteArray) : List ByteArray → Option ByteArray
  | [] => hi
  | k :: _ => some k
/-- the children left of a place -/
def Lc (P : TP) : Option ByteArray → List ByteArray → List Nat → List ByteArray → List Nat → Prop
  | _, [], [], xs, ad => xs = [] ∧ ad = []
  | lo, k :: ks, c :: cs, xs, ad => ∃ x1 a1 x2 a2, xs = x1 ++ x2 ∧ ad = a1 ++ a2 ∧ P lo (some k) c x1 a1 ∧ Lc P (some k) ks cs x2 a2
  | _, _, _, _, _ => False
/-- and right of it -/
def Rc (P : TP) (hi : Option ByteArray) : List ByteArray → List Nat → List ByteArray → List Nat → Prop
  | [], [], xs, ad => xs = [] ∧ ad = []
  | k :: ks, cs, xs, ad => Ts P (some k) hi ks cs xs ad
  | _, _, _, _ => False
theorem Ts.len {P : TP} : ∀ {lo hi : Option ByteArray} {ks : List ByteArray} {cs : List Nat} {xs : List ByteArray} {ad : List Nat}, Ts P lo hi ks cs xs ad → cs.length = ks.length + 1
  | _, _, [], [_], _, _, _ => rfl
  | _, _, [], [], _, _, h => by simp [Ts] at h
  | _, _, [], _ :: _ :: _, _, _, h => by simp [Ts] at h
  | _, _, _ :: _, [], _, _, h => by simp [Ts] at h
  | _, _, k :: ks, c :: cs, xs, ad, h => by
    obtain ⟨x1, a1, x2, a2, _, _, _, h⟩ := h
    simp [Ts.len h]
/-- gluing at a separator -/
theorem Ts.glue {P : TP} : ∀ {lo hi : Option ByteArray} {k : ByteArray} {k1 k2 : List ByteArray} {c1 c2 : List Nat} {x1 x2 : List ByteArray} {a1 a2 : List Nat},
    Ts P lo (some k) k1 c1 x1 a1 → Ts P (some k) hi k2 c2 x2 a2 → Ts P lo hi (k1 ++ k :: k2) (c1 ++ c2) (x1 ++ x2) (a1 ++ a2)
  | lo, hi, k, [], k2, [c], c2, x1, x2, a1, a2, h1, h2 => ⟨x1, a1, x2, a2, rfl, rfl, h1, h2⟩
  | _, _, _, [], _, [], _, _, _, _, _, h, _ => by simp [Ts] at h
  | _, _, _, [], _, _ :: _ :: _, _, _, _, _, _, h, _ => by simp [Ts] at h
  | _, _, _, _ :: _, _, [], _, _, _, _, _, h, _ => by simp [Ts] at h
  | lo, hi, k, k' :: k1, k2, c :: c1, c2, x1, x2, a1, a2, h1, h2 => by
    obtain ⟨y1, b1, y2, b2, rfl, rfl, hp, ht⟩ := h1
    exact ⟨y1, b1, y2 ++ x2, b2 ++ a2, by simp, by simp, hp, Ts.glue ht h2⟩
theorem Ts.cut {P : TP} : ∀ {lo hi : Option ByteArray} {k : ByteArray} {k1 k2 : List ByteArray} {c1 c2 : List Nat} {xs : List ByteArray} {ad : List Nat},
    c1.length = k1.length + 1 → Ts P lo hi (k1 ++ k :: k2) (c1 ++ c2) xs ad → ∃ x1 x2 a1 a2, xs = x1 ++ x2 ∧ ad = a1 ++ a2 ∧ Ts P lo (some k) k1 c1 x1 a1 ∧ Ts P (some k) hi k2 c2 x2 a2
  | lo, hi, k, [], k2, [c], c2, xs, ad, _, h => by
    obtain ⟨x1, a1, x2, a2, rfl, rfl, hp, ht⟩ := h
    exact ⟨x1, x2, a1, a2, rfl, rfl, hp, ht⟩
  | _, _, _, [], _, [], _, _, _, h, _ => by simp at h
  | _, _, _, [], _, _ :: _ :: _, _, _, _, h, _ => by simp at h
  | _, _, _, _ :: _, _, [], _, _, _, h, _ => by simp at h
  | lo, hi, k, k' :: k1, k2, c :: c1, c2, xs, ad, hl, h => by
    obtain ⟨y1, b1, y2, b2, rfl, rfl, hp, ht⟩ := h
    obtain ⟨x1, x2, a1, a2, rfl, rfl, h1, h2⟩ := Ts.cut (by simpa using hl) ht
    exact ⟨y1 ++ x1, x2, b1 ++ a1, a2, by simp, by simp, ⟨y1, b1, x1, a1, rfl, rfl, hp, h1⟩, h2⟩
/-- what stands around a place, and the place -/
theorem Ts.fill {P : TP} : ∀ {lo hi : Option ByteArray} {k1 km k2 : List ByteArray} {c1 cm c2 : List Nat} {x1 xm x2 : List ByteArray} {a1 am a2 : List Nat},
    Lc P lo k1 c1 x1 a1 → Ts P (lst lo k1) (hd hi k2) km cm xm am → Rc P hi k2 c2 x2 a2 → Ts P lo hi (k1 ++ km ++ k2) (c1 ++ cm ++ c2) (x1 ++ xm ++ x2) (a1 ++ am ++ a2)
  | lo, hi, [], km, k2, [], cm, c2, x1, xm, x2, a1, am, a2, hl, hm, hr => by
    obtain ⟨rfl, rfl⟩ := hl
    cases k2 with
    | nil =>
      cases c2 with
      | nil =>
        obtain ⟨rfl, rfl⟩ := hr
        simpa [lst, hd] using hm
      | cons _ _ => exact hr.elim
    | cons k k2 => simpa [lst, hd] using Ts.glue hm hr
  | _, _, [], _, _, _ :: _, _, _, _, _, _, _, _, _, h, _, _ => by simp [Lc] at h
  | _, _, _ :: _, _, _, [], _, _, _, _, _, _, _, _, h, _, _ => by simp [Lc] at h
  | lo, hi, k :: k1, km, k2, c :: c1, cm, c2, x1, xm, x2, a1, am, a2, hl, hm, hr => by
    obtain ⟨y1, b1, y2, b2, rfl, rfl, hp, ht⟩ := hl
    exact ⟨y1, b1, y2 ++ xm ++ x2, b2 ++ am ++ a2, by simp, by simp, hp, Ts.fill ht hm hr⟩
theorem Ts.hole {P : TP} : ∀ {lo hi : Option ByteArray} {k1 km k2 : List ByteArray} {c1 cm c2 : List Nat} {xs : List ByteArray} {ad : List Nat},
    c1.length = k1.length → cm.length = km.length + 1 → Ts P lo hi (k1 ++ km ++ k2) (c1 ++ cm ++ c2) xs ad →
    ∃ x1 xm x2 a1 am a2, xs = x1 ++ xm ++ x2 ∧ ad = a1 ++ am ++ a2 ∧ Lc P lo k1 c1 x1 a1 ∧ Ts P (lst lo k1) (hd hi k2) km cm xm am ∧ Rc P hi k2 c2 x2 a2
  | lo, hi, [], km, k2, [], cm, c2, xs, ad, _, hlm, h => by
    cases k2 with
    | nil =>
      have hl := h.len
      have hc : c2 = [] := by
        cases c2 with
        | nil => rfl
        | cons _ _ => simp at hl; omega
      subst hc
      exact ⟨[], xs, [], [], ad, [], by simp, by simp, ⟨rfl, rfl⟩, by simpa [lst, hd] using h, rfl, rfl⟩
    | cons k k2 =>
      obtain ⟨x1, x2, a1, a2, rfl, rfl, h1, h2⟩ := Ts.cut hlm (by simpa using h)
      exact ⟨[], x1, x2, [], a1, a2, by simp, by simp, ⟨rfl, rfl⟩, h1, h2⟩
  | _, _, [], _, _, _ :: _, _, _, _, _, h, _, _ => by simp at h
  | _, _, _ :: _, _, _, [], _, _, _, _, h, _, _ => by simp at h
  | lo, hi, k :: k1, km, k2, c :: c1, cm, c2, xs, ad, hl, hlm, h => by
    obtain ⟨y1, b1, y2, b2, rfl, rfl, hp, ht⟩ := h
    obtain ⟨x1, xm, x2, a1, am, a2, rfl, rfl, h1, h2, h3⟩ := Ts.hole (by simpa using hl) hlm ht
    exact ⟨y1 ++ x1, xm, x2, b1 ++ a1, am, a2, by simp, by simp, ⟨y1, b1, x1, a1, rfl, rfl, hp, h1⟩, h2, h3⟩
/-- a child more can be said of -/
theorem Ts.turn {P Q : TP} : ∀ {lo hi : Option ByteArray} {ks : List ByteArray} {cs : List Nat} {xs : List ByteArray} {ad : List Nat},
    (∀ lo hi c xs ad', (∀ b ∈ ad', b ∈ ad) → P lo hi c xs ad' → Q lo hi c xs ad') → Ts P lo hi ks cs xs ad → Ts Q lo hi ks cs xs ad
  | _, _, [], [_], _, ad, hq, h => hq _ _ _ _ ad (fun _ h => h) h
  | _, _, [], [], _, _, _, h => by simp [Ts] at h
  | _, _, [], _ :: _ :: _, _, _, _, h => by simp [Ts] at h
  | _, _, _ :: _, [], _, _, _, h => by simp [Ts] at h
  | _, _, k :: ks, c :: cs, xs, ad, hq, h => by
    obtain ⟨x1, a1, x2, a2, rfl, rfl, hp, ht⟩ := h
    exact ⟨x1, a1, x2, a2, rfl, rfl, hq _ _ _ _ a1 (fun b hb => by simp [hb]) hp, Ts.turn (fun lo hi c xs ad' hs => hq lo hi c xs ad' (fun b hb => by simp [hs b hb])) ht⟩
theorem Lc.turn {P Q : TP} : ∀ {lo : Option ByteArray} {ks : List ByteArray} {cs : List Nat} {xs : List ByteArray} {ad : List Nat},
    (∀ lo hi c xs ad', (∀ b ∈ ad', b ∈ ad) → P lo hi c xs ad' → Q lo hi c xs ad') → Lc P lo ks cs xs ad → Lc Q lo ks cs xs ad
  | _, [], [], _, _, _, h => h
  | _, [], _ :: _, _, _, _, h => by simp [Lc] at h
  | _, _ :: _, [], _, _, _, h => by simp [Lc] at h
  | _, k :: ks, c :: cs, xs, ad, hq, h => by
    obtain ⟨x1, a1, x2, a2, rfl, rfl, hp, ht⟩ := h
    exact ⟨x1, a1, x2, a2, rfl, rfl, hq _ _ _ _ a1 (fun b hb => by simp [hb]) hp, Lc.turn (fun lo hi c xs ad' hs => hq lo hi c xs ad' (fun b hb => by simp [hs b hb])) ht⟩
theorem Rc.turn {P Q : TP} {hi : Option ByteArray} : ∀ {ks : List ByteArray} {cs : List Nat} {xs : List ByteArray} {ad : List Nat},
    (∀ lo hi c xs ad', (∀ b ∈ ad', b ∈ ad) → P lo hi c xs ad' → Q lo hi c xs ad') → Rc P hi ks cs xs ad → Rc Q hi ks cs xs ad
  | [], [], _, _, _, h => h
  | [], _ :: _, _, _, _, h => h.elim
  | _ :: _, _, _, _, hq, h => Ts.turn hq h
/-- the frame -/
theorem T.frame {M M' : Mm} : ∀ {h : Nat} {lo hi : Option ByteArray} {a : Nat} {xs : List ByteArray} {ad : List Nat}, (∀ b ∈ ad, M' b = M b) → T M h lo hi a xs ad → T M' h lo hi a xs ad
  | 0, _, _, a, _, _, hf, ⟨h1, h2, h3, h4⟩ => ⟨(hf a (by simp [h2])).trans h1, h2, h3, h4⟩
  | h + 1, _, _, a, _, _, hf, ⟨ks, cs, ad', h1, h2, h3⟩ => by
    refine ⟨ks, cs, ad', (hf a (by simp [h2])).trans h1, h2, Ts.turn (fun lo hi c xs ad'' hs hc => ?_) h3⟩
    have hc' : T M' h lo hi c xs ad'' := T.frame (fun b hb => hf b (by rw [h2]; exact List.mem_cons_of_mem _ (hs b hb))) hc.1
    refine ⟨hc', ?_⟩
    obtain ⟨n, hn, hz⟩ := hc.2
    have hm : c ∈ ad'' := by
      cases h with
      | zero => obtain ⟨_, e, _⟩ := hc.1; simp [e]
      | succ h => obtain ⟨_, _, _, _, e, _⟩ := hc.1; simp [e]
    exact ⟨n, (hf c (by rw [h2]; exact List.mem_cons_of_mem _ (hs c hm))).trans hn, hz⟩
theorem T.self {M : Mm} {h : Nat} {lo hi : Option ByteArray} {a : Nat} {xs : List ByteArray} {ad : List Nat} (t : T M h lo hi a xs ad) : a ∈ ad := by
  cases h with
  | zero => obtain ⟨_, e, _⟩ := t; simp [e]
  | succ h => obtain ⟨_, _, _, _, e, _⟩ := t; simp [e]
theorem Ch.frame {M M' : Mm} {h : Nat} {lo hi : Option ByteArray} {a : Nat} {xs : List ByteArray} {ad : List Nat} (hf : ∀ b ∈ ad, M' b = M b) (t : Ch M h lo hi a xs ad) : Ch M' h lo hi a xs ad := by
  obtain ⟨n, hn, hz⟩ := t.2
  exact ⟨t.1.frame hf, n, (hf a t.1.self).trans hn, hz⟩
/-- every address of a tree is a node -/
theorem Ts.some' {P : TP} {M : Mm} (hP : ∀ lo hi c xs ad, P lo hi c xs ad → ∀ b ∈ ad, ∃ n, M b = some n) : ∀ {lo hi : Option ByteArray} {ks : List ByteArray} {cs : List Nat} {xs : List ByteArray} {ad : List Nat}, Ts P lo hi ks cs xs ad → ∀ b ∈ ad, ∃ n, M b = some n
  | _, _, [], [_], _, _, h => hP _ _ _ _ _ h
  | _, _, [], [], _, _, h => by simp [Ts] at h
  | _, _, [], _ :: _ :: _, _, _, h => by simp [Ts] at h
  | _, _, _ :: _, [], _, _, h => by simp [Ts] at h
  | _, _, k :: ks, c :: cs, xs, ad, h => by
    obtain ⟨x1, a1, x2, a2, rfl, rfl, hp, ht⟩ := h
    intro b hb
    rcases List.mem_append.1 hb with hb | hb
    · exact hP _ _ _ _ _ hp b hb
    · exact Ts.some' hP ht b hb
theorem T.some' {M : Mm} : ∀ {h : Nat} {lo hi : Option ByteArray} {a : Nat} {xs : List ByteArray} {ad : List Nat}, T M h lo hi a xs ad → ∀ b ∈ ad, ∃ n, M b = some n
  | 0, _, _, a, _, _, ⟨h1, h2, _, _⟩, b, hb => by rw [h2] at hb; simp at hb; subst hb; exact ⟨_, h1⟩
  | h + 1, _, _, a, _, _, ⟨ks, cs, ad', h1, h2, h3⟩, b, hb => by
    rw [h2] at hb
    rcases List.mem_cons.1 hb with rfl | hb
    · exact ⟨_, h1⟩
    · exact Ts.some' (fun lo hi c xs ad hc => T.some' hc.1) h3 b hb
/-- strings ascend, lie within the bounds, and a full node has some -/
structure Good (lo hi : Option ByteArray) (xs : List ByteArray) : Prop where
  ne : xs ≠ []
  asc : Asc xs
  bd : ∀ x ∈ xs, In lo hi x
theorem Good.lt {lo hi : Option ByteArray} {xs : List ByteArray} (g : Good lo hi xs) {l u : ByteArray} (hl : lo = some l) (hu : hi = some u) : Qxb6603837a.lt l u = true := by
  cases xs with
  | nil => exact absurd rfl g.ne
  | cons x xs =>
    have := g.bd x (by simp)
    exact lt_of_le_lt (this.1 l hl) (this.2 u hu)
theorem Ts.good {P : TP} (hP : ∀ lo hi c xs ad, P lo hi c xs ad → Good lo hi xs) : ∀ {lo hi : Option ByteArray} {ks : List ByteArray} {cs : List Nat} {xs : List ByteArray} {ad : List Nat}, Ts P lo hi ks cs xs ad →
    Good lo hi xs ∧ Asc ks ∧ ∀ k ∈ ks, (∀ l, lo = some l → lt l k = true) ∧ (∀ u, hi = some u → lt k u = true)
  | _, _, [], [_], _, _, h => ⟨hP _ _ _ _ _ h, .nil, by simp⟩
  | _, _, [], [], _, _, h => by simp [Ts] at h
  | _, _, [], _ :: _ :: _, _, _, h => by simp [Ts] at h
  | _, _, _ :: _, [], _, _, h => by simp [Ts] at h
  | lo, hi, k :: ks, c :: cs, xs, ad, h => by
    obtain ⟨x1, a1, x2, a2, rfl, rfl, hp, ht⟩ := h
    obtain ⟨g2, hasc, hb⟩ := Ts.good hP ht
    have g1 := hP _ _ _ _ _ hp
    have hku : ∀ u, hi = some u → lt k u = true := fun u hu => g2.lt rfl hu
    have hlk : ∀ l, lo = some l → lt l k = true := fun l hl => g1.lt hl rfl
    refine ⟨⟨by simp [g1.ne], ?_, fun x hx => ?_⟩, List.pairwise_cons.2 ⟨fun k' hk' => (hb k' hk').1 k rfl, hasc⟩, fun k' hk' => ?_⟩
    · exact List.pairwise_append.2 ⟨g1.asc, g2.asc, fun x hx y hy => lt_of_lt_le ((g1.bd x hx).2 k rfl) ((g2.bd y hy).1 k rfl)⟩
    · rcases List.mem_append.1 hx with hx | hx
      · exact ⟨(g1.bd x hx).1, fun u hu => lt_trans ((g1.bd x hx).2 k rfl) (hku u hu)⟩
      · refine ⟨fun l hl => ?_, (g2.bd x hx).2⟩
        exact le_trans (lt_asymm (hlk l hl)) ((g2.bd x hx).1 k rfl)
    · rcases List.mem_cons.1 hk' with rfl | hk'
      · exact ⟨hlk, hku⟩
      · exact ⟨fun l hl => lt_trans (hlk l hl) ((hb k' hk').1 k rfl), (hb k' hk').2⟩
theorem T.good {M : Mm} : ∀ {h : Nat} {lo hi : Option ByteArray} {a : Nat} {xs : List ByteArray} {ad : List Nat}, T M h lo hi a xs ad → (∃ n, M a = some n ∧ 1 ≤ n.size) → Good lo hi xs
  | 0, _, _, a, xs, _, ⟨h1, _, h3, h4⟩, ⟨n, hn, hz⟩ => by
    rw [h1] at hn
    cases hn
    exact ⟨by intro e; subst e; simp [Nd.size] at hz, h3, h4⟩
  | h + 1, _, _, a, _, _, ⟨ks, cs, ad', h1, h2, h3⟩, _ => (Ts.good (fun lo hi c xs ad hc => T.good hc.1 (by obtain ⟨n, hn, h1, _⟩ := hc.2; exact ⟨n, hn, by omega⟩)) h3).1
theorem Ch.good {M : Mm} {h : Nat} {lo hi : Option ByteArray} {a : Nat} {xs : List ByteArray} {ad : List Nat} (t : Ch M h lo hi a xs ad) : Good lo hi xs :=
  t.1.good (by obtain ⟨n, hn, h1, _⟩ := t.2; exact ⟨n, hn, by omega⟩)
theorem T.asc {M : Mm} {h : Nat} {lo hi : Option ByteArray} {a : Nat} {xs : List ByteArray} {ad : List Nat} (t : T M h lo hi a xs ad) : Asc xs ∧ ∀ x ∈ xs, In lo hi x := by
  cases h with
  | zero => exact t.2.2
  | succ h =>
    obtain ⟨ks, cs, ad', h1, h2, h3⟩ := t
    have := (Ts.good (fun lo hi c xs ad hc => Ch.good hc) h3).1
    exact ⟨this.asc, this.bd⟩
end Go.Proofs.Qxb6603837a
