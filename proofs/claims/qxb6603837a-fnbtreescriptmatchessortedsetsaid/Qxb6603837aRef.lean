/- refill: which neighbour helps. -/
import Derived.Test.Qxb6603837aMg
namespace Go.Proofs.Qxb6603837a
open Go.RowKit
set_option maxHeartbeats 2000000 in
set_option maxRecDepth 100000 in
theorem refill_right {F : Nat → Prop} {V : Nat → Value × Value} {M : Mm} {a l j : Nat} {n nl : Nd} {w : World} {R : World → Prop} (p : PoolV F V w M) (ha : M a = some n) (hl : M l = some nl) (hcl : n.cs[j]? = some l) (hz : 32 < nl.size) (hn : n.cs.length ≤ 900) (hsz : nl.size ≤ 900)
    (hc : Calls Try.prog 52 #[ptr a, .int .i64 j] w fun e w' => e = .returned (.tuple #[]) ∧ R w') :
    Calls Try.prog 42 #[ptr a, .int .i64 ((j : Int) + 1)] w fun e w' => e = .returned (.tuple #[]) ∧ R w' := by
  have hj := (List.getElem?_eq_some_iff.1 hcl).1
  obtain ⟨gc, cc, hvc, hgc, _, hcs, _⟩ := (p.node a n ha).kidFacts (by omega)
  have c1 := (p.node a n ha).cell1
  rw [hvc] at c1
  have e1 := hcs j l hcl
  have hS := size39 (p.node l nl hl)
  clear hcs p
  generalize nl.size = s at *
  generalize n.cs.length = L at *
  go_enter Try.func42, Try.ntmps42
  go_wp2_with (first | (go_at_call 39; refine hS.mono ?_; rintro e w' ⟨rfl, rfl⟩) | (go_at_call 52; refine hc.mono ?_; rintro e w' ⟨rfl, hR⟩))
  refine bodyPost_ret (results_none rfl _ _ _) rfl ?_
  exact ⟨rfl, hR⟩
set_option maxHeartbeats 2000000 in
set_option maxRecDepth 100000 in
theorem refill_left0 {a r : Nat} {n nr : Nd} {F : Nat → Prop} {V : Nat → Value × Value} {M : Mm} {w : World} {R : World → Prop} (p : PoolV F V w M) (ha : M a = some n) (hr : M r = some nr) (hcr : n.cs[1]? = some r) (hz : 32 < nr.size) (hn : n.cs.length ≤ 900) (hsz : nr.size ≤ 900)
    (hc : Calls Try.prog 53 #[ptr a, .int .i64 0] w fun e w' => e = .returned (.tuple #[]) ∧ R w') :
    Calls Try.prog 42 #[ptr a, .int .i64 0] w fun e w' => e = .returned (.tuple #[]) ∧ R w' := by
  have hj := (List.getElem?_eq_some_iff.1 hcr).1
  obtain ⟨gc, cc, hvc, hgc, _, hcs, _⟩ := (p.node a n ha).kidFacts (by omega)
  have c1 := (p.node a n ha).cell1
  rw [hvc] at c1
  have e1 := hcs 1 r hcr
  have hS := size39 (p.node r nr hr)
  clear hcs p
  generalize nr.size = s at *
  generalize n.cs.length = L at *
  go_enter Try.func42, Try.ntmps42
  go_wp2_with (first | (go_at_call 39; refine hS.mono ?_; rintro e w' ⟨rfl, rfl⟩) | (go_at_call 53; refine hc.mono ?_; rintro e w' ⟨rfl, hR⟩))
  refine bodyPost_ret (results_none rfl _ _ _) rfl ?_
  exact ⟨rfl, hR⟩
set_option maxHeartbeats 2000000 in
set_option maxRecDepth 100000 in
theorem refill_left {a l r j : Nat} {n nl nr : Nd} {F : Nat → Prop} {V : Nat → Value × Value} {M : Mm} {w : World} {R : World → Prop} (p : PoolV F V w M) (ha : M a = some n) (hl : M l = some nl) (hr : M r = some nr) (hcl : n.cs[j]? = some l) (hcr : n.cs[j + 2]? = some r) (hzl : nl.size ≤ 32) (hz : 32 < nr.size) (hn : n.cs.length ≤ 900) (hsz : nr.size ≤ 900)
    (hc : Calls Try.prog 53 #[ptr a, .int .i64 ((j : Int) + 1)] w fun e w' => e = .returned (.tuple #[]) ∧ R w') :
    Calls Try.prog 42 #[ptr a, .int .i64 ((j : Int) + 1)] w fun e w' => e = .returned (.tuple #[]) ∧ R w' := by
  have hj := (List.getElem?_eq_some_iff.1 hcr).1
  obtain ⟨gc, cc, hvc, hgc, _, hcs, _⟩ := (p.node a n ha).kidFacts (by omega)
  have c1 := (p.node a n ha).cell1
  rw [hvc] at c1
  have e1 := hcs j l hcl
  have e2 := hcs (j + 2) r hcr
  have hS : ∀ b nb, M b = some nb → Calls Try.prog 39 #[ptr b] w fun e w' => e = .returned (.int .i64 nb.size) ∧ w = w' := fun b nb hb => size39 (p.node b nb hb)
  have hN1 : nl.size ≤ 900 := by omega
  have hN2 : nr.size ≤ 900 := by omega
  clear hcs p
  generalize n.cs.length = L at *
  go_enter Try.func42, Try.ntmps42
  go_wp2_with (first | (go_at_call 39; refine (hS _ nl ?h).mono ?_; exact hl; rintro e w' ⟨rfl, rfl⟩) | (go_at_call 39; refine (hS _ nr ?h).mono ?_; exact hr; rintro e w' ⟨rfl, rfl⟩) | (go_at_call 53; refine hc.mono ?_; rintro e w' ⟨rfl, hR⟩))
  refine bodyPost_ret (results_none rfl _ _ _) rfl ?_
  exact ⟨rfl, hR⟩
set_option maxHeartbeats 2000000 in
set_option maxRecDepth 100000 in
theorem refill_merge0 {a r : Nat} {n nr : Nd} {F : Nat → Prop} {V : Nat → Value × Value} {M : Mm} {w : World} {R : World → Prop} (p : PoolV F V w M) (ha : M a = some n) (hr : M r = some nr) (hcr : n.cs[1]? = some r) (hz : nr.size ≤ 32) (hn : n.cs.length ≤ 900)
    (hc : Calls Try.prog 54 #[ptr a, .int .i64 0] w fun e w' => e = .returned (.tuple #[]) ∧ R w') :
    Calls Try.prog 42 #[ptr a, .int .i64 0] w fun e w' => e = .returned (.tuple #[]) ∧ R w' := by
  have hj := (List.getElem?_eq_some_iff.1 hcr).1
  obtain ⟨gc, cc, hvc, hgc, _, hcs, _⟩ := (p.node a n ha).kidFacts (by omega)
  have c1 := (p.node a n ha).cell1
  rw [hvc] at c1
  have e1 := hcs 1 r hcr
  have hS := size39 (p.node r nr hr)
  clear hcs p
  generalize nr.size = s at *
  generalize n.cs.length = L at *
  go_enter Try.func42, Try.ntmps42
  go_wp2_with (first | (go_at_call 39; refine hS.mono ?_; rintro e w' ⟨rfl, rfl⟩) | (go_at_call 54; refine hc.mono ?_; rintro e w' ⟨rfl, hR⟩))
  go_end0
  exact ⟨rfl, hR⟩
set_option maxHeartbeats 2000000 in
set_option maxRecDepth 100000 in
theorem refill_mergeR {a l r j : Nat} {n nl nr : Nd} {F : Nat → Prop} {V : Nat → Value × Value} {M : Mm} {w : World} {R : World → Prop} (p : PoolV F V w M) (ha : M a = some n) (hl : M l = some nl) (hr : M r = some nr) (hcl : n.cs[j]? = some l) (hcr : n.cs[j + 2]? = some r) (hzl : nl.size ≤ 32) (hz : nr.size ≤ 32) (hn : n.cs.length ≤ 900)
    (hc : Calls Try.prog 54 #[ptr a, .int .i64 j] w fun e w' => e = .returned (.tuple #[]) ∧ R w') :
    Calls Try.prog 42 #[ptr a, .int .i64 ((j : Int) + 1)] w fun e w' => e = .returned (.tuple #[]) ∧ R w' := by
  have hj := (List.getElem?_eq_some_iff.1 hcr).1
  obtain ⟨gc, cc, hvc, hgc, _, hcs, _⟩ := (p.node a n ha).kidFacts (by omega)
  have c1 := (p.node a n ha).cell1
  rw [hvc] at c1
  have e1 := hcs j l hcl
  have e2 := hcs (j + 2) r hcr
  have hS : ∀ b nb, M b = some nb → Calls Try.prog 39 #[ptr b] w fun e w' => e = .returned (.int .i64 nb.size) ∧ w = w' := fun b nb hb => size39 (p.node b nb hb)
  have hN1 : nl.size ≤ 900 := by omega
  have hN2 : nr.size ≤ 900 := by omega
  clear hcs p
  generalize n.cs.length = L at *
  go_enter Try.func42, Try.ntmps42
  go_wp2_with (first | (go_at_call 39; refine (hS _ nl ?h).mono ?_; exact hl; rintro e w' ⟨rfl, rfl⟩) | (go_at_call 39; refine (hS _ nr ?h).mono ?_; exact hr; rintro e w' ⟨rfl, rfl⟩) | (go_at_call 54; refine hc.mono ?_; rintro e w' ⟨rfl, hR⟩))
  go_end0
  exact ⟨rfl, hR⟩
set_option maxHeartbeats 2000000 in
set_option maxRecDepth 100000 in
theorem refill_mergeE {a l j : Nat} {n nl : Nd} {F : Nat → Prop} {V : Nat → Value × Value} {M : Mm} {w : World} {R : World → Prop} (p : PoolV F V w M) (ha : M a = some n) (hl : M l = some nl) (hcl : n.cs[j]? = some l) (hlen : n.cs.length = j + 2) (hzl : nl.size ≤ 32) (hn : n.cs.length ≤ 900)
    (hc : Calls Try.prog 54 #[ptr a, .int .i64 j] w fun e w' => e = .returned (.tuple #[]) ∧ R w') :
    Calls Try.prog 42 #[ptr a, .int .i64 ((j : Int) + 1)] w fun e w' => e = .returned (.tuple #[]) ∧ R w' := by
  obtain ⟨gc, cc, hvc, hgc, _, hcs, _⟩ := (p.node a n ha).kidFacts (by omega)
  have c1 := (p.node a n ha).cell1
  rw [hvc] at c1
  have e1 := hcs j l hcl
  have hS := size39 (p.node l nl hl)
  clear hcs p
  rw [hlen] at c1 hgc hn
  generalize nl.size = s' at *
  go_enter Try.func42, Try.ntmps42
  go_wp2_with (first | (go_at_call 39; refine hS.mono ?_; rintro e w' ⟨rfl, rfl⟩) | (go_at_call 54; refine hc.mono ?_; rintro e w' ⟨rfl, hR⟩))
  go_end0
  exact ⟨rfl, hR⟩
end Go.Proofs.Qxb6603837a
