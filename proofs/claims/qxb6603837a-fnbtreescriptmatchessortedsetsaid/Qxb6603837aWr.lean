/- The shim's functions: thin wrappers, a new leaf, a new root. -/
import Derived.Test.Qxb6603837aGrw
namespace Go.Proofs.Qxb6603837a
open Go.RowKit
theorem isLeaf28 {a : Nat} {v : Value × Value} {n : Nd} {w : World} (h : NodeIn w a v n) :
    Calls Try.prog 28 #[ptr a] w fun e w' => e = .returned (.bool n.leaf?) ∧ w = w' := by
  have hl := leaf35 h
  go_enter Try.func28, Try.ntmps28
  go_wp2_with (go_at_call 35; refine hl.mono ?_; rintro e w' ⟨rfl, rfl⟩)
  go_ret
  exact ⟨rfl, rfl⟩
theorem keys29 {a : Nat} {v : Value × Value} {n : Nd} {w : World} (h : NodeIn w a v n) :
    Calls Try.prog 29 #[ptr a] w fun e w' => e = .returned v.1 ∧ w = w' := by
  have c0 := h.cell0
  go_enter Try.func29, Try.ntmps29
  go_wp2_with fail
  go_ret
  exact ⟨rfl, rfl⟩
theorem kids32 {a : Nat} {v : Value × Value} {n : Nd} {w : World} (h : NodeIn w a v n) :
    Calls Try.prog 32 #[ptr a] w fun e w' => e = .returned v.2 ∧ w = w' := by
  have c0 := h.cell1
  go_enter Try.func32, Try.ntmps32
  go_wp2_with fail
  go_ret
  exact ⟨rfl, rfl⟩
theorem zzInsert15 {a : Nat} {key : ByteArray} {w : World} {Q : Value → Value → Value → World → Prop} (h : Calls Try.prog 33 #[ptr a, .string key] w fun e w' => ∃ x y z, e = .returned (.tuple #[x, y, z]) ∧ Q x y z w') :
    Calls Try.prog 15 #[ptr a, .string key] w fun e w' => ∃ x y z, e = .returned (.tuple #[x, y, z]) ∧ Q x y z w' := by
  go_enter Try.func15, Try.ntmps15
  go_wp2_with (go_at_call 33; refine h.mono ?_; rintro e w' ⟨x, y, z, rfl, hq⟩; have HQ : Hid _ := hq; clear hq)
  go_ret3
  exact ⟨x, y, z, rfl, HQ.out⟩
theorem zzRemove23 {a : Nat} {key : ByteArray} {w : World} {Q : Value → World → Prop} (h : Calls Try.prog 34 #[ptr a, .string key] w fun e w' => ∃ x, e = .returned x ∧ Q x w') :
    Calls Try.prog 23 #[ptr a, .string key] w fun e w' => ∃ x, e = .returned x ∧ Q x w' := by
  go_enter Try.func23, Try.ntmps23
  go_wp2_with (go_at_call 34; refine h.mono ?_; rintro e w' ⟨x, rfl, hq⟩; have HQ : Hid _ := hq; clear hq)
  go_ret
  exact ⟨x, rfl, HQ.out⟩
/-- a new node of the call's own -/
structure NewNode (w w' : World) (r : Nat) (n : Nd) (v : Value × Value) : Prop where
  keeps : Keeps No w w'
  ge : w.heap.size ≤ r
  node : NodeIn w' r v n
  k1 : ∀ g, v.1.ownBlock = some g → w.heap.size ≤ g
  k2 : ∀ g, v.2.ownBlock = some g → w.heap.size ≤ g
def NewPost (w : World) (n : Nd) (e : Ending) (w' : World) : Prop := ∃ r v, e = .returned (ptr r) ∧ NewNode w w' r n v
theorem newLeaf21 (w : World) : Calls Try.prog 21 #[] w (NewPost w ⟨[], []⟩) := by
  go_enter Try.func21, Try.ntmps21
  go_wp2_with fail
  go_ret
  refine ⟨w.heap.size, (.slice none 0 0, .slice none 0 0), rfl, (Keeps.refl No w).alloc _, Nat.le_refl _, ⟨At.new w 60 _, OwnS.nil _ _, OwnS.nil _ _, fun _ => rfl⟩, fun g hg => (by cases hg), fun g hg => (by cases hg)⟩
theorem newRoot18 (w : World) (a b : Nat) (sep : ByteArray) : Calls Try.prog 18 #[ptr a, .string sep, ptr b] w (NewPost w ⟨[sep], [a, b]⟩) := by
  go_enter Try.func18, Try.ntmps18
  go_wp2_with fail
  go_ret
  have e1 : (w.alloc (Obj.cells #[Value.string sep] 9)).heap.size = w.heap.size + 1 := by simp
  have e2 : ((w.alloc (Obj.cells #[Value.string sep] 9)).alloc (Obj.cells #[ptr a, ptr b] 25)).heap.size = w.heap.size + 1 + 1 := by simp
  have n1 := At.new w 9 #[Value.string sep]
  have n2 := At.new (w.alloc (Obj.cells #[Value.string sep] 9)) 25 #[ptr a, ptr b]
  rw [e1] at n2
  refine ⟨_, (.slice (some ⟨w.heap.size, 0, none⟩) 1 1, .slice (some ⟨w.heap.size + 1, 0, none⟩) 2 2), rfl, (((Keeps.refl No w).alloc _).alloc _).alloc _, by omega, ⟨?_, ?_, ?_, fun h => by cases h⟩, fun g hg => ?_, fun g hg => ?_⟩
  · have := At.new ((w.alloc (Obj.cells #[Value.string sep] 9)).alloc (Obj.cells #[ptr a, ptr b] 25)) 60 #[Value.slice (some ⟨w.heap.size, 0, none⟩) 1 1, Value.slice (some ⟨w.heap.size + 1, 0, none⟩) 2 2]
    rw [e2] at this
    exact this
  · exact .inr ⟨w.heap.size, 1, [], rfl, by simpa using (n1.alloc _).alloc _, rfl, by omega⟩
  · exact .inr ⟨w.heap.size + 1, 2, [], rfl, by simpa using n2.alloc _, rfl, by omega⟩
  · cases hg; exact Nat.le_refl _
  · cases hg; exact Nat.le_succ _
set_option maxHeartbeats 1000000 in
theorem shrink_stop {F : Nat → Prop} {V : Nat → Value × Value} {M : Mm} {a : Nat} {n : Nd} {w : World} (p : PoolV F V w M) (hm : M a = some n) (hn : n.cs.length ≠ 1) :
    Calls Try.prog 24 #[ptr a] w fun e w' => e = .returned (ptr a) ∧ w = w' := by
  have hlf := isLeaf28 (p.node a n hm)
  have hk := kids32 (p.node a n hm)
  have hd : decide ((n.cs.length : Int) = 1) = false := by simp; omega
  rcases (p.node a n hm).nilKids with ⟨h1, h2⟩ | ⟨h1, h2, g, c, h3⟩
  · rw [h1] at hlf
    clear hk p
    go_enter Try.func24, Try.ntmps24
    go_wp2
    go_loopg [0, 3] 1 (fun g s0 s3 wr => s0 = ptr a ∧ s3 = .int .i64 0 ∧ wr = w)
    case atStart => exact ⟨rfl, rfl, rfl⟩
    case round =>
      obtain ⟨rfl, rfl, rfl⟩ := hrel
      go_wp2_with (go_at_call 28; refine hlf.mono ?_; rintro e w' ⟨rfl, rfl⟩)
      go_ret
      exact ⟨rfl, rfl⟩
  · rw [h1] at hlf
    rw [h3] at hk
    clear p h3
    generalize n.cs.length = L at *
    go_enter Try.func24, Try.ntmps24
    go_wp2
    go_loopg [0, 3] 1 (fun g s0 s3 wr => s0 = ptr a ∧ s3 = .int .i64 0 ∧ wr = w)
    case atStart => exact ⟨rfl, rfl, rfl⟩
    case round =>
      obtain ⟨rfl, rfl, rfl⟩ := hrel
      go_wp2_with (first | (go_at_call 28; refine hlf.mono ?_; rintro e w' ⟨rfl, rfl⟩) | (go_at_call 32; refine hk.mono ?_; rintro e w' ⟨rfl, rfl⟩))
      go_ret
      exact ⟨rfl, rfl⟩
set_option maxHeartbeats 1000000 in
theorem shrink_one {F : Nat → Prop} {V : Nat → Value × Value} {M : Mm} {a c : Nat} {n nc : Nd} {w : World} (p : PoolV F V w M) (hm : M a = some n) (hn : n.cs = [c]) (hc : M c = some nc) (hnc : nc.cs.length ≠ 1) :
    Calls Try.prog 24 #[ptr a] w fun e w' => e = .returned (ptr c) ∧ w = w' := by
  have hlf := isLeaf28 (p.node a n hm)
  have hk := kids32 (p.node a n hm)
  have hlf2 := isLeaf28 (p.node c nc hc)
  have hk2 := kids32 (p.node c nc hc)
  have hd : decide ((nc.cs.length : Int) = 1) = false := by simp; omega
  have h1 : n.leaf? = false := by simp [Nd.leaf?, hn]
  obtain ⟨g, cp, hv, _, _, hcell, _⟩ := (p.node a n hm).kidFacts (by simp [hn])
  have e0 := hcell 0 c (by simp [hn])
  rw [h1] at hlf
  rw [hv, hn] at hk
  simp only [List.length_singleton] at hk
  rcases (p.node c nc hc).nilKids with ⟨h1, h2⟩ | ⟨h1, h2, g', c', h3⟩
  · rw [h1] at hlf2
    clear hk2 p hv hcell
    go_enter Try.func24, Try.ntmps24
    go_wp2
    go_loopg [0, 3] 1 (fun g s0 s3 wr => wr = w ∧ ((s0 = ptr a ∧ s3 = .int .i64 0 ∧ g = 1) ∨ (s0 = ptr c ∧ s3 = .int .i64 1)))
    case atStart => exact ⟨rfl, .inl ⟨rfl, rfl, rfl⟩⟩
    case round =>
      obtain ⟨rfl, ⟨rfl, rfl, rfl⟩ | ⟨rfl, rfl⟩⟩ := hrel
      · go_wp2_with (first | (go_at_call 28; refine hlf.mono ?_; rintro e w' ⟨rfl, rfl⟩) | (go_at_call 32; refine hk.mono ?_; rintro e w' ⟨rfl, rfl⟩))
        go_roundg 0
        case measure => omega
        case rel => exact ⟨rfl, .inr ⟨rfl, rfl⟩⟩
      · go_wp2_with (first | (go_at_call 28; refine hlf2.mono ?_; rintro e w' ⟨rfl, rfl⟩))
        go_ret
        exact ⟨rfl, rfl⟩
  · rw [h1] at hlf2
    rw [h3] at hk2
    clear p hv hcell h3
    generalize nc.cs.length = L at *
    go_enter Try.func24, Try.ntmps24
    go_wp2
    go_loopg [0, 3] 1 (fun g s0 s3 wr => wr = w ∧ ((s0 = ptr a ∧ s3 = .int .i64 0 ∧ g = 1) ∨ (s0 = ptr c ∧ s3 = .int .i64 1)))
    case atStart => exact ⟨rfl, .inl ⟨rfl, rfl, rfl⟩⟩
    case round =>
      obtain ⟨rfl, ⟨rfl, rfl, rfl⟩ | ⟨rfl, rfl⟩⟩ := hrel
      · go_wp2_with (first | (go_at_call 28; refine hlf.mono ?_; rintro e w' ⟨rfl, rfl⟩) | (go_at_call 32; refine hk.mono ?_; rintro e w' ⟨rfl, rfl⟩))
        go_roundg 0
        case measure => omega
        case rel => exact ⟨rfl, .inr ⟨rfl, rfl⟩⟩
      · go_wp2_with (first | (go_at_call 28; refine hlf2.mono ?_; rintro e w' ⟨rfl, rfl⟩) | (go_at_call 32; refine hk2.mono ?_; rintro e w' ⟨rfl, rfl⟩))
        go_ret
        exact ⟨rfl, rfl⟩
end Go.Proofs.Qxb6603837a
