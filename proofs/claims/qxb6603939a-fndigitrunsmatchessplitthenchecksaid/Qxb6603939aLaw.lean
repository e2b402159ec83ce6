import Derived.Test.Qxb6603939aModel
import Derived.ProofKit
import Derived.OpenShut
import Derived.ShutString
import Derived.ChangeOld
import Derived.Below
namespace Go.Proofs.Qxb6603939a
open Go.RowKit Plain
theorem bytes4 (s : ByteArray) (w : World) (hs : s.size ≤ 1048576) :
    Calls Try.prog 4 #[.string s] w fun e w' => e = .returned (.bool true) ∧ w = w' := by
  go_enter Try.func4, Try.ntmps4
  go_wp2
  go_ret
  exact ⟨rfl, rfl⟩
theorem bytes4_no (s : ByteArray) (w : World) (hs : 1048576 < s.size) :
    Calls Try.prog 4 #[.string s] w fun e w' => e = .returned (.bool false) ∧ w = w' := by
  go_enter Try.func4, Try.ntmps4
  go_wp2
  go_ret
  exact ⟨rfl, rfl⟩
theorem zz5 (s : ByteArray) (w : World) (hs : s.size ≤ 1048576) :
    Calls Try.prog 5 #[.string s] w fun e w' => ∃ v, e = .returned (.tuple #[v, .bool (okM s)]) ∧ Below w.heap.size w w' ∧
      (okM s = true → w'.ownsRow w.heap.size 9 1 v (pieces s).length ((pieces s).map Value.string)) ∧ (okM s = false → v = .slice none 0 0) := by
  go_enter Try.func5, Try.ntmps5
  go_wp2_with (go_at_call 8; refine (digitRuns8 _ _ hs).mono ?_; rintro e w' ⟨v, rfl, hb, h1, h2⟩)
  go_ret2
  exact ⟨v, rfl, hb, h1, h2⟩
theorem row_kept {w1 w2 : World} {g : Nat} {L : List ByteArray} (hb : Below w1.heap.size w1 w2) (hg : g < w1.heap.size) (h : ∀ j, j < L.length → w1.cell? ⟨g, j, none⟩ = some (.string (L.getD j ByteArray.empty))) :
    ∀ j, j < L.length → w2.cell? ⟨g, j, none⟩ = some (.string (L.getD j ByteArray.empty)) := fun j hj => (hb.cell (p := ⟨g, j, none⟩) hg).trans (h j hj)
set_option maxHeartbeats 1000000 in
theorem walk (s : ByteArray) (w0 : s.size ≤ maxLen) (w : World) :
    Calls Try.prog 3 #[.string s] w fun e w' => e = .returned (.bool true) ∧ Below w.heap.size w w' := by
  unfold maxLen at w0
  by_cases hs : s.size ≤ 1048576
  · cases hok : okM s with
    | true =>
      have HT : Hid (okM s = true) := hok
      clear hok
      go_enter Try.func3, Try.ntmps3
      go_wp2_with (go_at_call 4; refine (bytes4 _ _ hs).mono ?_; rintro e w' ⟨rfl, rfl⟩)
      refine (zz5 s _ hs).mono ?_
      rintro e w1 ⟨v1, rfl, hb1, h1, -⟩
      rw [HT.out]
      go_wp2_with fail
      refine (model6 s _ hs).mono ?_
      rintro e w2 ⟨v2, rfl, hb2, h2, -⟩
      rw [HT.out]
      obtain ⟨g1, c1, hv1, _, l1, q1⟩ := row_open (h1 HT.out) (pieces_pos s)
      obtain ⟨g2, c2, hv2, _, l2, q2⟩ := row_open (h2 HT.out) (pieces_pos s)
      have q1' := row_kept hb2 l1 q1
      have hl : (pieces s).length ≤ s.size + 1 := len_le s (s.size + 1)
      rw [hv1, hv2]
      clear h1 h2 hv1 hv2 q1
      go_wp2_with fail
      refine (same7 (pieces s) g1 c1 g2 c2 _ (by omega) q1' q2).mono ?_
      rintro e w3 ⟨rfl, hb3⟩
      go_wp2_with fail
      go_ret
      have z1 := hb1.size
      have z2 := hb2.size
      exact ⟨rfl, (hb1.trans (hb2.mono z1)).trans (hb3.mono (by omega))⟩
    | false =>
      have HT : Hid (okM s = false) := hok
      clear hok
      go_enter Try.func3, Try.ntmps3
      go_wp2_with (go_at_call 4; refine (bytes4 _ _ hs).mono ?_; rintro e w' ⟨rfl, rfl⟩)
      refine (zz5 s _ hs).mono ?_
      rintro e w1 ⟨v1, rfl, hb1, -, h1⟩
      rw [HT.out, h1 HT.out]
      go_wp2_with fail
      refine (model6 s _ hs).mono ?_
      rintro e w2 ⟨v2, rfl, hb2, -, h2⟩
      rw [HT.out, h2 HT.out]
      have hnil := fun wx => Lib.run_eql_slice_nil (P := Try.prog) wx 23 9 none 0 0 0 0 Try.underlying23
      go_wp2_with fail
      go_ret
      have z1 := hb1.size
      exact ⟨rfl, hb1.trans (hb2.mono z1)⟩
  · have hs' : 1048576 < s.size := by omega
    go_enter Try.func3, Try.ntmps3
    go_wp2_with (go_at_call 4; refine (bytes4_no _ _ hs').mono ?_; rintro e w' ⟨rfl, rfl⟩)
    go_ret
    exact ⟨rfl, Below.refl _ _⟩

section
open Go.ChangeShapes Go.WideShapes Go.ChangeAt Go.RowKit
open Go.ChangeMaps (open_string shut_string)
set_option linter.unusedVariables false
theorem own : ownKnob Try.prog.godebug = none := by kernel_rfl
set_option maxRecDepth 100000 in
theorem lifted (os : Os) (started : os.Started) (H : Type) (enc : TypeId × Value → H) :
    ReturnsInHanded {} Try.checked os 3 .any (Rows.fnDigitRunsMatchesSplitThenCheckSpec.pre6 enc Try.prog Try.f3 Rows.fnDigitRunsMatchesSplitThenCheckRow.domain false) (Rows.fnDigitRunsMatchesSplitThenCheckSpec.post enc Try.prog Try.f3 false true false false) := by
  refine returnsInHanded_of_change (C := Try.checked) own started (by kernel_rfl) Try.func3
    (ChangeSpec.witness6 (enc := enc) (C := Try.checked) false ⟨#[], #[.string ByteArray.empty], []⟩ 8 (by kernel_rfl) (by kernel_rfl) (by kernel_rfl) (by kernel_rfl)) ?_
  intro W base args ds gs before hval0 hW hcnd _
  have hval : ∀ (j : Nat) t v, Try.f3.params[j]? = some t → args[j]? = some v → Value.okWide Try.prog W .any base t v := hval0
  have hW' := hW
  obtain ⟨p, q, hA0, hV, rfl, hfz, hnd⟩ := hW
  have hA : DataW.TrodAll enc Try.prog W 0 (fun _ => true) true Try.f3.params.toList args.toList ds p := hA0
  rw [Try.params3] at hA hval
  obtain ⟨v0, vs0, d0, ds0, p0, q0, hargs, rfl, rfl, h0, r0⟩ := trodAll_cons hA
  obtain ⟨rfl, rfl, rfl⟩ := trodAll_nil r0
  obtain rfl : args = #[v0] := by cases args; simp_all
  obtain ⟨rfl, rfl⟩ := trodVars_none hV
  obtain ⟨a0, rfl, rfl, rfl, w0⟩ := open_string Try.underlying9 (hval 0 9 v0 rfl rfl) h0
  clear hA0 hval0
  refine (walk a0 w0 W).mono fun e W' ⟨he, bel⟩ => ?_
  subst he
  exact ⟨_, rfl, _, _, _, [], _, [], hW', trodAll_mk1 (shut_bool Try.underlying4 _), (trodAll_cons_mk (shut_string Try.underlying9 w0) trodAll_mk0), rfl, bel.frame _, fun h => by cases h⟩
theorem over : Rows.fnDigitRunsMatchesSplitThenCheckRow.holds Try.pinned (OpenSpec.ofChange Rows.fnDigitRunsMatchesSplitThenCheckSpec) :=
  OpenClaim.holds_of_wide 3 Try.f3 rfl rfl rfl rfl rfl rfl rfl ⟨rfl, rfl, rfl, rfl, rfl⟩ rfl rfl rfl rfl rfl (by kernel_rfl) Try.func3 (by kernel_rfl)
    (of_decide_eq_true (by kernel_rfl)) (by unfold Func.isWrapper; first | (rw [if_pos (by decide +kernel)]; kernel_rfl) | (rw [if_neg (by decide +kernel)]; exact ⟨rfl, rfl⟩))
    (fun os started H enc _ => lifted os started H enc)
end
theorem fnDigitRunsMatchesSplitThenCheck_proved : Rows.FnDigitRunsMatchesSplitThenCheckSaid :=
  over
end Go.Proofs.Qxb6603939a
