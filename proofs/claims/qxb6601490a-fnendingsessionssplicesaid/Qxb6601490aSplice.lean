/-
  Proof of Rows.FnEndingSessionsSpliceSaid. The frame is the given shell.
-/
import Derived.Test.Qxb6601490aRows
import Derived.Test.Qxb6601490aWalks0
import Derived.Deep.QuietTactic
import Derived.BigQuiet
import Derived.WalkKit
import Derived.ProofKit
import Derived.OpenShut
import Derived.ShutString
namespace Go.Proofs.Qxb6601490a.fnEndingSessionsSplice
open Go.ChangeShapes Go.WideShapes Go.ChangeAt Go.RowKit
open Go.ChangeMaps (open_string shut_string)
set_option linter.unusedVariables false      -- a walk need not use every 'w<i>' (that an integer argument fits its kind)

theorem own : ownKnob Try.prog.godebug = none := by kernel_rfl

set_option maxHeartbeats 400000 in
theorem splice_core (a0 E X : ByteArray) (w : World) (hS : a0.size ≤ 1048576)
    (hE : Hid (∀ w, Calls Try.prog 10 #[.string ⟨#[]⟩] w fun e w' => e = .returned (.string E) ∧ w' = w))
    (hX : Hid (∀ w, Calls Try.prog 10 #[.string a0] w fun e w' => e = .returned (.string X) ∧ w' = w))
    (hI : Hid (∀ w, Calls Try.prog 11 #[.string E, .string Plain.W2] w fun e w' => e = .returned (.int .i64 68) ∧ w' = w))
    (e1 : E.size = 249)
    (ee : Hid (X = E.extract 0 75 ++ a0 ++ E.extract 75 249)) :
    Calls Try.prog 4 #[.string a0] w fun e w' => e = .returned (.bool true) ∧ ∃ n, w' = w.drewN n := by
  go_enter Try.func4, Try.ntmps4
  go_wp2_with (first | (go_at_call 9; go_in))
  go_wp2_with fail
  refine (hE.out _).mono ?_
  rintro e w' ⟨rfl, rfl⟩
  go_wp2_with fail
  refine (hI.out _).mono ?_
  rintro e w' ⟨rfl, rfl⟩
  go_wp2_with fail
  go_quiet ((go_at_call 10; exact Calls.quiet_of_same (hX.out _)))
  go_wp2
  go_ret
  exact ⟨by simp [ee.out], _, rfl⟩

theorem grown_drewN (w : World) : ∀ n, Grown w (w.drewN n)
  | 0 => Grown.refl _
  | n + 1 => Grown.drew (grown_drewN w n)


/-! ### STEP 1: THE WALK: the Go text returns true. 'Grown w w'': the world has at most new blocks (Derived/RowKit3.lean). Part the cases AHEAD of 'go_enter' where a test parts the walk; take each callee by a contract of your own. -/
theorem walk (a0 : ByteArray) (w0 : a0.size ≤ maxLen) (w : World) :
    Calls Try.prog 4 #[.string a0] w fun e w' => e = .returned (.bool true) ∧ Grown w w' := by
  unfold maxLen at w0
  by_cases hA : a0.size ≤ 1048576
  · have e1 := Plain.es_size ⟨#[]⟩
    have z0 : (⟨#[]⟩ : ByteArray).size = 0 := rfl
    refine (splice_core a0 (Plain.es ⟨#[]⟩) (Plain.es a0) w hA (fun w => zes_any _ w (by omega)) (fun w => zes_any _ w (by omega)) (fun w => ?_) (by omega) (Plain.splice a0)).mono ?_
    · rw [← Plain.idx_empty]; exact idx_any _ _ w (by omega) (by decide +kernel)
    · rintro e w' ⟨rfl, n, rfl⟩
      exact ⟨rfl, grown_drewN w n⟩
  · go_enter Try.func4, Try.ntmps4
    go_wp2
    go_ret
    exact ⟨rfl, Grown.refl _⟩

/-! ### THE ROW's STEP: WRITTEN OUT: LEAVE IT -/
set_option maxRecDepth 100000 in
theorem lifted (os : Os) (started : os.Started) (H : Type) (enc : TypeId × Value → H) :
    ReturnsInHanded {} Try.checked os 4 .any (Rows.fnEndingSessionsSpliceSpec.pre6 enc Try.prog Try.f4 Rows.fnEndingSessionsSpliceRow.domain false) (Rows.fnEndingSessionsSpliceSpec.post enc Try.prog Try.f4 false true false false) := by
  refine returnsInHanded_of_change (C := Try.checked) own started (by kernel_rfl) Try.func4
    (ChangeSpec.witness6 (enc := enc) (C := Try.checked) false ⟨#[], #[.string ByteArray.empty], []⟩ 8 (by kernel_rfl) (by kernel_rfl) (by kernel_rfl) (by kernel_rfl)) ?_
  intro W base args ds gs before hval0 hW hcnd _
  have hval : ∀ (j : Nat) t v, Try.f4.params[j]? = some t → args[j]? = some v → Value.okWide Try.prog W .any base t v := hval0
  have hW' := hW
  obtain ⟨p, q, hA0, hV, rfl, hfz, hnd⟩ := hW
  have hA : DataW.TrodAll enc Try.prog W 0 (fun _ => true) true Try.f4.params.toList args.toList ds p := hA0
  rw [Try.params4] at hA hval
  obtain ⟨v0, vs0, d0, ds0, p0, q0, hargs, rfl, rfl, h0, r0⟩ := trodAll_cons hA
  obtain ⟨rfl, rfl, rfl⟩ := trodAll_nil r0
  obtain rfl : args = #[v0] := by cases args; simp_all
  obtain ⟨rfl, rfl⟩ := trodVars_none hV
  obtain ⟨a0, rfl, rfl, rfl, w0⟩ := open_string Try.underlying9 (hval 0 9 v0 rfl rfl) h0
  clear hA0 hval0
  simp only [List.append_nil] at hW'
  refine (walk a0 w0 W).mono fun e W' ⟨he, hg⟩ => ?_
  subst he
  exact ⟨_, rfl, post_of_same (pa := []) (pv := []) hW' (fun _ _ _ => (trodAll_cons_mk (shut_bool Try.underlying4 _) trodAll_mk0)) (fun sp _ => (trodAll_cons_mk (shut_string Try.underlying9 w0) trodAll_mk0)) (fun _ _ => rfl) rfl
    (hg.frame _) hg.2.1 (ok_one (by kernel_rfl) rfl (okWide_bool_mk Try.underlying4 _))⟩

theorem over : Rows.fnEndingSessionsSpliceRow.holds Try.pinned (OpenSpec.ofChange Rows.fnEndingSessionsSpliceSpec) :=
  OpenClaim.holds_of_wide 4 Try.f4 rfl rfl rfl rfl rfl rfl rfl ⟨rfl, rfl, rfl, rfl, rfl⟩ rfl rfl rfl rfl rfl (by kernel_rfl) Try.func4 (by kernel_rfl)
    (of_decide_eq_true (by kernel_rfl)) (by unfold Func.isWrapper; first | (rw [if_pos (by decide +kernel)]; kernel_rfl) | (rw [if_neg (by decide +kernel)]; exact ⟨rfl, rfl⟩))
    (fun os started H enc _ => lifted os started H enc)

/-- ████ THE STATEMENT ████ -/
theorem proved : Rows.FnEndingSessionsSpliceSaid :=
  over
#print axioms proved
end Go.Proofs.Qxb6601490a.fnEndingSessionsSplice
