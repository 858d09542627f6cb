/-
  Proof of Rows.FnEndingSessionsConditionBracketedSaid. The frame is the given shell.
-/
import Derived.Test.Qxb6601490aRows
import Derived.Test.Qxb6601490aWalks0
import Derived.WalkKit
import Derived.ProofKit
import Derived.OpenShut
import Derived.ShutString
namespace Go.Proofs.Qxb6601490a.fnEndingSessionsConditionBracketed
open Go.ChangeShapes Go.WideShapes Go.ChangeAt Go.RowKit
open Go.ChangeMaps (open_string shut_string)
set_option linter.unusedVariables false      -- a walk need not use every 'w<i>' (that an integer argument fits its kind)

theorem own : ownKnob Try.prog.godebug = none := by kernel_rfl

def WN : ByteArray := ⟨#[87, 73, 84, 72, 32, 110, 101, 119, 108, 121, 95, 101, 110, 100, 101, 100, 32, 65, 83, 32, 40]⟩
def WA : ByteArray := ⟨#[41, 32, 65, 78, 68, 32, 101, 110, 100, 101, 100, 95, 97, 116, 32, 73, 83, 32, 78, 85, 76, 76]⟩
def WR : ByteArray := ⟨#[82, 69, 84, 85, 82, 78, 73, 78, 71, 32, 105, 100, 44, 32, 97, 99, 99, 101, 115, 115, 95, 101, 120, 112, 105, 114, 101, 115, 95, 97, 116]⟩
def WP : ByteArray := ⟨#[112, 103, 95, 110, 111, 116, 105, 102, 121, 40, 39, 108, 97, 116, 99, 104, 107, 101, 121, 95, 115, 101, 115, 115, 105, 111, 110, 95, 101, 110, 100, 101, 100, 39, 44, 32, 105, 100, 58, 58, 116, 101, 120, 116]⟩

theorem idx_n : Plain.idx Plain.Q WN = 3 := by decide +kernel
theorem idx_r : Plain.idx Plain.R WR = 26 := by decide +kernel
theorem idx_p : Plain.idx Plain.R WP = 63 := by decide +kernel
theorem pre_a : WA.size ≤ Plain.R.size ∧ ((Plain.R.extract 0 WA.size).toList == WA.toList) = true := by
  constructor
  · decide +kernel
  · rw [Lib.extract_toList, Lib.toList_data]; decide +kernel

theorem hp_any (s p : ByteArray) (w : World) (h1 : p.size ≤ s.size) (h2 : ((s.extract 0 p.size).toList == p.toList) = true) :
    Calls Try.prog 13 #[.string s, .string p] w fun e w' => e = .returned (.bool true) ∧ w' = w := by
  have h3 : (p.size : Int) ≤ (s.size : Int) := by omega
  go_enter Try.func13, Try.ntmps13
  go_wp2
  go_ret
  exact ⟨rfl, rfl⟩

set_option maxHeartbeats 400000 in
theorem brack_core (a0 X : ByteArray) (r2 r3 r4 : Int) (w : World) (hS : a0.size ≤ 1048576)
    (hX : Hid (∀ w, Calls Try.prog 10 #[.string a0] w fun e w' => e = .returned (.string X) ∧ w' = w))
    (hI : Hid (∀ w, Calls Try.prog 11 #[.string X, .string Plain.W1] w fun e w' => e = .returned (.int .i64 68) ∧ w' = w))
    (hI2 : Hid (∀ w, Calls Try.prog 11 #[.string (X.extract 0 68), .string WN] w fun e w' => e = .returned (.int .i64 r2) ∧ w' = w)) (p2 : 0 ≤ r2)
    (hP : Hid (∀ w, Calls Try.prog 13 #[.string (X.extract (75 + a0.size) X.size), .string WA] w fun e w' => e = .returned (.bool true) ∧ w' = w))
    (hI3 : Hid (∀ w, Calls Try.prog 11 #[.string (X.extract (75 + a0.size) X.size), .string WR] w fun e w' => e = .returned (.int .i64 r3) ∧ w' = w)) (p3 : 0 ≤ r3)
    (hI4 : Hid (∀ w, Calls Try.prog 11 #[.string (X.extract (75 + a0.size) X.size), .string WP] w fun e w' => e = .returned (.int .i64 r4) ∧ w' = w)) (p4 : 0 ≤ r4)
    (x1 : (X.size : Int) ≤ a0.size + 249) (x2 : (a0.size : Int) + 249 ≤ X.size)
    (ee : ((X.extract 75 (75 + a0.size)).toList == a0.toList) = true) :
    Calls Try.prog 5 #[.string a0] w fun e w' => e = .returned (.bool true) ∧ w' = w := by
  go_enter Try.func5, Try.ntmps5
  go_wp2_with (first | (go_at_call 12; go_in))
  go_wp2_with fail
  refine (hX.out _).mono ?_
  rintro e w' ⟨rfl, rfl⟩
  go_wp2_with fail
  refine (hI.out _).mono ?_
  rintro e w' ⟨rfl, rfl⟩
  go_wp2_with fail
  refine (hI2.out _).mono ?_
  rintro e w' ⟨rfl, rfl⟩
  go_wp2_with fail
  refine (hP.out _).mono ?_
  rintro e w' ⟨rfl, rfl⟩
  go_wp2_with fail
  refine (hI3.out _).mono ?_
  rintro e w' ⟨rfl, rfl⟩
  go_wp2_with fail
  refine (hI4.out _).mono ?_
  rintro e w' ⟨rfl, rfl⟩
  go_wp2
  go_ret
  exact ⟨by simp, rfl⟩

/-! ### STEP 1: THE WALK: the Go text returns true. 'Grown w w'': the world has at most new blocks (Derived/RowKit3.lean). Part the cases AHEAD of 'go_enter' where a test parts the walk; take each callee by a contract of your own. -/
theorem walk (a0 : ByteArray) (w0 : a0.size ≤ maxLen) (w : World) :
    Calls Try.prog 5 #[.string a0] w fun e w' => e = .returned (.bool true) ∧ Grown w w' := by
  unfold maxLen at w0
  by_cases hA : a0.size ≤ 1048576
  · have e1 := Plain.es_size a0
    refine (brack_core a0 (Plain.es a0) 3 26 63 w hA (fun w => zes_any _ w (by omega)) (fun w => ?_) (fun w => ?_) (by omega) (fun w => ?_) (fun w => ?_) (by omega) (fun w => ?_) (by omega) (by omega) (by omega) ?_).mono ?_
    · rw [← Plain.idx_where a0]; exact idx_any _ _ w (by omega) (by decide +kernel)
    · rw [Plain.cut_head, ← idx_n]; exact idx_any _ _ w (by decide +kernel) (by decide +kernel)
    · rw [Plain.cut_rest]; exact hp_any _ _ w pre_a.1 pre_a.2
    · rw [Plain.cut_rest, ← idx_r]; exact idx_any _ _ w (by decide +kernel) (by decide +kernel)
    · rw [Plain.cut_rest, ← idx_p]; exact idx_any _ _ w (by decide +kernel) (by decide +kernel)
    · rw [Plain.cut_mid]; simp
    · rintro e w' ⟨rfl, rfl⟩; exact ⟨rfl, Grown.refl _⟩
  · go_enter Try.func5, Try.ntmps5
    go_wp2
    go_ret
    exact ⟨rfl, Grown.refl _⟩

/-! ### THE ROW's STEP: WRITTEN OUT: LEAVE IT -/
set_option maxRecDepth 100000 in
theorem lifted (os : Os) (started : os.Started) (H : Type) (enc : TypeId × Value → H) :
    ReturnsInHanded {} Try.checked os 5 .any (Rows.fnEndingSessionsConditionBracketedSpec.pre6 enc Try.prog Try.f5 Rows.fnEndingSessionsConditionBracketedRow.domain false) (Rows.fnEndingSessionsConditionBracketedSpec.post enc Try.prog Try.f5 false true false false) := by
  refine returnsInHanded_of_change (C := Try.checked) own started (by kernel_rfl) Try.func5
    (ChangeSpec.witness6 (enc := enc) (C := Try.checked) false ⟨#[], #[.string ByteArray.empty], []⟩ 8 (by kernel_rfl) (by kernel_rfl) (by kernel_rfl) (by kernel_rfl)) ?_
  intro W base args ds gs before hval0 hW hcnd _
  have hval : ∀ (j : Nat) t v, Try.f5.params[j]? = some t → args[j]? = some v → Value.okWide Try.prog W .any base t v := hval0
  have hW' := hW
  obtain ⟨p, q, hA0, hV, rfl, hfz, hnd⟩ := hW
  have hA : DataW.TrodAll enc Try.prog W 0 (fun _ => true) true Try.f5.params.toList args.toList ds p := hA0
  rw [Try.params5] at hA hval
  obtain ⟨v0, vs0, d0, ds0, p0, q0, hargs, rfl, rfl, h0, r0⟩ := trodAll_cons hA
  obtain ⟨rfl, rfl, rfl⟩ := trodAll_nil r0
  obtain rfl : args = #[v0] := by cases args; simp_all
  obtain ⟨rfl, rfl⟩ := trodVars_none hV
  obtain ⟨a0, rfl, rfl, rfl, w0⟩ := open_string Try.underlying9 (hval 0 9 v0 rfl rfl) h0
  clear hA0 hval0
  simp only [List.append_nil] at hW'
  refine (walk a0 w0 W).mono fun e W' ⟨he, hg⟩ => ?_
  subst he
  exact ⟨_, rfl, post_of_same (pa := []) (pv := []) hW' (fun _ _ _ => (trodAll_cons_mk (shut_bool Try.underlying4 _) trodAll_mk0)) (fun sp _ => (trodAll_cons_mk (shut_string Try.underlying9 w0) trodAll_mk0)) (fun _ _ => rfl) rfl
    (hg.frame _) hg.2.1 (ok_one (by kernel_rfl) rfl (okWide_bool_mk Try.underlying4 _))⟩

theorem over : Rows.fnEndingSessionsConditionBracketedRow.holds Try.pinned (OpenSpec.ofChange Rows.fnEndingSessionsConditionBracketedSpec) :=
  OpenClaim.holds_of_wide 5 Try.f5 rfl rfl rfl rfl rfl rfl rfl ⟨rfl, rfl, rfl, rfl, rfl⟩ rfl rfl rfl rfl rfl (by kernel_rfl) Try.func5 (by kernel_rfl)
    (of_decide_eq_true (by kernel_rfl)) (by unfold Func.isWrapper; first | (rw [if_pos (by decide +kernel)]; kernel_rfl) | (rw [if_neg (by decide +kernel)]; exact ⟨rfl, rfl⟩))
    (fun os started H enc _ => lifted os started H enc)

/-- ████ THE STATEMENT ████ -/
theorem proved : Rows.FnEndingSessionsConditionBracketedSaid :=
  over
#print axioms proved
end Go.Proofs.Qxb6601490a.fnEndingSessionsConditionBracketed
