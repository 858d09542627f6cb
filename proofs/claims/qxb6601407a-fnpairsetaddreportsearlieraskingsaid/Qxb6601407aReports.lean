/-
  Proof of Rows.FnPairSetAddReportsEarlierAskingSaid. The frame is after the guide's shell for slices of integers.
-/
import Derived.Test.Qxb6601407aOpen
import Derived.ShutString
import Derived.Below
namespace Go.Proofs.Qxb6601407a.fnPairSetAddReportsEarlierAsking
open Go.ChangeShapes Go.WideShapes Go.ChangeAt Go.RowKit
set_option linter.unusedVariables false

theorem own : ownKnob Try.prog.godebug = none := by kernel_rfl

theorem law1_nil (w : World) : Calls Try.prog 3 #[.slice none 0 0] w fun e w' => e = .returned (.bool true) ∧ Below w.heap.size w w' := by
  have hmm := @run_makeMap Try.prog
  go_enter Try.func3, Try.ntmps3
  go_wp2_with fail
  refine (bytes1 _ _ _ _ (by omega)).mono ?_
  rintro e w0 ⟨rfl, hw0⟩
  subst hw0
  go_wp2_with fail
  refine (doms_zero _ _ _).mono ?_
  rintro e w1 ⟨rfl, hw1⟩
  subst hw1
  go_wp2_with fail
  refine (copy_nil _).mono ?_
  rintro e w2 ⟨rfl, hw2⟩
  subst hw2
  go_wp2_with fail
  refine wp_loop_rounds 1 ?_
  rw [rounds_succ]
  go_wp2
  go_ret
  exact ⟨rfl, ((Below.refl _ _).alloc (Nat.le_refl _) _).alloc (by simp) _⟩

theorem law1_big (a : Option Addr) (len cap : Nat) (w : World) (h : 65536 < len) (hm : len ≤ maxLen) : Calls Try.prog 3 #[.slice a len cap] w fun e w' => e = .returned (.bool true) ∧ Below w.heap.size w w' := by
  unfold maxLen at hm
  by_cases hb : len ≤ 1048576
  · go_enter Try.func3, Try.ntmps3
    go_wp2_with fail
    refine (bytes1 _ _ _ _ hb).mono ?_
    rintro e w0 ⟨rfl, hw0⟩
    subst hw0
    go_wp2
    go_ret
    exact ⟨rfl, Below.refl _ _⟩
  · go_enter Try.func3, Try.ntmps3
    go_wp2_with fail
    refine (bytes1_not _ _ _ _ hb hm).mono ?_
    rintro e w0 ⟨rfl, hw0⟩
    subst hw0
    go_wp2
    go_ret
    exact ⟨rfl, Below.refl _ _⟩

theorem law1_undom (a : Addr) (len cap : Nat) (zs : List (Int × Int)) (w : World) (hl : len ≤ 65536) (hz : In w a len zs) (hdom : allDom zs = false) :
    Calls Try.prog 3 #[.slice (some a) len cap] w fun e w' => e = .returned (.bool true) ∧ Below w.heap.size w w' := by
  have HZ := hide hz
  clear hz
  go_enter Try.func3, Try.ntmps3
  go_wp2_with fail
  refine (bytes1 _ _ _ _ (by omega)).mono ?_
  rintro e w0 ⟨rfl, hw0⟩
  subst hw0
  go_wp2_with fail
  refine (doms_any _ _ _ zs _ (by omega) HZ.out).mono ?_
  rintro e w1 ⟨rfl, hb1⟩
  go_wp2
  go_ret
  exact ⟨rfl, hb1⟩

/-! ### THE ROW's STEP -/
set_option maxRecDepth 100000 in
theorem lifted (os : Os) (started : os.Started) (H : Type) (enc : TypeId × Value → H) :
    ReturnsInHanded {} Try.checked os 3 .any (Rows.fnPairSetAddReportsEarlierAskingSpec.pre6 enc Try.prog Try.f3 Rows.fnPairSetAddReportsEarlierAskingRow.domain false) (Rows.fnPairSetAddReportsEarlierAskingSpec.post enc Try.prog Try.f3 false true false false) := by
  refine returnsInHanded_of_change (C := Try.checked) own started (by kernel_rfl) Try.func3
    (ChangeSpec.witness6 (enc := enc) (C := Try.checked) false ⟨#[], #[.slice none 0 0], []⟩ 8 (by kernel_rfl) (by kernel_rfl) (by kernel_rfl) (by kernel_rfl)) ?_
  intro W base args ds gs before hval0 hW hcnd _
  have hval : ∀ (j : Nat) t v, Try.f3.params[j]? = some t → args[j]? = some v → Value.okWide Try.prog W .any base t v := hval0
  have hW' := hW
  obtain ⟨p, q, hA0, hV, rfl, hfz, hnd⟩ := hW
  have hA : DataW.TrodAll enc Try.prog W 0 (fun _ => true) true Try.f3.params.toList args.toList ds p := hA0
  rw [Try.params3] at hA hval
  obtain ⟨v0, vs0, d0, ds0, p0, q0, hargs, rfl, rfl, h0, r0⟩ := trodAll_cons hA
  obtain ⟨rfl, rfl, rfl⟩ := trodAll_nil r0
  obtain rfl : args = #[v0] := by cases args; simp_all
  obtain ⟨rfl, rfl⟩ := trodVars_none hV
  obtain ⟨a0, len0, cap0, rfl⟩ := okWide_slice Try.underlying22 (hval 0 22 v0 rfl rfl)
  have k0 := h0
  have lt0 : ∀ x ∈ p0, x.block < W.heap.size := by obtain ⟨m, hm⟩ := k0; exact DataW.trod_lt m _ _ _ hm
  have walked : Calls Try.prog 3 #[.slice a0 len0 cap0] W fun e w' => e = .returned (.bool true) ∧ Below W.heap.size W w' := by
    obtain ⟨fuel, hf⟩ := h0
    rcases open_pairs (by simpa [Value.cells] using hf) with ⟨rfl, rfl, rfl⟩ | ⟨a, zs, rfl, hl, hm, hz, hwf⟩
    · exact law1_nil W
    · by_cases hbig : 65536 < len0
      · exact law1_big _ _ _ W hbig (Nat.le_trans hl hm)
      · cases hd : allDom zs with
        | true => exact law1_some a len0 cap0 zs W (by omega) hz hwf hd
        | false => exact law1_undom a len0 cap0 zs W (by omega) hz hd
  clear hA0 hval0
  refine walked.mono fun e W' ⟨he, bel⟩ => ?_
  subst he
  exact ⟨_, rfl, _, _, _, [], _, [], hW', trodAll_mk1 (shut_bool Try.underlying4 _), (trodAll_cons_mk (Below.trod Try.laidOut (by kernel_rfl) (of_decide_eq_true (by kernel_rfl)) k0 bel lt0) trodAll_mk0), rfl, bel.frame _, fun h => by cases h⟩

theorem over : Rows.fnPairSetAddReportsEarlierAskingRow.holds Try.pinned (OpenSpec.ofChange Rows.fnPairSetAddReportsEarlierAskingSpec) :=
  OpenClaim.holds_of_wide 3 Try.f3 rfl rfl rfl rfl rfl rfl rfl ⟨rfl, rfl, rfl, rfl, rfl⟩ rfl rfl rfl rfl rfl (by kernel_rfl) Try.func3 (by kernel_rfl)
    (of_decide_eq_true (by kernel_rfl)) (by unfold Func.isWrapper; first | (rw [if_pos (by decide +kernel)]; kernel_rfl) | (rw [if_neg (by decide +kernel)]; exact ⟨rfl, rfl⟩))
    (fun os started H enc _ => lifted os started H enc)

/-- THE STATEMENT -/
theorem proved : Rows.FnPairSetAddReportsEarlierAskingSaid := over
#print axioms proved
end Go.Proofs.Qxb6601407a.fnPairSetAddReportsEarlierAsking
