/-
  Proof of Rows.FnPairSetAddExactOnAnyStateSaid. The frame is after the guide's shell for slices of integers.
-/
import Derived.Test.Qxb6601407aExactL
import Derived.Test.Qxb6601407aExactH
import Derived.Test.Qxb6601407aExactU
import Derived.Test.Qxb6601407aOpen
import Derived.ShutString
import Derived.Below
namespace Go.Proofs.Qxb6601407a.fnPairSetAddExactOnAnyState
open Go.ChangeShapes Go.WideShapes Go.ChangeAt Go.RowKit Go.Deep
set_option linter.unusedVariables false

theorem own : ownKnob Try.prog.godebug = none := by kernel_rfl
theorem Try.cells55 : Try.prog.cellsOf 55 = 1 := by kernel_rfl
theorem Try.cells58 : Try.prog.cellsOf 58 = 1 := by kernel_rfl

/-- A row of words that came in, opened. -/
theorem open_row {H : Type} {enc : TypeId × Value → H} {W : World} {sp : Nat → Bool} {held : Bool} {fuel : Nat} {v : Value} {x : DataW H × List MemPlace}
    (h : DataW.trod enc Try.prog W 0 sp held fuel 55 [v] = some x) : ∃ xs, RowR W v xs := by
  rcases open_slice1 Try.underlying55 Try.cells58 h with ⟨hc, _⟩ | ⟨a, l, c, m, n, V, D, Pl, hc, hb, hl, hm, hmm, _, hx⟩
  · simp at hc
    exact ⟨[], none, 0, hc, by simp, fun _ => ⟨rfl, rfl⟩, fun h => by simp at h⟩
  · simp at hc
    have hlm : l ≤ m := by rw [hmm]; split <;> omega
    have each : ∀ i, i < l → ∃ z : Int, W.cell? (a.add i) = some (.int .u64 z) := by
      intro i hi
      obtain ⟨h1, h2⟩ := hx i (by omega)
      obtain ⟨z, f0, _, _⟩ := DataW.trod_int Try.underlying58 h2
      simp at f0
      exact ⟨z, by rw [h1, f0]⟩
    obtain ⟨f, hf⟩ := choose_lt each
    refine ⟨(List.range l).map f, some a, c, by simpa using hc, by simp; omega, (fun e => nomatch e), fun h0 => ?_⟩
    simp at h0
    obtain ⟨b, off, spot⟩ := a
    have hs : spot = none := by have := World.cell?_spot (hf 0 h0); simpa [Addr.add] using this
    subst hs
    have hc0 := hf 0 h0
    refine ⟨b, off, rfl, by simpa [Addr.add] using World.block_lt_of_cell? W _ hc0, fun i z hz => ?_⟩
    have hi : i < l := by simpa using (List.getElem?_eq_some_iff.1 hz).1
    have e : z = f i := by simp [hi] at hz; exact hz.symm
    have h1 := hf i hi
    rw [add_plain] at h1
    rw [e]; exact h1

/-- Rows that came in, opened. -/
theorem open_rows {H : Type} {enc : TypeId × Value → H} {W : World} {sp : Nat → Bool} {held : Bool} {fuel : Nat} {v : Value} {x : DataW H × List MemPlace}
    (h : DataW.trod enc Try.prog W 0 sp held fuel 25 [v] = some x) : ∃ vs rows, RowsR W v vs rows ∧ rows.length ≤ maxLen := by
  rcases open_slice1 Try.underlying25 Try.cells55 h with ⟨hc, _⟩ | ⟨a, l, c, m, n, V, D, Pl, hc, hb, hl, hm, hmm, _, hx⟩
  · simp at hc
    exact ⟨[], [], ⟨none, 0, hc, fun _ => ⟨rfl, rfl⟩, rfl, fun h => by simp at h, fun i u xs hu => by simp at hu⟩, by simp⟩
  · simp at hc
    have hlm : l ≤ m := by rw [hmm]; split <;> omega
    have each : ∀ i, i < l → ∃ xs : List Int, RowR W (V i) xs := fun i hi => open_row (hx i (by omega)).2
    obtain ⟨f, hf⟩ := choose_lt each
    refine ⟨(List.range l).map V, (List.range l).map f, ⟨some a, c, by simpa using hc, (fun e => nomatch e), by simp, fun h0 => ?_, fun i u xs hu hxs => ?_⟩, by simp; omega⟩
    · simp at h0
      obtain ⟨b, off, spot⟩ := a
      have hs : spot = none := by have := World.cell?_spot (hx 0 (by omega)).1; simpa [Addr.add] using this
      subst hs
      have hc0 := (hx 0 (by omega)).1
      refine ⟨b, off, rfl, by simpa [Addr.add] using World.block_lt_of_cell? W _ hc0, fun i u hu => ?_⟩
      have hi : i < l := by simpa using (List.getElem?_eq_some_iff.1 hu).1
      have e : u = V i := by simp [hi] at hu; exact hu.symm
      have h1 := (hx i (by omega)).1
      rw [add_plain] at h1
      rw [e]; exact h1
    · have hi : i < l := by simpa using (List.getElem?_eq_some_iff.1 hu).1
      have e : u = V i := by simp [hi] at hu; exact hu.symm
      have e2 : xs = f i := by simp [hi] at hxs; exact hxs.symm
      rw [e, e2]; exact hf i hi

theorem walked {H : Type} {enc : TypeId × Value → H} {W : World} {f0 f1 : Nat} {v0 : Value} {a1 : Option Addr} {l1 c1 : Nat} {x0 x1 : DataW H × List MemPlace} {a b : Int}
    (h0 : DataW.trod enc Try.prog W 0 (fun _ => true) true f0 25 [v0] = some x0) (h1 : DataW.trod enc Try.prog W 0 (fun _ => true) true f1 22 [.slice a1 l1 c1] = some x1) (ha : okI a) (hb : okI b) :
    Calls Try.prog 9 #[v0, .slice a1 l1 c1, .int .i64 a, .int .i64 b] W fun e w' => e = .returned (.bool true) ∧ Below W.heap.size W w' := by
  obtain ⟨vs, rows, hR, hrm⟩ := open_rows h0
  obtain ⟨zs, hP, hwf, hlm, hc2⟩ : ∃ zs, PairsR W a1 l1 zs ∧ (∀ p ∈ zs, okI p.1 ∧ okI p.2) ∧ l1 ≤ maxLen ∧ (a1 = none → c1 = 0) := by
    rcases open_pairs h1 with ⟨rfl, rfl, rfl⟩ | ⟨ad, zs, rfl, hl, hm, hz, hwf⟩
    · exact ⟨[], ⟨rfl, fun _ => rfl, fun h => absurd h (Nat.lt_irrefl _)⟩, by simp, by simp, fun _ => rfl⟩
    · refine ⟨zs, ⟨hz.1, (fun e => nomatch e), fun h => ?_⟩, hwf, Nat.le_trans hl hm, (fun e => nomatch e)⟩
      obtain ⟨b', off, rfl, r⟩ := hz.2 h
      exact ⟨b', off, rfl, r⟩
  by_cases hbig : 65536 < rows.length ∨ 65536 < l1
  · exact exact_big v0 vs rows a1 l1 c1 a b W hR hrm hlm hbig
  · have hrl : rows.length ≤ 65536 := by omega
    have hl : l1 ≤ 65536 := by omega
    by_cases hbad : b < 0 ∨ (0 ≤ b ∧ b < 64 ∧ (a < 0 ∨ 4194304 ≤ a))
    · exact exact_undom v0 vs rows a1 l1 c1 zs a b W hR hrl hP hc2 hl hwf ha hb hbad
    · by_cases h64 : b < 64
      · obtain ⟨bn, rfl⟩ : ∃ bn : Nat, b = bn := ⟨b.toNat, by omega⟩
        exact exact_low v0 vs rows a1 l1 c1 zs a bn W hR hrl hP hc2 hl hwf ha hb (by omega) (by omega) (by omega)
      · exact exact_high v0 vs rows a1 l1 c1 zs a b W hR hrl hP hc2 hl hwf ha hb (by omega)

/-! ### THE ROW's STEP -/
set_option maxRecDepth 100000 in
theorem lifted (os : Os) (started : os.Started) (H : Type) (enc : TypeId × Value → H) :
    ReturnsInHanded {} Try.checked os 9 .any (Rows.fnPairSetAddExactOnAnyStateSpec.pre6 enc Try.prog Try.f9 Rows.fnPairSetAddExactOnAnyStateRow.domain false) (Rows.fnPairSetAddExactOnAnyStateSpec.post enc Try.prog Try.f9 false true false false) := by
  refine returnsInHanded_of_change (C := Try.checked) own started (by kernel_rfl) Try.func9
    (ChangeSpec.witness6 (enc := enc) (C := Try.checked) false ⟨#[], #[.slice none 0 0, .slice none 0 0, .int .i64 0, .int .i64 0], []⟩ 8 (by kernel_rfl) (by kernel_rfl) (by kernel_rfl) (by kernel_rfl)) ?_
  intro W base args ds gs before hval0 hW hcnd _
  have hval : ∀ (j : Nat) t v, Try.f9.params[j]? = some t → args[j]? = some v → Value.okWide Try.prog W .any base t v := hval0
  have hW' := hW
  obtain ⟨p, q, hA0, hV, rfl, hfz, hnd⟩ := hW
  have hA : DataW.TrodAll enc Try.prog W 0 (fun _ => true) true Try.f9.params.toList args.toList ds p := hA0
  rw [Try.params9] at hA hval
  obtain ⟨v0, vs0, d0, ds0, p0, q0, hargs, rfl, rfl, h0, r0⟩ := trodAll_cons hA
  obtain ⟨v1, vs1, d1, ds1, p1, q1, rfl, rfl, rfl, h1, r1⟩ := trodAll_cons r0
  obtain ⟨v2, vs2, d2, ds2, p2, q2, rfl, rfl, rfl, h2, r2⟩ := trodAll_cons r1
  obtain ⟨v3, vs3, d3, ds3, p3, q3, rfl, rfl, rfl, h3, r3⟩ := trodAll_cons r2
  obtain ⟨rfl, rfl, rfl⟩ := trodAll_nil r3
  obtain rfl : args = #[v0, v1, v2, v3] := by cases args; simp_all
  obtain ⟨rfl, rfl⟩ := trodVars_none hV
  obtain ⟨a0, len0, cap0, rfl⟩ := okWide_slice Try.underlying25 (hval 0 25 v0 rfl rfl)
  obtain ⟨a1, len1, cap1, rfl⟩ := okWide_slice Try.underlying22 (hval 1 22 v1 rfl rfl)
  obtain ⟨a2, rfl, rfl, rfl, w2⟩ := open_int Try.underlying3 (hval 2 3 v2 rfl rfl) h2
  obtain ⟨a3, rfl, rfl, rfl, w3⟩ := open_int Try.underlying3 (hval 3 3 v3 rfl rfl) h3
  have k0 := h0
  have k1 := h1
  have lt0 : ∀ x ∈ p0, x.block < W.heap.size := by obtain ⟨m, hm⟩ := k0; exact DataW.trod_lt m _ _ _ hm
  have lt1 : ∀ x ∈ p1, x.block < W.heap.size := by obtain ⟨m, hm⟩ := k1; exact DataW.trod_lt m _ _ _ hm
  obtain ⟨f0, hf0⟩ := h0
  obtain ⟨f1, hf1⟩ := h1
  have wk := walked (a := a2) (b := a3) (by simpa [Value.cells] using hf0) (by simpa [Value.cells] using hf1) w2 w3
  clear hA0 hval0
  refine wk.mono fun e W' ⟨he, bel⟩ => ?_
  subst he
  exact ⟨_, rfl, _, _, _, [], _, [], hW', trodAll_mk1 (shut_bool Try.underlying4 _), (trodAll_cons_mk (Below.trod Try.laidOut (by kernel_rfl) (of_decide_eq_true (by kernel_rfl)) k0 bel lt0) (trodAll_cons_mk (Below.trod Try.laidOut (by kernel_rfl) (of_decide_eq_true (by kernel_rfl)) k1 bel lt1) (trodAll_cons_mk (shut_int Try.underlying3 w2) (trodAll_cons_mk (shut_int Try.underlying3 w3) trodAll_mk0)))), rfl, bel.frame _, fun h => by cases h⟩

theorem over : Rows.fnPairSetAddExactOnAnyStateRow.holds Try.pinned (OpenSpec.ofChange Rows.fnPairSetAddExactOnAnyStateSpec) :=
  OpenClaim.holds_of_wide 9 Try.f9 rfl rfl rfl rfl rfl rfl rfl ⟨rfl, rfl, rfl, rfl, rfl⟩ rfl rfl rfl rfl rfl (by kernel_rfl) Try.func9 (by kernel_rfl)
    (of_decide_eq_true (by kernel_rfl)) (by unfold Func.isWrapper; first | (rw [if_pos (by decide +kernel)]; kernel_rfl) | (rw [if_neg (by decide +kernel)]; exact ⟨rfl, rfl⟩))
    (fun os started H enc _ => lifted os started H enc)

/-- THE STATEMENT -/
theorem proved : Rows.FnPairSetAddExactOnAnyStateSaid := over
#print axioms proved
end Go.Proofs.Qxb6601407a.fnPairSetAddExactOnAnyState
