import Derived.Test.Qxb6601407aLaw1
import Derived.ProofKit
import Derived.OpenShut
import Derived.ChangeOld
import Derived.Deep.Slices
namespace Go.Proofs.Qxb6601407a
open Go.ChangeShapes Go.WideShapes Go.ChangeAt Go.RowKit Go.Deep
set_option linter.unusedVariables false

/-- A slice of pairs that came in, opened. -/
theorem open_pairs {H : Type} {enc : TypeId × Value → H} {W : World} {sp : Nat → Bool} {held : Bool} {fuel : Nat} {a0 : Option Addr} {len cap : Nat} {x : DataW H × List MemPlace}
    (h : DataW.trod enc Try.prog W 0 sp held fuel 22 [.slice a0 len cap] = some x) :
    (a0 = none ∧ len = 0 ∧ cap = 0) ∨ ∃ a zs, a0 = some a ∧ len ≤ cap ∧ cap ≤ maxLen ∧ In W a len zs ∧ ∀ p ∈ zs, okI p.1 ∧ okI p.2 := by
  rcases open_slice Try.underlying22 h with ⟨hc, _⟩ | ⟨a, l, c, m, n, D, Pl, hc, hb, hl, hm, hmm, _, hx⟩
  · simp at hc
    exact .inl ⟨hc.1, hc.2.1, hc.2.2⟩
  · simp at hc
    obtain ⟨rfl, rfl, rfl⟩ := hc
    right
    have hlm : len ≤ m := by rw [hmm]; split <;> omega
    have each : ∀ i, i < len → ∃ p : Int × Int, W.cell? (a.add (i * 2)) = some (.int .i64 p.1) ∧ W.cell? ((a.add (i * 2)).add 1) = some (.int .i64 p.2) ∧ okI p.1 ∧ okI p.2 := by
      intro i hi
      obtain ⟨cs, h1, h2⟩ := hx i (by omega)
      rw [Try.cells30] at h1
      obtain ⟨xs, m', _, _, h3, h4, h5⟩ := DataW.trod_array Try.underlying30 h2
      rw [Try.cells30] at h3
      have hc := (World.cells?_some h1).2
      obtain ⟨c0, c1, rfl⟩ : ∃ c0 c1, cs = [c0, c1] := by
        match cs, h3 with
        | [c0, c1], _ => exact ⟨c0, c1, rfl⟩
      obtain ⟨x0, x1, rfl⟩ : ∃ x0 x1, xs = [x0, x1] := by
        match xs, h4 with
        | [x0, x1], _ => exact ⟨x0, x1, rfl⟩
      have e0 := h5 0 (by omega)
      have e1 := h5 1 (by omega)
      rw [Try.cells3] at e0 e1
      simp at e0 e1
      obtain ⟨n0, f0, _, w0⟩ := DataW.trod_int Try.underlying3 e0
      obtain ⟨n1, f1, _, w1⟩ := DataW.trod_int Try.underlying3 e1
      simp at f0 f1
      subst f0 f1
      refine ⟨(n0, n1), ?_, ?_, w0, w1⟩
      · have := hc.2 0 (by omega)
        simpa [Addr.add] using this
      · have := hc.2 1 (by omega)
        simpa using this
    obtain ⟨f, hf⟩ := choose_lt each
    refine ⟨a, (List.range len).map f, rfl, hl, hm, ⟨by simp, fun h0 => ?_⟩, ?_⟩
    · obtain ⟨b, off, spot⟩ := a
      have hs : spot = none := by have := World.cell?_spot (hf 0 h0).1; simpa [Addr.add] using this
      subst hs
      have hc0 := (hf 0 h0).1
      refine ⟨b, off, rfl, ⟨by simp, fun i hi => ?_⟩, by simpa [Addr.add] using World.block_lt_of_cell? W _ hc0⟩
      have hg : ((List.range len).map f).getD i (0, 0) = f i := by simp [List.getD, hi]
      rw [hg]
      have h1 := (hf i hi).1
      have h2 := (hf i hi).2.1
      rw [add_add] at h2
      rw [add_plain] at h1 h2
      exact ⟨h1, by rw [Nat.add_assoc]; exact h2⟩
    · intro p hp
      obtain ⟨i, hi, rfl⟩ := List.mem_map.1 hp
      exact (hf i (List.mem_range.1 hi)).2.2
end Go.Proofs.Qxb6601407a
