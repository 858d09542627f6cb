import Derived.Test.Qxb6601407aEq
import Derived.Test.Qxb6601407aLaw1
import Derived.Test.Qxb6601407aTail
import Derived.Deep.CutRange
import Derived.Deep.DeepCutAuto
namespace Go.Proofs.Qxb6601407a
open Go.RowKit
set_option linter.unusedVariables false

/-- Pairs that can be read. -/
def PairsR (w : World) (cv : Option Addr) (len : Nat) (zs : List (Int × Int)) : Prop :=
  zs.length = len ∧ (cv = none → len = 0) ∧ (0 < len → ∃ b off, cv = some ⟨b, off, none⟩ ∧ PairsAt w b off len zs ∧ b < w.heap.size)

theorem PairsR.below {w w' : World} {cv : Option Addr} {len : Nat} {zs : List (Int × Int)} (h : PairsR w cv len zs) (hb : Below w.heap.size w w') : PairsR w' cv len zs :=
  ⟨h.1, h.2.1, fun hl => by
    obtain ⟨b, off, e, h1, h2⟩ := h.2.2 hl
    exact ⟨b, off, e, h1.below hb h2, Nat.lt_of_lt_of_le h2 hb.size⟩⟩

theorem copy_any (a : Option Addr) (len cap : Nat) (zs : List (Int × Int)) (w : World) (hl : len ≤ 1048576) (hc : a = none → cap = 0) (h : PairsR w a len zs) :
    Calls Try.prog 12 #[.slice a len cap] w fun e w' => ∃ cv, e = .returned (.slice cv len len) ∧ PairsR w' cv len zs ∧ Below w.heap.size w w' := by
  cases a with
  | none =>
    obtain rfl := h.2.1 rfl
    obtain rfl := hc rfl
    refine (copy_nil w).mono ?_
    rintro e w' ⟨rfl, rfl⟩
    exact ⟨none, rfl, h, Below.refl _ _⟩
  | some a =>
    refine (copy_some a len cap zs w hl h.1 (fun h0 => ?_)).mono ?_
    · obtain ⟨b, off, e, r⟩ := h.2.2 h0
      exact ⟨b, off, by cases e; rfl, r⟩
    · rintro e w' ⟨rfl, hb, hs, hf⟩
      exact ⟨_, rfl, ⟨h.1, (fun e => nomatch e), fun _ => ⟨_, _, rfl, hf.pairs h.1, hs⟩⟩, hb⟩

/-- The map holds the pairs. -/
def HoldsAll (S : Int → Int → Bool) (zs : List (Int × Int)) : Prop := ∀ p ∈ zs, S p.1 p.2 = true

/-- What is known ahead of the second half: the rows' copy, the pairs' copy, the map. -/
def Mid (w : World) (bv : Value) (vs : List Value) (rows : List (List Int)) (cv : Option Addr) (len : Nat) (zs : List (Int × Int)) (mo : Option Nat) (sz : Nat) (S : Int → Int → Bool) (w' : World) : Prop :=
  RowsR w' bv vs rows ∧ PairsR w' cv len zs ∧ MapO w' mo len sz S ∧ HoldsAll S zs ∧ Below w.heap.size w w' ∧ sz ≤ len ∧ w.heap.size ≤ w'.heap.size ∧ (∀ mb, mo = some mb → w.heap.size ≤ mb ∧ mb < w'.heap.size)

/-- The map is being filled with the pairs. -/
def Fill2 (w2 : World) (zs : List (Int × Int)) (j : Nat) (wr : World) : Prop :=
  ∃ sz S, SetMap wr w2.heap.size j sz S ∧ HoldsAll S (zs.take j) ∧ sz ≤ j ∧ Below w2.heap.size w2 wr ∧ w2.heap.size < wr.heap.size

theorem Fill2.below {w2 wr : World} {zs : List (Int × Int)} {j : Nat} (h : Fill2 w2 zs j wr) : Below w2.heap.size w2 wr := by
  obtain ⟨_, _, _, _, _, h, _⟩ := h; exact h

theorem Fill2.step {w2 wr : World} {zs : List (Int × Int)} {j : Nat} {x y : Int} (h : Fill2 w2 zs j wr) (hxy : zs[j]? = some (x, y)) (hw : okI x ∧ okI y) (hj : j ≤ 65536) :
    ∃ w3, (Instr.mapUpdate 26 (.map (some w2.heap.size)) (.agg #[.int .i64 x, .int .i64 y]) (.agg #[])).run Try.prog wr = .ok () w3 ∧ Fill2 w2 zs (j + 1) w3 := by
  obtain ⟨sz, S, h1, h2, h3, h4, h5⟩ := h
  obtain ⟨w3, hr, hs, ht⟩ := h1.put (by unfold maxLen; omega) hw.1 hw.2
  refine ⟨w3, hr, _, _, hs, ?_, by split <;> omega, h4.grown ht.grown h4.size (fun k hk => by cases hk; exact Nat.le_refl _), Nat.lt_of_lt_of_le h5 ht.grown.size⟩
  obtain ⟨hl, he⟩ := List.getElem?_eq_some_iff.1 hxy
  rw [List.take_succ_eq_append_getElem hl, he]
  intro p hp
  unfold putS
  rcases List.mem_append.1 hp with hp | hp
  · rw [h2 p hp]; rfl
  · simp at hp; subst hp; simp

theorem mid_fill {w0 w1 w2 wr : World} {bv : Value} {vs1 : List Value} {rows : List (List Int)} {cv : Option Addr} {len : Nat} {zs : List (Int × Int)} (hB : Bits w1 w0.heap.size 0 bv vs1 rows) (hb1 : Below w0.heap.size w0 w1) (hb2 : Below w1.heap.size w1 w2) (hpr : PairsR w2 cv len zs) (hf : Fill2 w2 zs len wr) :
    ∃ mo sz S, Value.map (some w2.heap.size) = .map mo ∧ Mid w0 bv vs1 rows cv len zs mo sz S wr := by
  obtain ⟨sz, S, h1, h2, h3, h4, h5⟩ := hf
  rw [List.take_of_length_le (by rw [hpr.1]; exact Nat.le_refl _)] at h2
  have hs := hb1.size
  have hs2 := hb2.size
  exact ⟨_, sz, S, rfl, (hB.read.below hb2).below h4, hpr.below h4, .inr ⟨_, rfl, h1⟩, h2, (hb1.trans (hb2.mono hs)).trans (h4.mono (by omega)), h3, by have := h4.size; omega, fun mb e => by cases e; exact ⟨by omega, h5⟩⟩

theorem mid_none {w0 w1 w2 : World} {bv : Value} {vs1 : List Value} {rows : List (List Int)} {cv : Option Addr} {len : Nat} {zs : List (Int × Int)} (hB : Bits w1 w0.heap.size 0 bv vs1 rows) (hb1 : Below w0.heap.size w0 w1) (hb2 : Below w1.heap.size w1 w2) (hpr : PairsR w2 cv len zs) (hf : cv = none) :
    ∃ mo sz S, Value.map none = .map mo ∧ Mid w0 bv vs1 rows cv len zs mo sz S w2 := by
  have hl := hpr.2.1 hf
  have hz : zs = [] := List.length_eq_zero_iff.1 (by rw [hpr.1, hl])
  have hs := hb1.size
  have hs2 := hb2.size
  refine ⟨none, 0, fun _ _ => false, rfl, hB.read.below hb2, hpr, .inl ⟨rfl, rfl, fun _ _ => rfl⟩, (by rw [hz]; intro p hp; cases hp), hb1.trans (hb2.mono hs), by omega, by omega, fun mb e => by cases e⟩

theorem take_lens {rows : List (List Int)} {k : Nat} {xs : List Int} (h : ∀ ys ∈ rows.take k, ys.length ≤ 1048576) (hx : rows[k]? = some xs) (hl : xs.length ≤ 1048576) : ∀ ys ∈ rows.take (k + 1), ys.length ≤ 1048576 := by
  obtain ⟨hk, he⟩ := List.getElem?_eq_some_iff.1 hx
  rw [List.take_succ_eq_append_getElem hk, he]
  intro ys hys
  rcases List.mem_append.1 hys with h1 | h1
  · exact h ys h1
  · simp at h1; subst h1; exact hl

end Go.Proofs.Qxb6601407a
