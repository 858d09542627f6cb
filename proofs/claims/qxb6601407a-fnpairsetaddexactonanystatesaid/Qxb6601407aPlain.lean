import Derived.Test.Qxb6601407aAddBits
import Derived.Laws.BitsAllLaws
namespace Go.Proofs.Qxb6601407a
set_option linter.unusedVariables false

/-- The words of the rows are words. -/
def Words (rows : List (List Int)) : Prop := ∀ xs ∈ rows, ∀ x ∈ xs, 0 ≤ x ∧ x < 18446744073709551616

def wordOf (rows : List (List Int)) (b wd : Nat) : Int := (rows.getD b []).getD wd 0

theorem wordOf_ok {rows : List (List Int)} (h : Words rows) (b wd : Nat) : 0 ≤ wordOf rows b wd ∧ wordOf rows b wd < 18446744073709551616 := by
  unfold wordOf
  rw [List.getD, List.getD]
  cases hr : rows[b]? with
  | none => simp
  | some xs =>
    simp only [Option.getD_some]
    cases hx : xs[wd]? with
    | none => simp
    | some x => exact h xs (List.mem_of_getElem? hr) x (List.mem_of_getElem? hx)

theorem pad_getD (rows : List (List Int)) (n y : Nat) : (rows ++ List.replicate n []).getD y [] = rows.getD y [] := by
  rw [List.getD, List.getD]
  by_cases h : y < rows.length
  · rw [List.getElem?_append_left h]
  · rw [List.getElem?_append_right (by omega), List.getElem?_replicate, List.getElem?_eq_none (by omega)]
    split <;> rfl

theorem zeros_getD (xs : List Int) (n q : Nat) : (xs ++ List.replicate n 0).getD q 0 = xs.getD q 0 := by
  rw [List.getD, List.getD]
  by_cases h : q < xs.length
  · rw [List.getElem?_append_left h]
  · rw [List.getElem?_append_right (by omega), List.getElem?_replicate, List.getElem?_eq_none (by omega)]
    split <;> rfl

theorem pow_word (r : Nat) (hr : r < 64) : 2 ^ r < 18446744073709551616 := Nat.lt_of_lt_of_le (Nat.pow_lt_pow_right (by omega) hr) (by decide)

theorem and_pow (n r : Nat) : (n &&& 2 ^ r != 0) = n.testBit r := by
  cases h : n.testBit r with
  | true =>
    have : (n &&& 2 ^ r).testBit r = true := by rw [Nat.testBit_and, h, Nat.testBit_two_pow_self]; rfl
    rw [bne_iff_ne]
    intro e
    rw [e] at this
    simp at this
  | false =>
    have : n &&& 2 ^ r = 0 := by
      apply Nat.eq_of_testBit_eq
      intro i
      rw [Nat.testBit_and, Nat.testBit_two_pow, Nat.zero_testBit]
      by_cases e : r = i
      · subst e; rw [h]; rfl
      · simp [e]
    rw [this]; rfl

theorem bit_test (x : Int) (r : Nat) (hr : r < 64) (h1 : 0 ≤ x) (h2 : x < 18446744073709551616) : (bits .and .u64 x ((2 ^ r : Nat) : Int) != 0) = x.toNat.testBit r := by
  have hp := pow_word r hr
  rw [← and_pow]
  generalize 2 ^ r = p at hp ⊢
  rw [u64_and x _ h1 h2 (by omega) (by omega), Int.toNat_natCast]
  rw [Bool.eq_iff_iff]
  simp only [bne_iff_ne]
  omega

theorem bit_set (x : Int) (r : Nat) (hr : r < 64) (h1 : 0 ≤ x) (h2 : x < 18446744073709551616) : bits .or .u64 x ((2 ^ r : Nat) : Int) = ((x.toNat ||| 2 ^ r : Nat) : Int) ∧ x.toNat ||| 2 ^ r < 18446744073709551616 := by
  have hp := pow_word r hr
  generalize 2 ^ r = p at hp ⊢
  refine ⟨by rw [u64_or x _ h1 h2 (by omega) (by omega), Int.toNat_natCast], ?_⟩
  exact Nat.or_lt_two_pow (n := 64) (by omega) hp

theorem wrap_bit (r : Nat) (hr : r < 64) : IntKind.u64.wrap (2 ^ r) = ((2 ^ r : Nat) : Int) := by
  have hp := pow_word r hr
  have e : (2 : Int) ^ r = ((2 ^ r : Nat) : Int) := by simp
  rw [IntKind.wrap_u64, e]
  generalize 2 ^ r = p at hp ⊢
  omega

theorem addRows_spec {rows rows' : List (List Int)} {b wd r : Nat} {held : Bool} (hw : Words rows) (hr : r < 64) (h : AddRows rows b wd ((2 ^ r : Nat) : Int) held rows') :
    held = (wordOf rows b wd).toNat.testBit r ∧ Words rows' ∧ (∀ y q s, (wordOf rows' y q).toNat.testBit s = ((wordOf rows y q).toNat.testBit s || (decide (y = b) && decide (q = wd) && decide (s = r)))) ∧ rows'.length = max rows.length (b + 1) := by
  obtain ⟨k, x, hx, rfl, rfl⟩ := h
  rw [pad_getD] at *
  have hxw : x = wordOf rows b wd := by
    unfold wordOf
    rw [← zeros_getD _ k, List.getD, hx]; rfl
  have hok := wordOf_ok hw b wd
  rw [← hxw] at hok
  have hset := bit_set x r hr hok.1 hok.2
  refine ⟨by rw [bit_test x r hr hok.1 hok.2, hxw], ?_, ?_, by simp; omega⟩
  · intro xs hxs z hz
    rcases List.mem_or_eq_of_mem_set hxs with h1 | rfl
    · rcases List.mem_append.1 h1 with h2 | h2
      · exact hw xs h2 z hz
      · rw [List.mem_replicate] at h2
        rw [h2.2] at hz; cases hz
    · rcases List.mem_or_eq_of_mem_set hz with h1 | rfl
      · rcases List.mem_append.1 h1 with h2 | h2
        · rw [List.getD] at h2
          cases hb : rows[b]? with
          | none => rw [hb] at h2; cases h2
          | some ys => rw [hb] at h2; exact hw ys (List.mem_of_getElem? hb) z h2
        · rw [List.mem_replicate] at h2
          rw [h2.2]; decide
      · rw [hset.1]; omega
  · intro y q s
    have hbl : b < (rows ++ List.replicate (b + 1 - rows.length) []).length := by simp; omega
    have hwl := (List.getElem?_eq_some_iff.1 hx).1
    by_cases hy : y = b
    · subst hy
      by_cases hq : q = wd
      · subst hq
        have e : wordOf ((rows ++ List.replicate (y + 1 - rows.length) []).set y ((rows.getD y [] ++ List.replicate k 0).set q (bits .or .u64 x ((2 ^ r : Nat) : Int)))) y q = bits .or .u64 x ((2 ^ r : Nat) : Int) := by
          unfold wordOf
          rw [List.getD_eq_getElem?_getD (l := List.set _ _ _), List.getElem?_set, if_pos rfl, if_pos hbl, Option.getD_some, List.getD_eq_getElem?_getD (l := List.set _ _ _), List.getElem?_set, if_pos rfl, if_pos hwl]; rfl
        rw [e, hset.1, Int.toNat_natCast, Nat.testBit_or, Nat.testBit_two_pow, hxw]
        simp [eq_comm]
      · have e : wordOf ((rows ++ List.replicate (y + 1 - rows.length) []).set y ((rows.getD y [] ++ List.replicate k 0).set wd (bits .or .u64 x ((2 ^ r : Nat) : Int)))) y q = wordOf rows y q := by
          unfold wordOf
          rw [List.getD_eq_getElem?_getD (l := List.set _ _ _), List.getElem?_set, if_pos rfl, if_pos hbl, Option.getD_some, List.getD_eq_getElem?_getD (l := List.set _ _ _), List.getElem?_set_ne (Ne.symm hq), ← List.getD_eq_getElem?_getD, zeros_getD]
        rw [e]; simp [hq]
    · have e : wordOf ((rows ++ List.replicate (b + 1 - rows.length) []).set b ((rows.getD b [] ++ List.replicate k 0).set wd (bits .or .u64 x ((2 ^ r : Nat) : Int)))) y q = wordOf rows y q := by
        unfold wordOf
        rw [List.getD_eq_getElem?_getD (l := List.set _ _ _), List.getElem?_set_ne (Ne.symm hy), ← List.getD_eq_getElem?_getD, pad_getD]
      rw [e]; simp [hy]
end Go.Proofs.Qxb6601407a
