import Derived.Test.Qxb6601678aPlain
namespace Go.Proofs.Qxb6601678a
set_option linter.unusedVariables false

/-- The decimal digits of a number, with fuel. -/
def decF : Nat → Nat → List Int
  | 0, _ => []
  | f + 1, x => if x = 0 then [] else decF f (x / 10) ++ [((48 + x % 10 : Nat) : Int)]

/-- Enough fuel is enough. -/
theorem decF_fuel : ∀ (f g x : Nat), x ≤ f → x ≤ g → decF f x = decF g x := by
  intro f
  induction f with
  | zero =>
    intro g x hf hg
    obtain rfl : x = 0 := by omega
    cases g <;> simp [decF]
  | succ f ih =>
    intro g x hf hg
    cases g with
    | zero =>
      obtain rfl : x = 0 := by omega
      simp [decF]
    | succ g =>
      unfold decF
      by_cases hx : x = 0
      · simp [hx]
      · rw [if_neg hx, if_neg hx, ih g (x / 10) (by omega) (by omega)]

def dec (x : Nat) : List Int := decF x x
theorem dec_zero : dec 0 = [] := rfl
theorem dec_step {x : Nat} (h : 0 < x) : dec x = dec (x / 10) ++ [((48 + x % 10 : Nat) : Int)] := by
  unfold dec
  obtain ⟨y, rfl⟩ : ∃ y, x = y + 1 := ⟨x - 1, by omega⟩
  show (if y + 1 = 0 then [] else decF y ((y + 1) / 10) ++ _) = _
  rw [if_neg (by omega), decF_fuel y ((y + 1) / 10) ((y + 1) / 10) (by omega) (Nat.le_refl _)]

theorem dec_pos {x : Nat} (h : 0 < x) : 0 < (dec x).length := by rw [dec_step h]; simp

theorem dec_len (k : Nat) : ∀ x, x < 10 ^ k → (dec x).length ≤ k := by
  induction k with
  | zero =>
    intro x hx
    obtain rfl : x = 0 := by simpa using hx
    simp [dec_zero]
  | succ k ih =>
    intro x hx
    by_cases h0 : x = 0
    · subst h0; simp [dec_zero]
    · rw [dec_step (by omega)]
      have := ih (x / 10) (by rw [Nat.pow_succ] at hx; omega)
      simp; omega

theorem dec_bytes (x : Nat) : ∀ c ∈ dec x, 0 ≤ c ∧ c ≤ 255 := by
  suffices ∀ n x, x ≤ n → ∀ c ∈ dec x, 0 ≤ c ∧ c ≤ 255 from this x x (Nat.le_refl _)
  intro n
  induction n with
  | zero =>
    intro x hx c hc
    obtain rfl : x = 0 := by omega
    simp [dec_zero] at hc
  | succ n ih =>
    intro x hx c hc
    by_cases h0 : x = 0
    · subst h0; simp [dec_zero] at hc
    · rw [dec_step (by omega)] at hc
      rcases List.mem_append.1 hc with hc | hc
      · exact ih (x / 10) (by omega) c hc
      · simp at hc; omega

/-- Digits without their leading noughts. -/
def strip (ds : List Int) : List Int := ds.dropWhile (fun c => c == 48)

theorem strip_snoc (ds : List Int) (c : Int) : strip (ds ++ [c]) = if strip ds = [] then (if c = 48 then [] else [c]) else strip ds ++ [c] := by
  induction ds with
  | nil =>
    by_cases h : c = 48
    · subst h; simp [strip]
    · simp [strip, h]
  | cons d r ih =>
    by_cases h : d = 48
    · subst h
      have e1 : strip ((48 : Int) :: r ++ [c]) = strip (r ++ [c]) := by simp [strip]
      have e2 : strip ((48 : Int) :: r) = strip r := by simp [strip]
      rw [e1, e2]; exact ih
    · have e1 : strip (d :: r ++ [c]) = d :: r ++ [c] := by simp [strip, h]
      have e2 : strip (d :: r) = d :: r := by simp [strip, h]
      rw [e1, e2]; simp

theorem dec_val (ds : List Int) (h : ∀ c ∈ ds, Digit c) : dec (val ds).toNat = strip ds := by
  suffices ∀ n, ∀ ds : List Int, ds.length = n → (∀ c ∈ ds, Digit c) → 0 ≤ val ds ∧ dec (val ds).toNat = strip ds ∧ (strip ds = [] ↔ val ds = 0) from (this ds.length ds rfl h).2.1
  intro n
  induction n with
  | zero =>
    intro ds hl _
    have : ds = [] := List.length_eq_zero_iff.1 hl
    subst this
    simp [val, strip, dec_zero]
  | succ n ih =>
    intro ds hl hd
    have hne : ds ≠ [] := fun e => by rw [e] at hl; cases hl
    obtain ⟨ys, c, rfl⟩ : ∃ ys c, ds = ys ++ [c] := ⟨ds.dropLast, ds.getLast hne, (List.dropLast_concat_getLast hne).symm⟩
    obtain ⟨i1, i2, i3⟩ := ih ys (by simpa using hl) (fun d hm => hd d (by simp [hm]))
    have h2 := hd c (by simp)
    unfold Digit at h2
    rw [val_snoc, strip_snoc]
    generalize val ys = v at i1 i2 i3
    refine ⟨by omega, ?_, ?_⟩
    · by_cases hv : v = 0
      · rw [if_pos (i3.2 hv)]
        subst hv
        by_cases hc : c = 48
        · subst hc; simp [dec_zero]
        · rw [if_neg hc, dec_step (by omega)]
          have e1 : ((0 : Int) * 10 + (c - 48)).toNat / 10 = 0 := by omega
          have e2 : ((48 + ((0 : Int) * 10 + (c - 48)).toNat % 10 : Nat) : Int) = c := by omega
          rw [e1, e2, dec_zero]; rfl
      · rw [if_neg (fun e => hv (i3.1 e)), dec_step (by omega)]
        have e1 : (v * 10 + (c - 48)).toNat / 10 = v.toNat := by omega
        have e2 : ((48 + (v * 10 + (c - 48)).toNat % 10 : Nat) : Int) = c := by omega
        rw [e1, e2, i2]
    · by_cases hv : v = 0
      · rw [if_pos (i3.2 hv)]
        subst hv
        by_cases hc : c = 48
        · subst hc; simp
        · rw [if_neg hc]; simp; omega
      · rw [if_neg (fun e => hv (i3.1 e))]
        simp; omega

theorem strip_drop (ds : List Int) : ∃ k, k ≤ ds.length ∧ strip ds = ds.drop k ∧ (∀ q, q < k → ds[q]? = some 48) ∧ (k = ds.length ∨ ∃ c, ds[k]? = some c ∧ c ≠ 48) := by
  induction ds with
  | nil => exact ⟨0, by simp, by simp [strip], by simp, .inl rfl⟩
  | cons d r ih =>
    by_cases h : d = 48
    · subst h
      obtain ⟨k, h1, h2, h3, h4⟩ := ih
      refine ⟨k + 1, by simp; omega, by simp [strip] at h2 ⊢; exact h2, fun q hq => ?_, ?_⟩
      · cases q with
        | zero => rfl
        | succ q => simpa using h3 q (by omega)
      · rcases h4 with h4 | ⟨c, h4, h5⟩
        · exact .inl (by simp; omega)
        · exact .inr ⟨c, by simpa using h4, h5⟩
    · exact ⟨0, by simp, by simp [strip, h], by simp, .inr ⟨d, by simp, h⟩⟩

/-- Are there digits, and digits alone? -/
def allD (ds : List Int) : Bool := !ds.isEmpty && ds.all (fun c => decide (48 ≤ c) && decide (c ≤ 57))
theorem allD_iff (ds : List Int) : allD ds = true ↔ ds ≠ [] ∧ ∀ c ∈ ds, Digit c := by
  unfold allD Digit; simp

theorem acc_unique {xs : List Int} {i : Nat} {p p' : Int} {k k' : Nat} (h : Acc xs i p k) (h' : Acc xs i p' k') : k' = k :=
  no_other h.2.1 h.2.2.2.1 (.inr (.inr ⟨13, h.2.2.2.2.1, by unfold Digit; omega⟩)) h'
end Go.Proofs.Qxb6601678a
