import Derived.Below
namespace Go.Proofs.Qxb6601678a
set_option linter.unusedVariables false

/-- The number that decimal digits name. -/
def val (ds : List Int) : Int := ds.foldl (fun n c => n * 10 + (c - 48)) 0
theorem val_nil : val [] = 0 := rfl
theorem val_snoc (ds : List Int) (c : Int) : val (ds ++ [c]) = val ds * 10 + (c - 48) := by simp [val, List.foldl_append]

def Digit (c : Int) : Prop := 48 ≤ c ∧ c ≤ 57

theorem val_bound (ds : List Int) (h : ∀ c ∈ ds, Digit c) : 0 ≤ val ds ∧ val ds + 1 ≤ ((10 ^ ds.length : Nat) : Int) := by
  suffices ∀ n, ∀ ds : List Int, ds.length = n → (∀ c ∈ ds, Digit c) → 0 ≤ val ds ∧ val ds + 1 ≤ ((10 ^ n : Nat) : Int) from this ds.length ds rfl h
  intro n
  induction n with
  | zero =>
    intro ds hl _
    have : ds = [] := List.length_eq_zero_iff.1 hl
    subst this
    simp [val]
  | succ n ih =>
    intro ds hl hd
    have hne : ds ≠ [] := fun e => by rw [e] at hl; cases hl
    obtain ⟨ys, c, rfl⟩ : ∃ ys c, ds = ys ++ [c] := ⟨ds.dropLast, ds.getLast hne, (List.dropLast_concat_getLast hne).symm⟩
    have h1 := ih ys (by simpa using hl) (fun d hm => hd d (by simp [hm]))
    have h2 := hd c (by simp)
    unfold Digit at h2
    rw [val_snoc, Nat.pow_succ]
    generalize 10 ^ n = p at h1
    omega

theorem val_le (ds : List Int) (h : ∀ c ∈ ds, Digit c) (k : Nat) (hk : ds.length ≤ k) : 0 ≤ val ds ∧ val ds + 1 ≤ ((10 ^ k : Nat) : Int) := by
  have := val_bound ds h
  have h2 : 10 ^ ds.length ≤ 10 ^ k := Nat.pow_le_pow_right (by omega) hk
  generalize 10 ^ ds.length = p at this h2
  generalize 10 ^ k = q at h2 ⊢
  omega

theorem take_snoc {ds : List Int} {k : Nat} {c : Int} (h : ds[k]? = some c) : ds.take (k + 1) = ds.take k ++ [c] := by
  obtain ⟨hl, he⟩ := List.getElem?_eq_some_iff.1 h
  rw [List.take_succ_eq_append_getElem hl, he]

theorem drop_get (xs : List Int) (i q : Nat) : (xs.drop (i + 1))[q]? = xs[i + 1 + q]? := by rw [List.getElem?_drop]

/-- The first k behind place i are digits. -/
def Digs (xs : List Int) (i k : Nat) : Prop := ∀ q, q < k → ∃ c, xs[i + 1 + q]? = some c ∧ Digit c

theorem Digs.all {xs : List Int} {i k : Nat} (h : Digs xs i k) : ∀ c ∈ (xs.drop (i + 1)).take k, Digit c := by
  intro c hc
  obtain ⟨q, hq⟩ := List.mem_iff_getElem?.1 hc
  rw [List.getElem?_take] at hq
  split at hq
  · rename_i hlt
    rw [drop_get] at hq
    obtain ⟨d, h1, h2⟩ := h q hlt
    rw [h1] at hq
    cases hq
    exact h2
  · cases hq

theorem Digs.snoc {xs : List Int} {i k : Nat} {c : Int} (h : Digs xs i k) (hc : xs[i + 1 + k]? = some c) (hd : Digit c) : Digs xs i (k + 1) := by
  intro q hq
  by_cases e : q = k
  · subst e; exact ⟨c, hc, hd⟩
  · exact h q (by omega)

def V (xs : List Int) (i k : Nat) : Int := val ((xs.drop (i + 1)).take k)
theorem V_snoc {xs : List Int} {i k : Nat} {c : Int} (hc : xs[i + 1 + k]? = some c) : V xs i (k + 1) = V xs i k * 10 + (c - 48) := by
  unfold V
  rw [take_snoc (c := c) (by rw [drop_get]; exact hc), val_snoc]
theorem V_bound {xs : List Int} {i k : Nat} (h : Digs xs i k) (n : Nat) (hk : k ≤ n) : 0 ≤ V xs i k ∧ V xs i k + 1 ≤ ((10 ^ n : Nat) : Int) :=
  val_le _ h.all n (by rw [List.length_take]; omega)

/-- A plain length line stands at i: the prefix, k digits, CR LF. -/
def Acc (xs : List Int) (i : Nat) (p : Int) (k : Nat) : Prop := 1 ≤ k ∧ k ≤ 9 ∧ xs[i]? = some p ∧ Digs xs i k ∧ xs[i + 1 + k]? = some 13 ∧ xs[i + 1 + k + 1]? = some 10

/-- Where a run of digits ends, no other line can stand. -/
theorem no_other {xs : List Int} {i k : Nat} {p : Int} (hk : k ≤ 9) (hd : Digs xs i k) (hs : xs.length ≤ i + 1 + k ∨ k = 9 ∨ ∃ c, xs[i + 1 + k]? = some c ∧ ¬ Digit c) {k' : Nat} (h : Acc xs i p k') : k' = k := by
  obtain ⟨h1, h2, h3, h4, h5, h6⟩ := h
  by_cases hlt : k' < k
  · obtain ⟨c, e, hc⟩ := hd k' hlt
    rw [h5] at e
    cases e
    unfold Digit at hc
    omega
  · by_cases hgt : k < k'
    · obtain ⟨c, e, hc⟩ := h4 k hgt
      rcases hs with hs | hs | ⟨d, hd1, hd2⟩
      · rw [List.getElem?_eq_none hs] at e; cases e
      · omega
      · rw [e] at hd1; cases hd1; exact absurd hc hd2
    · omega

def refused : Go.Ending := .returned (.tuple #[.int .i64 0, .int .i64 0, .bool false])
def accepted (xs : List Int) (i k : Nat) : Go.Ending := .returned (.tuple #[.int .i64 (V xs i k), .int .i64 (i + 1 + k + 2), .bool true])
def Lpl (xs : List Int) (i : Nat) (p : Int) (e : Go.Ending) : Prop := (∃ k, Acc xs i p k ∧ e = accepted xs i k) ∨ ((∀ k, ¬ Acc xs i p k) ∧ e = refused)

/-- Bytes that can be read. -/
def BR (w : Go.World) (a : Option Go.Addr) (xs : List Int) : Prop :=
  (0 < xs.length → ∃ b off, a = some ⟨b, off, none⟩ ∧ b < w.heap.size ∧ ∀ (i : Nat) (x : Int), xs[i]? = some x → w.cell? ⟨b, off + i, none⟩ = some (.int .u8 x)) ∧ ∀ x ∈ xs, 0 ≤ x ∧ x ≤ 255

theorem BR.at {w : Go.World} {a : Option Go.Addr} {xs : List Int} (h : BR w a xs) {k : Nat} (hk : k < xs.length) : ∃ b off x, a = some ⟨b, off, none⟩ ∧ xs[k]? = some x ∧ w.cell? ⟨b, off + k, none⟩ = some (.int .u8 x) ∧ 0 ≤ x ∧ x ≤ 255 := by
  obtain ⟨b, off, e, _, hc⟩ := h.1 (by omega)
  have hx : xs[k]? = some xs[k] := by simp [hk]
  exact ⟨b, off, xs[k], e, hx, hc k _ hx, h.2 _ (List.getElem_mem hk)⟩

open Go.RowKit in
theorem BR.below {w w' : Go.World} {a : Option Go.Addr} {xs : List Int} (h : BR w a xs) (hb : Below w.heap.size w w') : BR w' a xs :=
  ⟨fun hl => by
    obtain ⟨b, off, e, h1, h2⟩ := h.1 hl
    exact ⟨b, off, e, Nat.lt_of_lt_of_le h1 hb.size, fun i x hx => (hb.cell (p := ⟨b, _, none⟩) h1).trans (h2 i x hx)⟩, h.2⟩
end Go.Proofs.Qxb6601678a
