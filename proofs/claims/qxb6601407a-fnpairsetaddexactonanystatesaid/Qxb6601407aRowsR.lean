import Derived.Test.Qxb6601407aAdd
import Derived.Test.Qxb6601407aCopy
namespace Go.Proofs.Qxb6601407a
open Go.RowKit
set_option linter.unusedVariables false

/-- A row of words that can be read. -/
def RowR (w : World) (v : Value) (xs : List Int) : Prop :=
  ∃ a cap, v = .slice a xs.length cap ∧ xs.length ≤ maxLen ∧ (a = none → xs = [] ∧ cap = 0) ∧ (0 < xs.length → ∃ b off, a = some ⟨b, off, none⟩ ∧ b < w.heap.size ∧ ∀ (i : Nat) (x : Int), xs[i]? = some x → w.cell? ⟨b, off + i, none⟩ = some (.int .u64 x))

/-- Rows that can be read. -/
def RowsR (w : World) (v : Value) (vs : List Value) (rows : List (List Int)) : Prop :=
  ∃ a cap, v = .slice a rows.length cap ∧ (a = none → rows = [] ∧ cap = 0) ∧ vs.length = rows.length ∧ (0 < rows.length → ∃ b off, a = some ⟨b, off, none⟩ ∧ b < w.heap.size ∧ ∀ (i : Nat) (u : Value), vs[i]? = some u → w.cell? ⟨b, off + i, none⟩ = some u) ∧
    ∀ (i : Nat) (u : Value) (xs : List Int), vs[i]? = some u → rows[i]? = some xs → RowR w u xs

theorem RowR.below {w w' : World} {v : Value} {xs : List Int} (h : RowR w v xs) (hb : Below w.heap.size w w') : RowR w' v xs := by
  obtain ⟨a, cap, h1, h2, h3, h4⟩ := h
  refine ⟨a, cap, h1, h2, h3, fun hl => ?_⟩
  obtain ⟨b, off, h5, h6, h7⟩ := h4 hl
  exact ⟨b, off, h5, Nat.lt_of_lt_of_le h6 hb.size, fun i x hx => (hb.cell (p := ⟨b, _, none⟩) h6).trans (h7 i x hx)⟩

theorem RowsR.below {w w' : World} {v : Value} {vs : List Value} {rows : List (List Int)} (h : RowsR w v vs rows) (hb : Below w.heap.size w w') : RowsR w' v vs rows := by
  obtain ⟨a, cap, h1, h2, h3, h4, h5⟩ := h
  refine ⟨a, cap, h1, h2, h3, fun hl => ?_, fun i u xs hu hx => (h5 i u xs hu hx).below hb⟩
  obtain ⟨b, off, h5, h6, h7⟩ := h4 hl
  exact ⟨b, off, h5, Nat.lt_of_lt_of_le h6 hb.size, fun i x hx => (hb.cell (p := ⟨b, _, none⟩) h6).trans (h7 i x hx)⟩

theorem RowIs.mono {w : World} {base base' : Nat} {v : Value} {xs : List Int} (h : RowIs w base v xs) (hb : base' ≤ base) : RowIs w base' v xs := by
  rcases h with h | ⟨g, h1, h2, h3⟩
  · exact .inl h
  · exact .inr ⟨g, h1, by omega, h3⟩
theorem RowIs.form {w : World} {base : Nat} {v : Value} {xs : List Int} (h : RowIs w base v xs) : ∃ ao, v = .slice ao xs.length xs.length := by
  rcases h with ⟨rfl, rfl⟩ | ⟨g, rfl, _⟩
  · exact ⟨none, rfl⟩
  · exact ⟨_, rfl⟩
theorem RowIs.read {w : World} {base : Nat} {v : Value} {xs : List Int} (h : RowIs w base v xs) : RowR w v xs := by
  rcases h with ⟨rfl, rfl⟩ | ⟨g, rfl, h1, h2, h3⟩
  · exact ⟨none, 0, rfl, by simp, fun _ => ⟨rfl, rfl⟩, fun h => by simp at h⟩
  · refine ⟨_, _, rfl, h3, (fun e => nomatch e), fun _ => ⟨g, 0, rfl, (Array.getElem?_eq_some_iff.1 h2).1, fun i x hx => ?_⟩⟩
    rw [cells_cell h2, Nat.zero_add, words_get, hx]; rfl
theorem Bits.read {w : World} {base sb : Nat} {bv : Value} {vs : List Value} {rows : List (List Int)} (h : Bits w base sb bv vs rows) : RowsR w bv vs rows := by
  have hl := h.len
  rcases h.own.2 with ⟨e1, e2⟩ | ⟨g, cap, cur, e1, e2, e3, e4, e5, e6, e7⟩
  · have : rows = [] := List.length_eq_zero_iff.1 e2
    subst this
    refine ⟨none, 0, e1, fun _ => ⟨rfl, rfl⟩, hl, fun h => by simp at h, fun i u xs hu hx => by simp at hx⟩
  · refine ⟨_, cap, e1, (fun e => nomatch e), hl, fun _ => ⟨g, 0, rfl, (Array.getElem?_eq_some_iff.1 e3).1, fun i u hu => ?_⟩, fun i u xs hu hx => (h.row i u xs hu hx).read⟩
    rw [cells_cell e3, Nat.zero_add, ← hu, ← e7]
    have hi : i < rows.length := by rw [← hl]; exact (List.getElem?_eq_some_iff.1 hu).1
    rw [List.getElem?_take_of_lt (by omega)]; simp

theorem own_set {w : World} {base : Nat} {e : TypeId} {g n cap : Nat} {vs : List Value} (h : w.ownsRow base e 1 (.slice (some ⟨g, 0, none⟩) n cap) n vs) (j : Nat) (u : Value) : (w.setCell ⟨g, j, none⟩ u).ownsRow base e 1 (.slice (some ⟨g, 0, none⟩) n cap) n (vs.set j u) := by
  refine ⟨by rw [List.length_set]; exact h.1, .inr ?_⟩
  rcases h.2 with ⟨e, _⟩ | ⟨g', cap', cur', hv', hb', hg', r1, r2, r3, r4⟩
  · cases e
  · simp at hv'
    obtain ⟨rfl, rfl⟩ := hv'
    refine ⟨g, cap, cur'.setIfInBounds j u, rfl, hb', heap_setCell_same hg' _, r1, r2, by simpa using r3, ?_⟩
    rw [← r4]
    simp [List.take_set]

/-- A row that is being filled. -/
def FillR (w : World) (B k n : Nat) (xs : List Int) : Prop := w.heap[B]? = some (.cells (words (xs.take k ++ List.replicate (n - k) 0)) 58 (0, 0))

theorem take_set_words (xs : List Int) (k n : Nat) (x : Int) (hx : xs[k]? = some x) (hk : k < n) : (xs.take k ++ List.replicate (n - k) 0).set k x = xs.take (k + 1) ++ List.replicate (n - (k + 1)) 0 := by
  obtain ⟨hl, he⟩ := List.getElem?_eq_some_iff.1 hx
  have hlen : (xs.take k).length = k := by rw [List.length_take]; omega
  rw [List.set_append_right _ _ (by omega), hlen, Nat.sub_self, List.take_succ_eq_append_getElem hl, he, List.append_assoc]
  congr 1
  rw [show n - k = (n - (k + 1)) + 1 by omega, List.replicate_succ]
  rfl

theorem row_nil (w : World) (cap : Nat) : Calls Try.prog 38 #[.slice none 0 cap] w fun e w' => e = .returned (.slice none 0 0) ∧ w' = w := by
  have q55 : ∀ (w : World) (a : Option Addr) (n c n' c' : Nat), (binOp .eql 55 (.slice a n c) (.slice none n' c')).run Try.prog w = .ok (.bool a.isNone) w := fun w a n c n' c' => Lib.run_eql_slice_nil w _ _ a n c n' c' Try.underlying55
  go_enter Try.func38, Try.ntmps38
  go_wp2
  go_ret
  exact ⟨rfl, rfl⟩

theorem words_made (n : Nat) : madeCells (Value.int .u64 0).cells n = words (List.replicate n 0) := by
  apply Array.ext_getElem?
  intro j
  rw [words_get, List.getElem?_replicate]
  have hs : (Value.cells (.int .u64 0)).size = 1 := rfl
  simp only [madeCells, hs, Array.getElem?_map, Array.getElem?_range]
  split
  · simp [Nat.mod_one, Value.cells]
  · simp

theorem fill_of_own {w : World} {base g n : Nat} {xs : List Int} (h : w.ownsRow base 58 1 (.slice (some ⟨g, 0, none⟩) n n) n (madeCells (Value.int .u64 0).cells (n * 1)).toList) : FillR w g 0 n xs ∧ g < w.heap.size := by
  rcases h.2 with ⟨h1, _⟩ | ⟨g', cap, cur, hv, _, hh, _, _, hs, ht⟩
  · cases h1
  · simp at hv
    obtain ⟨rfl, rfl⟩ := hv
    refine ⟨?_, (Array.getElem?_eq_some_iff.1 hh).1⟩
    unfold FillR
    rw [hh]
    have e : cur = madeCells (Value.int .u64 0).cells n := by
      rw [List.take_of_length_le (by rw [Array.length_toList, hs]; exact Nat.le_refl _), Nat.mul_one] at ht
      exact Array.toList_inj.1 ht
    rw [e, words_made]
    simp

set_option maxHeartbeats 400000 in
theorem row_some (a : Addr) (cap : Nat) (xs : List Int) (w : World) (hl : xs.length ≤ 1048576) (ha : 0 < xs.length → ∃ b off, a = ⟨b, off, none⟩ ∧ b < w.heap.size ∧ ∀ (i : Nat) (x : Int), xs[i]? = some x → w.cell? ⟨b, off + i, none⟩ = some (.int .u64 x)) :
    Calls Try.prog 38 #[.slice (some a) xs.length cap] w fun e w' => e = .returned (.slice (some ⟨w.heap.size, 0, none⟩) xs.length xs.length) ∧ Below w.heap.size w w' ∧ w.heap.size < w'.heap.size ∧ FillR w' w.heap.size xs.length xs.length xs := by
  have q55 : ∀ (w : World) (a : Option Addr) (n c n' c' : Nat), (binOp .eql 55 (.slice a n c) (.slice none n' c')).run Try.prog w = .ok (.bool a.isNone) w := fun w a n c n' c' => Lib.run_eql_slice_nil w _ _ a n c n' c' Try.underlying55
  obtain ⟨i0, hi, hz0, hz1, hz2⟩ := info_parts Try.info58
  have HA := hide ha
  clear ha
  obtain ⟨n, hn⟩ : ∃ n, n = xs.length := ⟨_, rfl⟩
  rw [← hn] at hl HA ⊢
  have HN := hide hn
  clear hn
  go_enter Try.func38, Try.ntmps38
  go_wp2_with (at_make; refine wpList_make_full _ rfl _ _ 55 rfl w.heap.size 58 i0 _ 1 Try.underlying55 hi hz0 hz1 _ _ _ _ n rfl rfl rfl rfl (by rw [hz2]; omega) (by unfold maxLen; omega) (Nat.le_refl _) ?_; intro w1 hown1 hgrow1)
  have hF := fill_of_own (xs := xs) hown1
  have hB : Below w.heap.size w w1 := (Below.refl _ _).grown hgrow1 (Nat.le_refl _) (fun k hk => by cases hk)
  clear hown1 hgrow1 hi hz0 hz1 hz2
  go_loopw [4] (fun i wr => ∃ k : Nat, k ≤ n ∧ i = .int .i64 k ∧ Below w.heap.size w wr ∧ w.heap.size < wr.heap.size ∧ FillR wr w.heap.size k n xs) (fun i _ => n - (intOf i).toNat)
  case atStart => exact ⟨0, Nat.zero_le _, rfl, hB, hF.2, hF.1⟩
  case round =>
    obtain ⟨k, hk, rfl, hb, hsz, hfl⟩ := hrel
    clear hF hB
    by_cases hlt : k < n
    · obtain ⟨b, off, rfl, hbw, hp⟩ := HA.out (by omega)
      have hkx : k < xs.length := by rw [← HN.out]; exact hlt
      obtain ⟨x, hx⟩ : ∃ x, xs[k]? = some x := ⟨xs[k], by simp [hkx]⟩
      have c0 : wr.cell? ⟨b, off + k, none⟩ = some (.int .u64 x) := (hb.cell (p := ⟨b, _, none⟩) hbw).trans (hp k x hx)
      have HX := hide hx
      have hfl' := hfl
      unfold FillR at hfl'
      have c1 : wr.cell? ⟨w.heap.size, k, none⟩ = some (.int .u64 0) := by
        rw [cells_cell hfl', words_get, List.getElem?_append_right (by rw [List.length_take]; omega), List.getElem?_replicate, if_pos (by rw [List.length_take]; omega)]; rfl
      have f1 : wr.frozen? ⟨w.heap.size, k, none⟩ = false := cells_frozen hfl'
      have hst : FillR (wr.setCell ⟨w.heap.size, k, none⟩ (.int .u64 x)) w.heap.size (k + 1) n xs := by
        unfold FillR
        rw [heap_setCell_same hfl', words_set, take_set_words xs k n x hx hlt]
      have HST := hide hst
      clear hx hp hfl hfl' hst
      go_wp2
      go_roundw
      case rel => exact ⟨k + 1, by omega, by go_num, hb.setCell (Nat.le_refl _) _, by simpa [World.setCell] using hsz, HST.out⟩
      case measure => simp [intOf]; omega
    · obtain rfl : k = n := by omega
      go_wp2
      go_ret
      exact ⟨rfl, hb, hsz, hfl⟩

theorem row_any (v : Value) (xs : List Int) (w : World) (hl : xs.length ≤ 1048576) (h : RowR w v xs) :
    Calls Try.prog 38 #[v] w fun e w' => ∃ v', e = .returned v' ∧ RowIs w' w.heap.size v' xs ∧ Below w.heap.size w w' := by
  obtain ⟨a, cap, rfl, h2, h3, h4⟩ := h
  cases a with
  | none =>
    obtain ⟨rfl, rfl⟩ := h3 rfl
    refine (row_nil w 0).mono ?_
    rintro e w' ⟨rfl, rfl⟩
    exact ⟨_, rfl, .inl ⟨rfl, rfl⟩, Below.refl _ _⟩
  | some a =>
    refine (row_some a cap xs w hl (fun h0 => ?_)).mono ?_
    · obtain ⟨b, off, e, r⟩ := h4 h0
      exact ⟨b, off, by cases e; rfl, r⟩
    · rintro e w' ⟨rfl, hb, hs, hf⟩
      unfold FillR at hf
      rw [List.take_of_length_le (Nat.le_refl _), Nat.sub_self] at hf
      exact ⟨_, rfl, .inr ⟨w.heap.size, rfl, Nat.le_refl _, by simpa using hf, h2⟩, hb⟩
end Go.Proofs.Qxb6601407a
