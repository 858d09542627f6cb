import Derived.Test.Qxb6601407aRows
import Derived.WalkKit
import Derived.WalkSpells
import Derived.Lib.SliceRun
import Derived.Lib.Walk
import Derived.Lib.AppendZerosOnto
namespace Go.Proofs.Qxb6601407a
open Go.RowKit
theorem Try.info58 : (Try.prog.info? 58).map (fun i => (i.zero, i.size, i.bytes)) = some (some (.int .u64 0), 1, 8) := by kernel_rfl

/-- The cells of a row of words. -/
def words (xs : List Int) : Array Value := (xs.map (Value.int .u64)).toArray
theorem words_size (xs : List Int) : (words xs).size = xs.length := by simp [words]
theorem words_get (xs : List Int) (j : Nat) : (words xs)[j]? = xs[j]?.map (Value.int .u64) := by simp [words]
theorem words_zero (n : Nat) : Builtin.zeroCells (Value.int .u64 0).cells n = words (List.replicate n 0) := by
  apply Array.ext_getElem?
  intro j
  rw [words_get, List.getElem?_replicate]
  have hs : (Value.cells (.int .u64 0)).size = 1 := rfl
  simp only [Builtin.zeroCells, hs, Nat.mul_one, Array.getElem?_map, Array.getElem?_range]
  split
  · simp [Nat.mod_one, Value.cells]
  · simp
theorem words_append (xs ys : List Int) : words xs ++ words ys = words (xs ++ ys) := by simp [words]

set_option maxHeartbeats 1000000 in
set_option maxRecDepth 100000 in
/-- slices.Grow at a slice without room. -/
theorem grow_any (base : Option Addr) (l n : Nat) (xs : List Int) (w : World) (hn : 0 < n) (hbig : l + n ≤ 1099511627776) (hl : xs.length = l) (hnil : base = none → l = 0)
    (hcs : ∀ a, base = some a → ∀ j v, (words xs).toList[j]? = some v → w.cell? (a.add j) = some v) :
    Calls Try.prog 39 #[.slice base l l, .int .i64 n] w fun e w' => ∃ G, l + n ≤ G ∧ G ≤ 9223372036854775807 ∧
      e = .returned (.slice (some ⟨w.heap.size, 0, none⟩) l G) ∧ w' = w.drew.alloc (.cells (words (xs ++ List.replicate (G - l) 0)) 58) := by
  obtain ⟨i0, hi0, hz0, hz1, hz2⟩ := info_parts Try.info58
  have h1 : ¬ ((n : Int) < 0) := by omega
  have h4 : (n : Int) - ((l : Int) - (l : Int)) > 0 := by omega
  have hold : (Builtin.firstCells i0.size l (.slice base l l)).run Try.prog w.drew = .ok (words xs).toList.toArray w.drew := by
    rw [hz1]
    cases base with
    | none =>
      have h0 := hnil rfl
      subst h0
      have hc0 : xs = [] := List.length_eq_zero_iff.1 hl
      subst hc0
      exact run_firstCells_none w.drew 1 0 0 0
    | some a => exact run_firstCells_some w.drew 1 l a l l (words xs).toList (by simp [words, hl]) (fun j v hj => hcs a rfl j v hj)
  have hrz : ∀ ty, (Builtin.append_ #[55, 3] ty #[.slice base l l, .int .i64 (n : Int)]).run Try.prog w =
      .ok (.slice (some ⟨w.heap.size, 0, none⟩) (l + n) (grownCap w (l + n) l 58)) (w.drew.alloc (.cells ((words xs).toList.toArray ++ Builtin.zeroCells (Value.int .u64 0).cells n ++ Builtin.zeroCells (Value.int .u64 0).cells (grownCap w (l + n) l 58 - (l + n))) 58)) := fun ty =>
    Lib.run_append_grow_zeros w 55 3 ty 58 i0 (.int .u64 0) .i64 .i64 Try.underlying55 Try.underlying3 hi0 hz0 base l l (words xs).toList hold n hn (by rw [hz1]; omega) (by omega) (by omega) (by rw [hz2]; omega)
      (by rw [hz2]; exact growslice_fits (by omega) (by omega))
  have hGn : l + n ≤ grownCap w (l + n) l 58 := grownCap_ge w _ _ _
  have hG63 := grownCap_le_maxLen w (l + n) l 58 (by unfold maxLen; omega)
  obtain ⟨G, hG⟩ : ∃ G, G = grownCap w (l + n) l 58 := ⟨_, rfl⟩
  rw [← hG] at hrz hGn hG63
  have hcells : (words xs).toList.toArray ++ Builtin.zeroCells (Value.int .u64 0).cells n ++ Builtin.zeroCells (Value.int .u64 0).cells (G - (l + n)) = words (xs ++ List.replicate (G - l) 0) := by
    rw [words_zero, words_zero, Array.toArray_toList, words_append, words_append, List.append_assoc, List.replicate_append_replicate]
    congr 3
    omega
  rw [hcells] at hrz
  unfold maxLen at hG63
  clear hold hG hcs hcells hi0 hz0 hz1 hz2
  go_enter Try.func39, Try.ntmps39
  cases base with
  | none =>
    have h0 := hnil rfl
    subst h0
    go_wp2_with (at_builtin; refine Lib.wpList_append_run _ rfl _ _ _ _ rfl _ _ rfl rfl _ _ (hrz _) ?_)
    all_goals (go_ret; exact ⟨G, by omega, hG63, rfl, rfl⟩)
  | some a =>
    obtain ⟨ab, ao, asp⟩ := a
    go_wp2_with (at_builtin; refine Lib.wpList_append_run _ rfl _ _ _ _ rfl _ _ rfl rfl _ _ (hrz _) ?_)
    all_goals (go_ret; exact ⟨G, by omega, hG63, rfl, rfl⟩)
end Go.Proofs.Qxb6601407a
