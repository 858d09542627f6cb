import Derived.Test.Qxb6601699aRows
import Derived.WalkKit
import Derived.WalkSpells
import Derived.Lib.SliceRun
import Derived.Lib.Walk
import Derived.Lib.AppendZerosOnto
import Derived.Laws.CopyOwn
import Derived.Deep.QuietTactic
import Derived.BigQuiet
namespace Go.Proofs.Qxb6601699a
open Go.RowKit
set_option linter.unusedVariables false
theorem Try.info5 : (Try.prog.info? 5).map (fun i => (i.zero, i.size, i.bytes)) = some (some (.int .u8 0), 1, 1) := by kernel_rfl
theorem Try.size5 : (Try.prog.info? 5).map (·.size) = some 1 := by kernel_rfl

theorem hide {p : Prop} (h : p) : Hid p := h
theorem cells_cell {w : World} {b j : Nat} {cur : Array Value} {t : TypeId} {fz : Nat × Nat} (h : w.heap[b]? = some (.cells cur t fz)) : w.cell? ⟨b, j, none⟩ = cur[j]? := by
  simp [World.cell?, h]
theorem cells_frozen {w : World} {b j : Nat} {cur : Array Value} {t : TypeId} (h : w.heap[b]? = some (.cells cur t (0, 0))) : w.frozen? ⟨b, j, none⟩ = false := by
  simp [World.frozen?, h]
theorem heap_setCell_same {w : World} {B o : Nat} {cur : Array Value} {t : TypeId} {fz : Nat × Nat} (h : w.heap[B]? = some (.cells cur t fz)) (v : Value) : (w.setCell ⟨B, o, none⟩ v).heap[B]? = some (.cells (cur.setIfInBounds o v) t fz) := by
  simp [World.setCell, Array.getElem?_modify, h]

/-- The cells of bytes. -/
def byts (xs : List Int) : Array Value := (xs.map (Value.int .u8)).toArray
theorem byts_get (xs : List Int) (j : Nat) : (byts xs)[j]? = xs[j]?.map (Value.int .u8) := by simp [byts]
theorem byts_set (xs : List Int) (j : Nat) (x : Int) : (byts xs).setIfInBounds j (.int .u8 x) = byts (xs.set j x) := by simp [byts, List.map_set]
theorem byts_made (n : Nat) : madeCells (Value.int .u8 0).cells n = byts (List.replicate n 0) := by
  apply Array.ext_getElem?
  intro j
  rw [byts_get, List.getElem?_replicate]
  have hs : (Value.cells (.int .u8 0)).size = 1 := rfl
  simp only [madeCells, hs, Array.getElem?_map, Array.getElem?_range]
  split
  · simp [Nat.mod_one, Value.cells]
  · simp

/-- Bytes that can be read. -/
def BR (w : Go.World) (a : Option Go.Addr) (xs : List Int) : Prop :=
  (0 < xs.length → ∃ b off, a = some ⟨b, off, none⟩ ∧ b < w.heap.size ∧ ∀ (i : Nat) (x : Int), xs[i]? = some x → w.cell? ⟨b, off + i, none⟩ = some (.int .u8 x)) ∧ ∀ x ∈ xs, 0 ≤ x ∧ x ≤ 255

theorem BR.at {w : Go.World} {a : Option Go.Addr} {xs : List Int} (h : BR w a xs) {k : Nat} (hk : k < xs.length) : ∃ b off x, a = some ⟨b, off, none⟩ ∧ xs[k]? = some x ∧ w.cell? ⟨b, off + k, none⟩ = some (.int .u8 x) ∧ 0 ≤ x ∧ x ≤ 255 := by
  obtain ⟨b, off, e, _, hc⟩ := h.1 (by omega)
  have hx : xs[k]? = some xs[k] := by simp [hk]
  exact ⟨b, off, xs[k], e, hx, hc k _ hx, h.2 _ (List.getElem_mem hk)⟩

open Go.RowKit in
theorem BR.below {w w' : Go.World} {a : Option Go.Addr} {xs : List Int} (h : BR w a xs) (hb : Below w.heap.size w w') : BR w' a xs :=
  ⟨fun hl => by
    obtain ⟨b, off, e, h1, h2⟩ := h.1 hl
    exact ⟨b, off, e, Nat.lt_of_lt_of_le h1 hb.size, fun i x hx => (hb.cell (p := ⟨b, _, none⟩) h1).trans (h2 i x hx)⟩, h.2⟩

theorem byts_zero (n : Nat) : Builtin.zeroCells (Value.int .u8 0).cells n = byts (List.replicate n 0) := by
  apply Array.ext_getElem?
  intro j
  rw [byts_get, List.getElem?_replicate]
  have hs : (Value.cells (.int .u8 0)).size = 1 := rfl
  simp only [Builtin.zeroCells, hs, Nat.mul_one, Array.getElem?_map, Array.getElem?_range]
  split
  · simp [Nat.mod_one, Value.cells]
  · simp
theorem byts_append (xs ys : List Int) : byts xs ++ byts ys = byts (xs ++ ys) := by simp [byts]
theorem one_cell (xs : List Int) : ∀ v ∈ xs.map (Value.int .u8), v.oneCell' = true := by
  intro v hv
  obtain ⟨x, _, rfl⟩ := List.mem_map.1 hv
  rfl
theorem splice_map (xs ys : List Int) (o : Nat) : splice (xs.map (Value.int .u8)) o (ys.map (Value.int .u8)) = (splice xs o ys).map (Value.int .u8) := by
  simp [splice, List.map_take, List.map_drop]

/-- The row that a make has laid. -/
theorem made_row {w : World} {base g n : Nat} (h : w.ownsRow base 5 1 (.slice (some ⟨g, 0, none⟩) n n) n (madeCells (Value.int .u8 0).cells (n * 1)).toList) : w.heap[g]? = some (.cells (byts (List.replicate n 0)) 5 (0, 0)) ∧ g < w.heap.size := by
  rcases h.2 with ⟨h1, _⟩ | ⟨g', cap, cur, hv, _, hh, _, _, hs, ht⟩
  · cases h1
  · simp at hv
    obtain ⟨rfl, rfl⟩ := hv
    refine ⟨?_, (Array.getElem?_eq_some_iff.1 hh).1⟩
    rw [hh]
    have e : cur = madeCells (Value.int .u8 0).cells n := by
      rw [List.take_of_length_le (by rw [Array.length_toList, hs]; exact Nat.le_refl _), Nat.mul_one] at ht
      exact Array.toList_inj.1 ht
    rw [e, byts_made]
end Go.Proofs.Qxb6601699a
