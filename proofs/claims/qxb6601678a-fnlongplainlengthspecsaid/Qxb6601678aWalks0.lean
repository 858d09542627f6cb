import Derived.Test.Qxb6601678aRows
import Derived.Test.Qxb6601678aPlain
import Derived.WalkKit
import Derived.WalkSpells
import Derived.Lib.SliceRun
namespace Go.Proofs.Qxb6601678a
open Go.RowKit
set_option linter.unusedVariables false
theorem Try.info5 : (Try.prog.info? 5).map (fun i => (i.zero, i.size, i.bytes)) = some (some (.int .u8 0), 1, 1) := by kernel_rfl

theorem hide {p : Prop} (h : p) : Hid p := h
theorem cells_cell {w : World} {b j : Nat} {cur : Array Value} {t : TypeId} {fz : Nat × Nat} (h : w.heap[b]? = some (.cells cur t fz)) : w.cell? ⟨b, j, none⟩ = cur[j]? := by
  simp [World.cell?, h]
theorem cells_frozen {w : World} {b j : Nat} {cur : Array Value} {t : TypeId} (h : w.heap[b]? = some (.cells cur t (0, 0))) : w.frozen? ⟨b, j, none⟩ = false := by
  simp [World.frozen?, h]
theorem heap_setCell_same {w : World} {B o : Nat} {cur : Array Value} {t : TypeId} {fz : Nat × Nat} (h : w.heap[B]? = some (.cells cur t fz)) (v : Value) : (w.setCell ⟨B, o, none⟩ v).heap[B]? = some (.cells (cur.setIfInBounds o v) t fz) := by
  simp [World.setCell, Array.getElem?_modify, h]

/-- The cells of bytes. -/
def byts (xs : List Int) : Array Value := (xs.map (Value.int .u8)).toArray
theorem byts_get (xs : List Int) (j : Nat) : (byts xs)[j]? = xs[j]?.map (Value.int .u8) := by simp [byts]
theorem byts_set (xs : List Int) (j : Nat) (x : Int) : (byts xs).setIfInBounds j (.int .u8 x) = byts (xs.set j x) := by simp [byts, List.map_set]
theorem byts_made (n : Nat) : madeCells (Value.int .u8 0).cells n = byts (List.replicate n 0) := by
  apply Array.ext_getElem?
  intro j
  rw [byts_get, List.getElem?_replicate]
  have hs : (Value.cells (.int .u8 0)).size = 1 := rfl
  simp only [madeCells, hs, Array.getElem?_map, Array.getElem?_range]
  split
  · simp [Nat.mod_one, Value.cells]
  · simp

/-- A row of bytes that is being filled. -/
def FillR (w : World) (B k n : Nat) (xs : List Int) : Prop := w.heap[B]? = some (.cells (byts (xs.take k ++ List.replicate (n - k) 0)) 5 (0, 0))

theorem take_set_byts (xs : List Int) (k n : Nat) (x : Int) (hx : xs[k]? = some x) (hk : k < n) : (xs.take k ++ List.replicate (n - k) 0).set k x = xs.take (k + 1) ++ List.replicate (n - (k + 1)) 0 := by
  obtain ⟨hl, he⟩ := List.getElem?_eq_some_iff.1 hx
  have hlen : (xs.take k).length = k := by rw [List.length_take]; omega
  rw [List.set_append_right _ _ (by omega), hlen, Nat.sub_self, List.take_succ_eq_append_getElem hl, he, List.append_assoc]
  congr 1
  rw [show n - k = (n - (k + 1)) + 1 by omega, List.replicate_succ]
  rfl

theorem fill_of_own {w : World} {base g n : Nat} {xs : List Int} (h : w.ownsRow base 5 1 (.slice (some ⟨g, 0, none⟩) n n) n (madeCells (Value.int .u8 0).cells (n * 1)).toList) : FillR w g 0 n xs ∧ g < w.heap.size := by
  rcases h.2 with ⟨h1, _⟩ | ⟨g', cap, cur, hv, _, hh, _, _, hs, ht⟩
  · cases h1
  · simp at hv
    obtain ⟨rfl, rfl⟩ := hv
    refine ⟨?_, (Array.getElem?_eq_some_iff.1 hh).1⟩
    unfold FillR
    rw [hh]
    have e : cur = madeCells (Value.int .u8 0).cells n := by
      rw [List.take_of_length_le (by rw [Array.length_toList, hs]; exact Nat.le_refl _), Nat.mul_one] at ht
      exact Array.toList_inj.1 ht
    rw [e, byts_made]
    simp

theorem clone_nil (w : World) (cap : Nat) : Calls Try.prog 11 #[.slice none 0 cap] w fun e w' => e = .returned (.slice none 0 0) ∧ w' = w := by
  have q22 : ∀ (w : World) (a : Option Addr) (n c n' c' : Nat), (binOp .eql 22 (.slice a n c) (.slice none n' c')).run Try.prog w = .ok (.bool a.isNone) w := fun w a n c n' c' => Lib.run_eql_slice_nil w _ _ a n c n' c' Try.underlying22
  go_enter Try.func11, Try.ntmps11
  go_wp2
  go_ret
  exact ⟨rfl, rfl⟩

set_option maxHeartbeats 400000 in
theorem clone_some (a : Addr) (cap : Nat) (xs : List Int) (w : World) (hl : xs.length ≤ 1048576) (ha : 0 < xs.length → ∃ b off, a = ⟨b, off, none⟩ ∧ b < w.heap.size ∧ ∀ (i : Nat) (x : Int), xs[i]? = some x → w.cell? ⟨b, off + i, none⟩ = some (.int .u8 x)) :
    Calls Try.prog 11 #[.slice (some a) xs.length cap] w fun e w' => e = .returned (.slice (some ⟨w.heap.size, 0, none⟩) xs.length xs.length) ∧ Below w.heap.size w w' ∧ w.heap.size < w'.heap.size ∧ FillR w' w.heap.size xs.length xs.length xs := by
  have q22 : ∀ (w : World) (a : Option Addr) (n c n' c' : Nat), (binOp .eql 22 (.slice a n c) (.slice none n' c')).run Try.prog w = .ok (.bool a.isNone) w := fun w a n c n' c' => Lib.run_eql_slice_nil w _ _ a n c n' c' Try.underlying22
  obtain ⟨i0, hi, hz0, hz1, hz2⟩ := info_parts Try.info5
  have HA := hide ha
  clear ha
  obtain ⟨n, hn⟩ : ∃ n, n = xs.length := ⟨_, rfl⟩
  rw [← hn] at hl HA ⊢
  have HN := hide hn
  clear hn
  go_enter Try.func11, Try.ntmps11
  go_wp2_with (at_make; refine wpList_make_full _ rfl _ _ 22 rfl w.heap.size 5 i0 _ 1 Try.underlying22 hi hz0 hz1 _ _ _ _ n rfl rfl rfl rfl (by rw [hz2]; omega) (by unfold maxLen; omega) (Nat.le_refl _) ?_; intro w1 hown1 hgrow1)
  have hF := fill_of_own (xs := xs) hown1
  have hB : Below w.heap.size w w1 := (Below.refl _ _).grown hgrow1 (Nat.le_refl _) (fun k hk => by cases hk)
  clear hown1 hgrow1 hi hz0 hz1 hz2
  go_loopw [4] (fun i wr => ∃ k : Nat, k ≤ n ∧ i = .int .i64 k ∧ Below w.heap.size w wr ∧ w.heap.size < wr.heap.size ∧ FillR wr w.heap.size k n xs) (fun i _ => n - (intOf i).toNat)
  case atStart => exact ⟨0, Nat.zero_le _, rfl, hB, hF.2, hF.1⟩
  case round =>
    obtain ⟨k, hk, rfl, hb, hsz, hfl⟩ := hrel
    clear hF hB
    by_cases hlt : k < n
    · obtain ⟨b, off, rfl, hbw, hp⟩ := HA.out (by omega)
      have hkx : k < xs.length := by rw [← HN.out]; exact hlt
      obtain ⟨x, hx⟩ : ∃ x, xs[k]? = some x := ⟨xs[k], by simp [hkx]⟩
      have c0 : wr.cell? ⟨b, off + k, none⟩ = some (.int .u8 x) := (hb.cell (p := ⟨b, _, none⟩) hbw).trans (hp k x hx)
      have HX := hide hx
      have hfl' := hfl
      unfold FillR at hfl'
      have c1 : wr.cell? ⟨w.heap.size, k, none⟩ = some (.int .u8 0) := by
        rw [cells_cell hfl', byts_get, List.getElem?_append_right (by rw [List.length_take]; omega), List.getElem?_replicate, if_pos (by rw [List.length_take]; omega)]; rfl
      have f1 : wr.frozen? ⟨w.heap.size, k, none⟩ = false := cells_frozen hfl'
      have hst : FillR (wr.setCell ⟨w.heap.size, k, none⟩ (.int .u8 x)) w.heap.size (k + 1) n xs := by
        unfold FillR
        rw [heap_setCell_same hfl', byts_set, take_set_byts xs k n x hx hlt]
      have HST := hide hst
      clear hx hp hfl hfl' hst
      go_wp2
      go_roundw
      case rel => exact ⟨k + 1, by omega, by go_num, hb.setCell (Nat.le_refl _) _, by simpa [World.setCell] using hsz, HST.out⟩
      case measure => simp [intOf]; omega
    · obtain rfl : k = n := by omega
      go_wp2
      go_ret
      exact ⟨rfl, hb, hsz, hfl⟩

theorem clone_any (a : Option Addr) (cap : Nat) (xs : List Int) (w : World) (hl : xs.length ≤ 1048576) (hc : a = none → xs = []) (h : BR w a xs) :
    Calls Try.prog 11 #[.slice a xs.length cap] w fun e w' => ∃ cv, e = .returned (.slice cv xs.length xs.length) ∧ BR w' cv xs ∧ Below w.heap.size w w' := by
  cases a with
  | none =>
    obtain rfl := hc rfl
    refine (clone_nil w cap).mono ?_
    rintro e w' ⟨rfl, rfl⟩
    exact ⟨none, rfl, h, Below.refl _ _⟩
  | some a =>
    refine (clone_some a cap xs w hl (fun h0 => ?_)).mono ?_
    · obtain ⟨b, off, e, r⟩ := h.1 h0
      exact ⟨b, off, by cases e; rfl, r⟩
    · rintro e w' ⟨rfl, hb, hs, hf⟩
      unfold FillR at hf
      rw [List.take_of_length_le (Nat.le_refl _), Nat.sub_self] at hf
      refine ⟨_, rfl, ⟨fun _ => ⟨_, 0, rfl, hs, fun i x hx => ?_⟩, h.2⟩, hb⟩
      rw [cells_cell hf, byts_get, Nat.zero_add]
      simp [hx]
end Go.Proofs.Qxb6601678a
