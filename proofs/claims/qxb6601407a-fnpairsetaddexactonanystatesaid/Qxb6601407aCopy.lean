import Derived.Test.Qxb6601407aDoms
namespace Go.Proofs.Qxb6601407a
open Go.RowKit
theorem Try.info30 : (Try.prog.info? 30).map (fun i => (i.zero, i.size, i.bytes)) = some (some (.agg #[.int .i64 0, .int .i64 0]), 2, 16) := by kernel_rfl

/-- A row of the call's own, of n pairs, the first k filled. -/
def Filled (w : World) (B k n : Nat) (zs : List (Int × Int)) : Prop :=
  ∃ cur, w.heap[B]? = some (.cells cur 30 (0, 0)) ∧ cur.size = n * 2 ∧ ∀ i, i < k → cur[i * 2]? = some (.int .i64 (zs.getD i (0, 0)).1) ∧ cur[i * 2 + 1]? = some (.int .i64 (zs.getD i (0, 0)).2)

theorem heap_setCell_same {w : World} {B o : Nat} {cur : Array Value} {t : TypeId} {fz : Nat × Nat} (h : w.heap[B]? = some (.cells cur t fz)) (v : Value) : (w.setCell ⟨B, o, none⟩ v).heap[B]? = some (.cells (cur.setIfInBounds o v) t fz) := by
  simp [World.setCell, Array.getElem?_modify, h]

theorem Filled.cell {w : World} {B k n : Nat} {zs : List (Int × Int)} (h : Filled w B k n zs) {j : Nat} (hj : j < n * 2) : (∃ v, w.cell? ⟨B, j, none⟩ = some v) ∧ w.frozen? ⟨B, j, none⟩ = false := by
  obtain ⟨cur, h1, h2, _⟩ := h
  refine ⟨⟨cur[j], ?_⟩, ?_⟩
  · simp [World.cell?, h1]
  · simp [World.frozen?, h1]

theorem Filled.step {w : World} {B k n : Nat} {zs : List (Int × Int)} (h : Filled w B k n zs) {x y : Int} (hz : zs[k]? = some (x, y)) (hk : k < n) : Filled ((w.setCell ⟨B, k * 2, none⟩ (.int .i64 x)).setCell ⟨B, k * 2 + 1, none⟩ (.int .i64 y)) B (k + 1) n zs := by
  obtain ⟨cur, h1, h2, h3⟩ := h
  refine ⟨_, heap_setCell_same (heap_setCell_same h1 _) _, by simp [h2], fun i hi => ?_⟩
  by_cases he : i = k
  · subst he
    have : zs.getD i (0, 0) = (x, y) := by simp [List.getD, hz]
    rw [this]
    constructor
    · simp [Array.getElem?_setIfInBounds]; omega
    · simp [Array.getElem?_setIfInBounds]; omega
  · have := h3 i (by omega)
    constructor
    · rw [Array.getElem?_setIfInBounds, if_neg (by omega), Array.getElem?_setIfInBounds, if_neg (by omega)]; exact this.1
    · rw [Array.getElem?_setIfInBounds, if_neg (by omega), Array.getElem?_setIfInBounds, if_neg (by omega)]; exact this.2

theorem Filled.pairs {w : World} {B n : Nat} {zs : List (Int × Int)} (h : Filled w B n n zs) (hz : zs.length = n) : PairsAt w B 0 n zs := by
  obtain ⟨cur, h1, h2, h3⟩ := h
  refine ⟨hz, fun i hi => ?_⟩
  have := h3 i hi
  simp only [World.cell?, h1, Nat.zero_add]
  exact this

theorem copy_nil (w : World) : Calls Try.prog 12 #[.slice none 0 0] w fun e w' => e = .returned (.slice none 0 0) ∧ w' = w := by
  have q22 : ∀ (w : World) (a : Option Addr) (n c n' c' : Nat), (binOp .eql 22 (.slice a n c) (.slice none n' c')).run Try.prog w = .ok (.bool a.isNone) w := fun w a n c n' c' => Lib.run_eql_slice_nil w _ _ a n c n' c' Try.underlying22
  go_enter Try.func12, Try.ntmps12
  go_wp2
  go_ret
  exact ⟨rfl, rfl⟩

theorem filled_of_own {w : World} {base g n : Nat} {xs : List Value} (zs : List (Int × Int)) (h : w.ownsRow base 30 2 (.slice (some ⟨g, 0, none⟩) n n) n xs) : Filled w g 0 n zs ∧ g < w.heap.size := by
  rcases h.2 with ⟨h1, _⟩ | ⟨g', cap, cur, hv, _, hh, _, _, hs, _⟩
  · cases h1
  · simp at hv
    obtain ⟨rfl, rfl⟩ := hv
    exact ⟨⟨cur, hh, hs, fun i hi => absurd hi (by omega)⟩, (Array.getElem?_eq_some_iff.1 hh).1⟩

set_option maxHeartbeats 400000 in
theorem copy_some (a : Addr) (len cap : Nat) (zs : List (Int × Int)) (w : World) (hl : len ≤ 1048576) (hz : zs.length = len) (ha : 0 < len → ∃ b off, a = ⟨b, off, none⟩ ∧ PairsAt w b off len zs ∧ b < w.heap.size) :
    Calls Try.prog 12 #[.slice (some a) len cap] w fun e w' => e = .returned (.slice (some ⟨w.heap.size, 0, none⟩) len len) ∧ Below w.heap.size w w' ∧ w.heap.size < w'.heap.size ∧ Filled w' w.heap.size len len zs := by
  have q22 : ∀ (w : World) (a : Option Addr) (n c n' c' : Nat), (binOp .eql 22 (.slice a n c) (.slice none n' c')).run Try.prog w = .ok (.bool a.isNone) w := fun w a n c n' c' => Lib.run_eql_slice_nil w _ _ a n c n' c' Try.underlying22
  obtain ⟨i0, hi, hz0, hz1, hz2⟩ := info_parts Try.info30
  have HA : Hid (0 < len → ∃ b off, a = ⟨b, off, none⟩ ∧ PairsAt w b off len zs ∧ b < w.heap.size) := ha
  clear ha
  have HZ : Hid (zs.length = len) := hz
  clear hz
  go_enter Try.func12, Try.ntmps12
  go_wp2_with (at_make; refine wpList_make_full _ rfl _ _ 22 rfl w.heap.size 30 i0 _ 2 Try.underlying22 hi hz0 hz1 _ _ _ _ len rfl rfl rfl rfl (by rw [hz2]; omega) (by unfold maxLen; omega) (Nat.le_refl _) ?_; intro w1 hown1 hgrow1)
  have hF := filled_of_own zs hown1
  have hB : Below w.heap.size w w1 := (Below.refl _ _).grown hgrow1 (Nat.le_refl _) (fun k hk => by cases hk)
  clear hown1 hgrow1 hi hz0 hz1 hz2
  go_loopw [4] (fun i wr => ∃ k : Nat, k ≤ len ∧ i = .int .i64 k ∧ Below w.heap.size w wr ∧ w.heap.size < wr.heap.size ∧ Filled wr w.heap.size k len zs) (fun i _ => len - (intOf i).toNat)
  case atStart => exact ⟨0, Nat.zero_le _, rfl, hB, hF.2, hF.1⟩
  case round =>
    obtain ⟨k, hk, rfl, hb, hsz, hfl⟩ := hrel
    clear hF hB
    by_cases hlt : k < len
    · obtain ⟨b, off, rfl, hp, hbw⟩ := HA.out (by omega)
      obtain ⟨x, y, hxy, hx, hy⟩ := (hp.below hb hbw).at hlt
      have HX : Hid (zs[k]? = some (x, y)) := hxy
      obtain ⟨⟨v0, c0⟩, f0⟩ := hfl.cell (j := k * 2) (by omega)
      obtain ⟨⟨v1, c1⟩, f1⟩ := hfl.cell (j := k * 2 + 1) (by omega)
      clear hxy hp
      go_wp2
      go_roundw
      case rel => exact ⟨k + 1, by omega, by go_num, (hb.setCell (Nat.le_refl _) _).setCell (Nat.le_refl _) _, by simpa [World.setCell] using hsz, hfl.step HX.out hlt⟩
      case measure => simp [intOf]; omega
    · obtain rfl : k = len := by omega
      go_wp2
      go_ret
      exact ⟨rfl, hb, hsz, hfl⟩
end Go.Proofs.Qxb6601407a
