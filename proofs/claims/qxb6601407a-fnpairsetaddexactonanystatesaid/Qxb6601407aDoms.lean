import Derived.Test.Qxb6601407aRows
import Derived.WalkKit
import Derived.WalkSpells
import Derived.Lib.SliceRun
import Derived.Laws.Rows
namespace Go.Proofs.Qxb6601407a
open Go.RowKit

theorem ret_bool {a b : Bool} (h : a = b) : Ending.returned (.bool a) = .returned (.bool b) := by rw [h]
theorem ret_int {k : IntKind} {a b : Int} (h : a = b) : Ending.returned (.int k a) = .returned (.int k b) := by rw [h]

/-- A pair that the laws speak of. -/
def domB (a b : Int) : Bool := decide (0 ≤ b) && !(decide (b < 64) && (decide (a < 0) || decide (4194304 ≤ a)))
theorem domB_iff (a b : Int) : domB a b = true ↔ 0 ≤ b ∧ (b < 64 → 0 ≤ a ∧ a < 4194304) := by
  unfold domB; simp; omega

set_option maxHeartbeats 400000 in
theorem dom_any (a b : Int) (w : World) :
    Calls Try.prog 35 #[.agg #[.int .i64 a, .int .i64 b]] w fun e w' => e = .returned (.bool (domB a b)) ∧ w' = w.alloc (.cells #[.int .i64 a, .int .i64 b] 30) := by
  go_enter Try.func35, Try.ntmps35
  go_wp2
  all_goals
    go_ret
    refine ⟨ret_bool ?_, rfl⟩
    rw [Bool.eq_iff_iff, domB_iff]
    simp
    omega

/-- Where 'len' pairs of ints lie in memory. -/
def PairsAt (w : World) (b off len : Nat) (zs : List (Int × Int)) : Prop :=
  zs.length = len ∧ ∀ i, i < len → w.cell? ⟨b, off + i * 2, none⟩ = some (.int .i64 (zs.getD i (0, 0)).1) ∧ w.cell? ⟨b, off + i * 2 + 1, none⟩ = some (.int .i64 (zs.getD i (0, 0)).2)

theorem PairsAt.below {w wr : World} {b off len : Nat} {zs : List (Int × Int)} (h : PairsAt w b off len zs) {B : Nat} (hb : Below B w wr) (hB : b < B) : PairsAt wr b off len zs :=
  ⟨h.1, fun i hi => ⟨(hb.cell (p := ⟨b, _, none⟩) hB).trans (h.2 i hi).1, (hb.cell (p := ⟨b, _, none⟩) hB).trans (h.2 i hi).2⟩⟩

theorem PairsAt.at {w : World} {b off len : Nat} {zs : List (Int × Int)} (h : PairsAt w b off len zs) {k : Nat} (hk : k < len) : ∃ x y, zs[k]? = some (x, y) ∧ w.cell? ⟨b, off + k * 2, none⟩ = some (.int .i64 x) ∧ w.cell? ⟨b, off + k * 2 + 1, none⟩ = some (.int .i64 y) := by
  have hk' : k < zs.length := by rw [h.1]; exact hk
  have := h.2 k hk
  refine ⟨zs[k].1, zs[k].2, by simp [hk'], ?_, ?_⟩
  · rw [this.1]; simp [hk']
  · rw [this.2]; simp [hk']

theorem all_snoc {zs : List (Int × Int)} {k : Nat} {x y : Int} (h : zs[k]? = some (x, y)) (f : Int × Int → Bool) : (zs.take (k + 1)).all f = ((zs.take k).all f && f (x, y)) := by
  obtain ⟨hk, he⟩ := List.getElem?_eq_some_iff.1 h
  rw [List.take_succ_eq_append_getElem hk, List.all_append, he]; simp

theorem all_false {zs : List (Int × Int)} {k : Nat} {x y : Int} (h : zs[k]? = some (x, y)) (f : Int × Int → Bool) (hf : f (x, y) = false) : zs.all f = false := by
  obtain ⟨hk, he⟩ := List.getElem?_eq_some_iff.1 h
  rw [List.all_eq_false]
  exact ⟨zs[k], List.getElem_mem hk, by rw [he, hf]; simp⟩

def allDom (zs : List (Int × Int)) : Bool := zs.all fun p => domB p.1 p.2

set_option maxHeartbeats 400000 in
theorem doms_some (b off len cap : Nat) (zs : List (Int × Int)) (w : World) (hl : len ≤ 1048576) (hz : PairsAt w b off len zs) (hbw : b < w.heap.size) :
    Calls Try.prog 11 #[.slice (some ⟨b, off, none⟩) len cap] w fun e w' => e = .returned (.bool (allDom zs)) ∧ Below w.heap.size w w' := by
  go_enter Try.func11, Try.ntmps11
  go_wp2
  go_loopw [3] (fun i wr => ∃ k : Nat, k ≤ len ∧ i = .int .i64 k ∧ Below w.heap.size w wr ∧ allDom (zs.take k) = true) (fun i _ => len - (intOf i).toNat)
  case atStart => exact ⟨0, Nat.zero_le _, rfl, Below.refl _ _, rfl⟩
  case round =>
    obtain ⟨k, hk, rfl, hb, hall⟩ := hrel
    have HA : Hid (allDom (zs.take k) = true) := hall
    clear hall
    by_cases hlt : k < len
    · obtain ⟨x, y, hxy, hx, hy⟩ := (hz.below hb hbw).at hlt
      have HX : Hid (zs[k]? = some (x, y)) := hxy
      have HZ : Hid (PairsAt w b off len zs) := hz
      clear hxy hz
      by_cases hd : domB x y = true
      · go_wp2_with (go_at_call 35; refine (dom_any _ _ _).mono ?_; rintro e w' ⟨rfl, rfl⟩)
        go_roundw
        case rel => exact ⟨k + 1, by omega, by go_num, hb.alloc hb.size _, by have h := HA.out; unfold allDom at h ⊢; rw [all_snoc HX.out, h]; exact hd⟩
        case measure => simp [intOf]; omega
      · have hd' : domB x y = false := by simpa using hd
        go_wp2_with (go_at_call 35; refine (dom_any _ _ _).mono ?_; rintro e w' ⟨rfl, rfl⟩)
        go_ret
        exact ⟨ret_bool (all_false HX.out _ hd').symm, hb.alloc hb.size _⟩
    · go_wp2
      go_ret
      have e : zs.take k = zs := List.take_of_length_le (by have := hz.1; omega)
      exact ⟨ret_bool (by have := HA.out; rw [e] at this; exact this.symm), hb⟩

theorem doms_zero (a : Option Addr) (cap : Nat) (w : World) :
    Calls Try.prog 11 #[.slice a 0 cap] w fun e w' => e = .returned (.bool true) ∧ w' = w := by
  go_enter Try.func11, Try.ntmps11
  go_wp2
  refine wp_loop_rounds 1 ?_
  rw [rounds_succ]
  go_wp2
  go_ret
  exact ⟨rfl, rfl⟩
end Go.Proofs.Qxb6601407a
