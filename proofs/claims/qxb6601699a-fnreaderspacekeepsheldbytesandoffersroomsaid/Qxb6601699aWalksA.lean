import Derived.Test.Qxb6601699aBase
import Derived.Deep.CutRange
import Derived.Deep.CutBlock
namespace Go.Proofs.Qxb6601699a
open Go.RowKit
set_option linter.unusedVariables false

set_option maxHeartbeats 400000 in
theorem same_any (a a' : Option Addr) (cap cap' : Nat) (xs : List Int) (w : World) (hm : xs.length ≤ 1048576) (h : BR w a xs) (h' : BR w a' xs) :
    Calls Try.prog 19 #[.slice a xs.length cap, .slice a' xs.length cap'] w fun e w' => e = .returned (.bool true) ∧ ∃ n, w' = w.drewN n := by
  obtain ⟨n, hn⟩ : ∃ n, n = xs.length := ⟨_, rfl⟩
  rw [← hn] at hm ⊢
  have HN := hide hn
  have H1 := hide h
  have H2 := hide h'
  clear h h' hn
  go_enter Try.func19, Try.ntmps19
  go_wp2
  go_loopw [5] (fun i wr => ∃ k : Nat, k ≤ n ∧ i = .int .i64 k ∧ ∃ q, wr = w.drewN q) (fun i _ => n - (intOf i).toNat)
  case atStart => exact ⟨0, Nat.zero_le _, rfl, 0, rfl⟩
  case round =>
    obtain ⟨k, hk, rfl, q, rfl⟩ := hrel
    by_cases hlt : k < n
    · obtain ⟨b, off, x, rfl, hx, c0, _⟩ := H1.out.at (k := k) (by rw [← HN.out]; exact hlt)
      obtain ⟨b', off', x', rfl, hx', c1, _⟩ := H2.out.at (k := k) (by rw [← HN.out]; exact hlt)
      obtain rfl : x = x' := by rw [hx] at hx'; simpa using hx'
      have hki : (k : Int) < (n : Int) := by omega
      clear hx hx'
      go_wp2
      go_quiet (fail)
      go_wp2
      go_roundw
      case rel => exact ⟨k + 1, by omega, by go_num, _, rfl⟩
      case measure => simp [intOf]; omega
    · go_wp2
      go_ret
      exact ⟨rfl, _, rfl⟩

theorem copy_nil (w : World) (cap : Nat) : Calls Try.prog 9 #[.slice none 0 cap] w fun e w' => e = .returned (.slice none 0 0) ∧ w' = w := by
  have q22 : ∀ (w : World) (a : Option Addr) (n c n' c' : Nat), (binOp .eql 22 (.slice a n c) (.slice none n' c')).run Try.prog w = .ok (.bool a.isNone) w := fun w a n c n' c' => Lib.run_eql_slice_nil w _ _ a n c n' c' Try.underlying22
  go_enter Try.func9, Try.ntmps9
  go_wp2
  go_ret
  exact ⟨rfl, rfl⟩

theorem splice_all (n : Nat) (xs : List Int) (h : n = xs.length) : splice (List.replicate n (0 : Int)) 0 xs = xs := by
  simp [splice, h]

set_option maxHeartbeats 400000 in
theorem copy_some (a : Addr) (cap : Nat) (xs : List Int) (w : World) (hl : xs.length ≤ 1048576) (h : BR w (some a) xs) :
    Calls Try.prog 9 #[.slice (some a) xs.length cap] w fun e w' => e = .returned (.slice (some ⟨w.heap.size, 0, none⟩) xs.length xs.length) ∧ Below w.heap.size w w' ∧ w.heap.size < w'.heap.size ∧ Hid (w'.heap[w.heap.size]? = some (.cells (byts xs) 5 (0, 0))) := by
  have q22 : ∀ (w : World) (a : Option Addr) (n c n' c' : Nat), (binOp .eql 22 (.slice a n c) (.slice none n' c')).run Try.prog w = .ok (.bool a.isNone) w := fun w a n c n' c' => Lib.run_eql_slice_nil w _ _ a n c n' c' Try.underlying22
  obtain ⟨i0, hi, hz0, hz1, hz2⟩ := info_parts Try.info5
  have HB := hide h
  clear h
  obtain ⟨n, hn⟩ : ∃ n, n = xs.length := ⟨_, rfl⟩
  rw [← hn] at hl ⊢
  have HN := hide hn
  clear hn
  go_enter Try.func9, Try.ntmps9
  go_upto_region 4 with (at_make; refine wpList_make_full _ rfl _ _ 22 rfl w.heap.size 5 i0 _ 1 Try.underlying22 hi hz0 hz1 _ _ _ _ n rfl rfl rfl rfl (by rw [hz2]; omega) (by unfold maxLen; omega) (Nat.le_refl _) ?_; intro w1 hown1 hgrow1)
  have hF := made_row hown1
  have hB : Below w.heap.size w w1 := (Below.refl _ _).grown hgrow1 (Nat.le_refl _) (fun k hk => by cases hk)
  have HF := hide hF
  clear hown1 hgrow1 hi hz0 hz1 hz2 hF
  obtain ⟨X, hX⟩ : ∃ X, X = xs.map (Value.int .u8) := ⟨_, rfl⟩
  have HX := hide hX
  clear hX
  have hsz : w.heap.size < w1.heap.size := HF.out.2
  have HS : Hid (0 < X.length → ∃ ad, some a = some ad ∧ ∀ j v, X[j]? = some v → w1.cell? (ad.add j) = some v) := fun h0 => by
    refine ⟨a, rfl, fun j v hj => ?_⟩
    rw [HX.out] at hj h0
    rw [List.getElem?_map] at hj
    obtain ⟨x, hx, rfl⟩ := Option.map_eq_some_iff.1 hj
    obtain ⟨b, off, e, hb, hc⟩ := HB.out.1 (by simpa using h0)
    cases e
    rw [Addr.add_lit]
    exact (hB.cell (p := ⟨b, off + j, none⟩) hb).trans (hc j x hx)
  have HF1 : Hid (w1.heap[w.heap.size]? = some (.cells ((List.replicate n 0).map (Value.int .u8)).toArray 5 (0, 0))) := HF.out.1
  obtain ⟨C, hC⟩ : ∃ C, C = (List.replicate n 0).map (Value.int .u8) := ⟨_, rfl⟩
  rw [← hC] at HF1
  have HXL : Hid (X.length = Nat.min n n) := by show _ = _; rw [HX.out, List.length_map, ← HN.out]; exact (Nat.min_self n).symm
  have HFit : Hid (0 + X.length ≤ C.length) := by show _ ≤ _; rw [HX.out, hC]; simp [← HN.out]
  have HO : Hid (∀ v ∈ X, v.oneCell' = true) := by show ∀ v ∈ X, _; rw [HX.out]; exact one_cell xs
  have HC := hide hC
  clear hC
  go_wp2_with (refine wpList_copy_splice rfl _ _ 22 22 rfl 5 Try.underlying22 Try.size5 _ _ n n n cap rfl rfl w.heap.size 0 C 5 HF1.out X HXL.out (fun h0 => ⟨rfl, HS.out h0⟩) HFit.out HO.out w.heap.size w hB (Nat.le_refl _) ?_; intro w2 HG2 hB2)
  go_ret
  refine ⟨rfl, hB2, ?_, ?_⟩
  · have := (Array.getElem?_eq_some_iff.1 HG2.out).1; exact this
  · show _ = _
    rw [HG2.out, HC.out, HX.out, splice_map, splice_all n xs HN.out]; rfl

theorem copy_any (a : Option Addr) (cap : Nat) (xs : List Int) (w : World) (hl : xs.length ≤ 1048576) (hc : a = none → xs = []) (h : BR w a xs) :
    Calls Try.prog 9 #[.slice a xs.length cap] w fun e w' => ∃ cv, e = .returned (.slice cv xs.length xs.length) ∧ BR w' cv xs ∧ Below w.heap.size w w' := by
  cases a with
  | none =>
    obtain rfl := hc rfl
    refine (copy_nil w cap).mono ?_
    rintro e w' ⟨rfl, rfl⟩
    exact ⟨none, rfl, h, Below.refl _ _⟩
  | some a =>
    refine (copy_some a cap xs w hl h).mono ?_
    rintro e w' ⟨rfl, hb, hs, hf⟩
    refine ⟨_, rfl, ⟨fun _ => ⟨_, 0, rfl, hs, fun i x hx => ?_⟩, h.2⟩, hb⟩
    rw [cells_cell hf.out, byts_get, Nat.zero_add]
    simp [hx]
end Go.Proofs.Qxb6601699a
