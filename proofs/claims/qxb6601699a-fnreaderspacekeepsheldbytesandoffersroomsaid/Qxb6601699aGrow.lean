import Derived.Test.Qxb6601699aBase
namespace Go.Proofs.Qxb6601699a
open Go.RowKit
set_option linter.unusedVariables false

set_option maxHeartbeats 1000000 in
set_option maxRecDepth 100000 in
/-- slices.Grow where there is too little room: a new row, the old cells at its head. -/
theorem grow_any (b l c n : Nat) (xs : List Int) (w : World) (hlc : l ≤ c) (hn : c - l < n) (hbig : c + n ≤ 1099511627776) (hl : xs.length = c)
    (hcs : ∀ j v, (byts xs).toList[j]? = some v → w.cell? ⟨b, 0 + j, none⟩ = some v) :
    Calls Try.prog 25 #[.slice (some ⟨b, 0, none⟩) l c, .int .i64 n] w fun e w' => ∃ G, l + n ≤ G ∧ G ≤ 9223372036854775807 ∧
      e = .returned (.slice (some ⟨w.heap.size, 0, none⟩) l G) ∧ w' = w.drew.alloc (.cells (byts (xs ++ List.replicate (G - c) 0)) 5) := by
  obtain ⟨i0, hi0, hz0, hz1, hz2⟩ := info_parts Try.info5
  obtain ⟨m, hm⟩ : ∃ m, m = n - (c - l) := ⟨_, rfl⟩
  have h1 : ¬ ((n : Int) < 0) := by omega
  have h4 : (n : Int) - ((c : Int) - (l : Int)) = (m : Int) := by omega
  have hm0 : 0 < m := by omega
  have hold : (Builtin.firstCells i0.size c (.slice (some ⟨b, 0, none⟩) c c)).run Try.prog w.drew = .ok (byts xs).toList.toArray w.drew := by
    rw [hz1]
    exact run_firstCells_some w.drew 1 c ⟨b, 0, none⟩ c c (byts xs).toList (by simp [byts, hl]) (fun j v hj => by rw [Addr.add_lit]; exact hcs j v hj)
  have hrz : ∀ ty, (Builtin.append_ #[22, 3] ty #[.slice (some ⟨b, 0, none⟩) c c, .int .i64 (m : Int)]).run Try.prog w =
      .ok (.slice (some ⟨w.heap.size, 0, none⟩) (c + m) (grownCap w (c + m) c 5)) (w.drew.alloc (.cells ((byts xs).toList.toArray ++ Builtin.zeroCells (Value.int .u8 0).cells m ++ Builtin.zeroCells (Value.int .u8 0).cells (grownCap w (c + m) c 5 - (c + m))) 5)) := fun ty =>
    Lib.run_append_grow_zeros w 22 3 ty 5 i0 (.int .u8 0) .i64 .i64 Try.underlying22 Try.underlying3 hi0 hz0 (some ⟨b, 0, none⟩) c c (byts xs).toList hold m hm0 (by rw [hz1]; omega) (by omega) (by omega) (by rw [hz2]; omega)
      (by rw [hz2]; exact growslice_fits (by omega) (by omega))
  have hGn : c + m ≤ grownCap w (c + m) c 5 := grownCap_ge w _ _ _
  have hG63 := grownCap_le_maxLen w (c + m) c 5 (by unfold maxLen; omega)
  obtain ⟨G, hG⟩ : ∃ G, G = grownCap w (c + m) c 5 := ⟨_, rfl⟩
  rw [← hG] at hrz hGn hG63
  have hcells : (byts xs).toList.toArray ++ Builtin.zeroCells (Value.int .u8 0).cells m ++ Builtin.zeroCells (Value.int .u8 0).cells (G - (c + m)) = byts (xs ++ List.replicate (G - c) 0) := by
    rw [byts_zero, byts_zero, Array.toArray_toList, byts_append, byts_append, List.append_assoc, List.replicate_append_replicate]
    congr 3
    omega
  rw [hcells] at hrz
  unfold maxLen at hG63
  have hGn2 : l + n ≤ G := by omega
  have hlG : l ≤ G := by omega
  have hm1 : (0 : Int) < (m : Int) := by omega
  have hcm : l ≤ c + m := by omega
  clear hold hG hcs hcells hi0 hz0 hz1 hz2 hm hn hl
  go_enter Try.func25, Try.ntmps25
  go_wp2_with (at_builtin; refine Lib.wpList_append_run _ rfl _ _ _ _ rfl _ _ rfl rfl _ _ (hrz _) ?_)
  go_ret
  exact ⟨G, hGn2, hG63, rfl, rfl⟩
end Go.Proofs.Qxb6601699a
