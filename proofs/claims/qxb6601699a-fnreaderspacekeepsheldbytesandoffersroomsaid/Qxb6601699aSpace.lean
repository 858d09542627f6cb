import Derived.Test.Qxb6601699aSt
import Derived.Deep.RegionHeld3
namespace Go.Proofs.Qxb6601699a
open Go.RowKit
set_option linter.unusedVariables false
set_option linter.unusedSimpArgs false

/-- The capacity that Space keeps. -/
def capK (cap h : Nat) : Nat := if 65536 < cap ∧ h ≤ 16384 then 16384 else cap
def Room (cap h cap' : Nat) : Prop :=
  (16384 ≤ capK cap h - h ∧ h / 2 ≤ capK cap h - h → cap' = capK cap h) ∧ (¬ (16384 ≤ capK cap h - h ∧ h / 2 ≤ capK cap h - h) → h + 16384 ≤ cap' ∧ h + h ≤ cap')

theorem Room.lt {cap h c : Nat} (hr : Room cap h c) : h < c := by
  unfold Room at hr
  by_cases e : 16384 ≤ capK cap h - h ∧ h / 2 ≤ capK cap h - h
  · rw [hr.1 e]; omega
  · have := (hr.2 e).1; omega

def SpacePost (w : World) (base R h cap : Nat) (hs : List Int) (e : Ending) (w' : World) : Prop :=
  ∃ G' cap', e = .returned (.slice (some ⟨G', h, none⟩) (cap' - h) (cap' - h)) ∧ St w base R G' h cap' 0 hs w' ∧ cap' ≤ 9223372036854775807 ∧ Room cap h cap'

set_option maxRecDepth 100000 in
set_option maxHeartbeats 4000000 in
theorem space_any (w : World) (base R G n cap st h : Nat) (xs hs : List Int) (hh : h = n - st) (hhs : hs = xs.drop st) (hS : St w base R G n cap st xs w) (hst : st ≤ n) (hcap : cap ≤ 1114112) (hbase : base ≤ w.heap.size) :
    Calls Try.prog 16 #[.pointer (some ⟨R, 0, none⟩)] w fun e w' => SpacePost w base R h cap hs e w' := by
  have Hh := hide hh
  have Hhs := hide hhs
  clear hh hhs
  obtain ⟨i0, hi, hz0, hz1, hz2⟩ := info_parts Try.info5
  obtain ⟨c3, c4, f3, f4, hnc⟩ := hS.reads
  have HS := hide hS
  clear hS
  go_enter Try.func16, Try.ntmps16
  go_upto_if 9 with fail
  go_cut [3, 9] from 10 (fun _ _ wc => St w base R G h cap 0 hs wc)
  case first =>
    have hh := Hh.out
    have hhs := Hhs.out
    clear Hh Hhs
    subst hh
    subst hhs
    by_cases h0 : st = 0
    · subst h0
      go_wp2
      go_meet
      case rel => exact HS.out
    · have hst0 : (0 : Int) < (st : Int) := by omega
      obtain ⟨zs, hbuf, hzl⟩ := HS.out.buf
      have hxl := HS.out.len
      obtain ⟨X, hX⟩ : ∃ X, X = (xs ++ zs).map (Value.int .u8) := ⟨_, rfl⟩
      obtain ⟨C, hC⟩ : ∃ C, C = (xs.drop st).map (Value.int .u8) := ⟨_, rfl⟩
      have HG : Hid (w.heap[G]? = some (.cells X.toArray 5 (0, 0))) := by show _ = _; rw [hX]; exact hbuf
      have HCL : Hid (C.length = Nat.min (n - st) n) := by show _ = _; rw [hC]; simp [hxl]
      have HFit : Hid (0 + C.length ≤ X.length) := by show _ ≤ _; rw [hC, hX]; simp; omega
      have HO : Hid (∀ v ∈ C, v.oneCell' = true) := by show ∀ v ∈ C, _; rw [hC]; exact one_cell _
      have HP : Hid (0 < C.length → ∃ ad, (if cap = st then some (⟨G, 0, none⟩ : Addr) else some ⟨G, st, none⟩) = some ad ∧ ∀ j v, C[j]? = some v → w.cell? (ad.add j) = some v) := fun hp => by
        have hne : ¬ cap = st := fun e => by rw [hC] at hp; simp at hp; omega
        refine ⟨⟨G, st, none⟩, if_neg hne, fun j v hj => ?_⟩
        rw [hC, List.getElem?_map, List.getElem?_drop] at hj
        obtain ⟨x, hx, rfl⟩ := Option.map_eq_some_iff.1 hj
        rw [Addr.add_lit, cells_cell hbuf, byts_get, List.getElem?_append_left (List.getElem?_eq_some_iff.1 hx).1, hx]; rfl
      have hCn : C.length = n - st := by rw [hC]; simp [hxl]
      have HCn := hide hCn
      obtain ⟨W1, hW1⟩ : ∃ W1, W1 = w.drew.setRow G (splice X 0 C).toArray := ⟨_, rfl⟩
      have hR1 : W1.heap[R]? = w.heap[R]? := by rw [hW1, setRow_other _ _ _ _ HS.out.ne]; rfl
      have hM : St w base R G (n - st) cap 0 (xs.drop st) ((W1.setCell ⟨R, 3, none⟩ (.slice (some ⟨G, 0, none⟩) (n - st) cap)).setCell ⟨R, 4, none⟩ (.int .i64 0)) := by
        refine HS.out.moved hst hzl ?_ hR1 ?_
        · rw [← hX, ← hC, hW1]; exact setRow_heap w.drew G _ _ 5 _ HG.out
        · rw [hW1]; exact below_setRow (Below.refl _ _).drew HS.out.baseG _
      have HM := hide hM
      have d3 : W1.cell? ⟨R, 3, none⟩ = some (.slice (some ⟨G, 0, none⟩) n cap) := by rw [World.cell?_of_block (w := w) hR1]; exact c3
      have d4 : W1.cell? ⟨R, 4, none⟩ = some (.int .i64 st) := by rw [World.cell?_of_block (w := w) hR1]; exact c4
      have e3 : W1.frozen? ⟨R, 3, none⟩ = false := by rw [World.frozen?_of_block (w := w) hR1]; exact f3
      have e4 : W1.frozen? ⟨R, 4, none⟩ = false := by rw [World.frozen?_of_block (w := w) hR1]; exact f4
      have HW1 := hide hW1
      have hnsc : ((n - st : Nat) : Int) ≤ (cap : Int) := by omega
      clear hX hC hbuf hzl hxl hW1 hR1 hM hCn
      go_wp2_with fail
      go_region_law (refine step_copy_row rfl (.tmp 13) (.tmp 22) 22 22 rfl 5 Try.underlying22 Try.size5 (some ⟨G, 0, none⟩) (if cap = st then some (⟨G, 0, none⟩ : Addr) else some ⟨G, st, none⟩) n cap (n - st) (cap - st) (by simp [Act.eval, Act.put]) (by simp [Act.eval, Act.put]) G 0 X 5 HG.out C HCL.out (fun hp => ⟨rfl, HP.out hp⟩) HFit.out HO.out ?_)
      all_goals rw [← HW1.out, HCn.out]
      all_goals generalize (if cap = st then some (⟨G, 0, none⟩ : Addr) else some ⟨G, st, none⟩) = sp
      all_goals go_wp2
      all_goals go_meet
      all_goals exact HM.out
  case rest =>
    have HS1 := hide hcut
    clear hcut c3 c4 f3 f4 HS hnc hst Hh Hhs
    obtain ⟨c3, c4, f3, f4, hnc⟩ := HS1.out.reads
    go_upto_region 4 with fail
    go_cut [3, 49] from 5 (fun _ s49 wd => s49 = .bool (decide (65536 < cap ∧ h ≤ 16384)) ∧ wd = wc)
    case first =>
      by_cases hk1 : 65536 < cap
      · by_cases hk2 : h ≤ 16384
        · have e : decide (65536 < cap ∧ h ≤ 16384) = true := decide_eq_true ⟨hk1, hk2⟩
          have HE := hide e
          clear e
          go_wp2
          go_meet
          case rel => exact ⟨by rw [HE.out]; simp; omega, rfl⟩
        · have e : decide (65536 < cap ∧ h ≤ 16384) = false := decide_eq_false (fun e => hk2 e.2)
          have HE := hide e
          clear e
          go_wp2
          go_meet
          case rel => exact ⟨by rw [HE.out]; simp; omega, rfl⟩
      · have e : decide (65536 < cap ∧ h ≤ 16384) = false := decide_eq_false (fun e => hk1 e.1)
        have HE := hide e
        clear e
        go_wp2
        go_meet
        case rel => exact ⟨by rw [HE.out], rfl⟩
    case rest =>
      obtain ⟨rfl, hwd⟩ := hcut
      subst hwd
      generalize hbb : decide (65536 < cap ∧ h ≤ 16384) = bb
      have HBB := hide hbb
      clear hbb
      go_upto_if 49 with fail
      go_cut [3] from 5 (fun _ wd => ∃ G1 c1, St w base R G1 h c1 0 hs wd ∧ c1 = capK cap h)
      case first =>
        cases bb with
        | true =>
          obtain ⟨zs, hbuf, hzl⟩ := HS1.out.buf
          obtain ⟨hk1, hk2⟩ := of_decide_eq_true HBB.out
          obtain ⟨ZZ, hZZ⟩ : ∃ ZZ, ZZ = byts (List.replicate 16384 0) := ⟨_, rfl⟩
          obtain ⟨X, hX⟩ : ∃ X, X = hs.map (Value.int .u8) := ⟨_, rfl⟩
          have hxl : X.length = h * 1 := by rw [hX, List.length_map, Nat.mul_one]; exact HS1.out.len
          have hmk : ∀ w : World, (Instr.makeSlice 22 (.int .i64 0) (.int .i64 16384)).run Try.prog w = .ok (.slice (some ⟨w.heap.size, 0, none⟩) 0 16384) (w.alloc (.cells ZZ 5)) := fun w => by
            have := run_make (P := Try.prog) w 22 5 i0 _ Try.underlying22 hi hz0 .i64 .i64 0 16384 (by omega) (by omega) (by rw [hz2]; omega) (by omega)
            rw [this, hz1, hZZ, ← byts_made]; rfl
          have hGl := HS1.out.ltG
          have hRl := HS1.out.ltR
          have HCC : Hid (∀ j u, X[j]? = some u → (wc.drew.alloc (.cells ZZ 5)).cell? (Addr.add ⟨G, 0, none⟩ j) = some u) := fun j u hj => by
            rw [hX, List.getElem?_map] at hj
            obtain ⟨x, hx, rfl⟩ := Option.map_eq_some_iff.1 hj
            rw [Addr.add_lit, World.cell?_of_block (w := wc.drew) (Below.heap_alloc _ _ _ hGl), Nat.zero_add]
            show wc.cell? _ = _
            rw [cells_cell hbuf, byts_get, List.getElem?_append_left (List.getElem?_eq_some_iff.1 hx).1, hx]; rfl
          have HSP : Hid (∀ j, j < X.length → ((wc.drew.alloc (.cells ZZ 5)).cell? ⟨wc.heap.size, 0 + 0 * 1 + j, none⟩).isSome = true ∧ (wc.drew.alloc (.cells ZZ 5)).frozen? ⟨wc.heap.size, 0 + 0 * 1 + j, none⟩ = false) := fun j hj => by
            have hnew : (wc.drew.alloc (.cells ZZ 5)).heap[wc.heap.size]? = some (.cells ZZ 5 (0, 0)) := heap_alloc_new wc.drew _
            refine ⟨?_, cells_frozen hnew⟩
            rw [cells_cell hnew, hZZ, byts_get, List.getElem?_replicate, if_pos (by omega)]; rfl
          have H1C : Hid (∀ u ∈ X, u.oneCell' = true) := by show ∀ u ∈ X, _; rw [hX]; exact one_cell hs
          have HXL := hide hxl
          have HX := hide hX
          have HZZ := hide hZZ
          have hRs : ¬ R = wc.heap.size := by omega
          have hRs2 : ¬ wc.heap.size = R := by omega
          have hR2 : ((wc.alloc (.cells ZZ 5)).drew.setCells wc.heap.size 0 X).heap[R]? = wc.heap[R]? := by
            rw [setCells_other (by omega)]; exact Below.heap_alloc _ _ _ hRl
          have g3 : ((wc.alloc (.cells ZZ 5)).drew.setCells wc.heap.size 0 X).cell? ⟨R, 3, none⟩ = some (.slice (some ⟨G, 0, none⟩) h cap) := by rw [World.cell?_of_block (w := wc) hR2]; exact c3
          have g3f : ((wc.alloc (.cells ZZ 5)).drew.setCells wc.heap.size 0 X).frozen? ⟨R, 3, none⟩ = false := by rw [World.frozen?_of_block (w := wc) hR2]; exact f3
          have hS5 : St w base R wc.heap.size h 16384 0 hs (((wc.alloc (.cells ZZ 5)).drew.setCells wc.heap.size 0 X).setCell ⟨R, 3, none⟩ (.slice (some ⟨wc.heap.size, 0, none⟩) h 16384)) := by
            have hlen := HS1.out.len
            have hbs := HS1.out.below.size
            refine HS1.out.refit (zs := List.replicate (16384 - h) 0) hR2 ?_ (by rw [List.length_replicate]; omega) (by omega) (by omega) ?_
            · rw [hX]
              have hnew : (wc.alloc (.cells ZZ 5)).drew.heap[wc.heap.size]? = some (.cells (byts (List.replicate 16384 0)) 5 (0, 0)) := by rw [← hZZ]; exact heap_alloc_new wc _
              rw [setCells_same hs _ 0 _ hnew (by rw [List.length_replicate]; omega), splice_zero hs 16384 h hlen]
            · exact setCells_below (by omega) _ _ _ ((HS1.out.below.alloc (by omega) _).drew)
          have HS5 := hide hS5
          clear hbuf hzl hxl hX hZZ hR2 hS5
          go_wp2_with fail
          go_region_law (refine step_append_room rfl (.tmp 51) (.tmp 55) 22 rfl 5 i0 1 Try.underlying22 hi hz1 wc.heap.size 0 0 16384 (by simp [Act.eval, Act.put]) ⟨G, 0, none⟩ h cap X (by simp [Act.eval, Act.put]) HXL.out (by exact HCC.out) H1C.out (by omega) (by exact HSP.out) ?_)
          all_goals go_wp2
          all_goals go_meet
          all_goals exact ⟨wc.heap.size, 16384, HS5.out, by unfold capK; rw [if_pos ⟨hk1, hk2⟩]⟩
        | false =>
          go_wp2
          go_meet
          case rel => exact ⟨G, cap, HS1.out, by unfold capK; rw [if_neg (of_decide_eq_false HBB.out)]⟩
      case rest =>
        obtain ⟨G1, c1, hS2, hc1⟩ := hcut
        have HS2 := hide hS2
        have HC1 := hide hc1
        have hc1' : c1 ≤ 1114112 := by rw [hc1]; unfold capK; split <;> omega
        clear hS2 hc1 HS1 c3 c4 f3 f4 hnc
        obtain ⟨c3, c4, f3, f4, hnc⟩ := HS2.out.reads
        go_upto_region 6 with fail
        go_quiet (fail)
        go_upto_region 7 with fail
        have hS3 := HS2.out.drewN nq
        clear HS2 c3 c4 f3 f4
        generalize wc.drewN nq = wq at hS3 ⊢
        have HS3 := hide hS3
        obtain ⟨c3, c4, f3, f4, _⟩ := hS3.reads
        clear hS3
        go_cut [3, 81] from 5 (fun _ s81 we => s81 = .bool (decide (¬ (16384 ≤ c1 - h ∧ h / 2 ≤ c1 - h))) ∧ we = wq)
        case first =>
          by_cases hr1 : (c1 : Int) - (h : Int) < 16384
          · have e : decide (¬ (16384 ≤ c1 - h ∧ h / 2 ≤ c1 - h)) = true := decide_eq_true (fun e => by omega)
            have HE := hide e
            have hr1' := decide_eq_true hr1
            clear e
            go_wp2
            go_meet
            case rel => exact ⟨by rw [HE.out], rfl⟩
          · have hr1' := decide_eq_false hr1
            by_cases hr2 : (c1 : Int) - (h : Int) < (h : Int) / 2
            · have e : decide (¬ (16384 ≤ c1 - h ∧ h / 2 ≤ c1 - h)) = true := decide_eq_true (fun e => by omega)
              have HE := hide e
              have hr2' := decide_eq_true hr2
              clear e
              go_wp2
              go_meet
              case rel => exact ⟨by rw [HE.out], rfl⟩
            · have e : decide (¬ (16384 ≤ c1 - h ∧ h / 2 ≤ c1 - h)) = false := decide_eq_false (fun e => e (by omega))
              have HE := hide e
              have hr2' := decide_eq_false hr2
              clear e
              go_wp2
              go_meet
              case rel => exact ⟨by rw [HE.out], rfl⟩
        case rest =>
          obtain ⟨rfl, hwe⟩ := hcut
          subst hwe
          generalize hbb : decide (¬ (16384 ≤ c1 - h ∧ h / 2 ≤ c1 - h)) = bb
          have HBB2 := hide hbb
          clear hbb
          go_upto_if 81 with fail
          go_cut [3, 4] from 5 (fun _ _ wf => ∃ G2 c2, St w base R G2 h c2 0 hs wf ∧ c2 ≤ 9223372036854775807 ∧ Room cap h c2)
          case first =>
            cases bb with
            | true =>
              obtain ⟨zs, hbuf, hzl⟩ := HS3.out.buf
              have hcs : ∀ j v, (byts (hs ++ zs)).toList[j]? = some v → wc.cell? ⟨G1, 0 + j, none⟩ = some v := fun j v hj => by
                rw [cells_cell hbuf, Nat.zero_add, ← Array.getElem?_toList]; exact hj
              have hxl : (hs ++ zs).length = c1 := by rw [List.length_append]; exact hzl
              have HCS := hide hcs
              have HXL := hide hxl
              have HNE := hide (of_decide_eq_true HBB2.out)
              have hm : ∃ m : Nat, max (16384 : Int) (h : Int) = (m : Int) ∧ c1 - h < m ∧ 16384 ≤ m ∧ h ≤ m ∧ m ≤ 1114112 := ⟨max 16384 h, by omega, by have := HNE.out; omega, by omega, by omega, by omega⟩
              obtain ⟨m, hm1, hm2, hm3, hm4, hm5⟩ := hm
              have hRl : R < wc.heap.size := HS3.out.ltR
              have hRs : ¬ R = wc.heap.size := by omega
              have hRs2 : ¬ wc.heap.size = R := by omega
              clear hcs hxl hbuf hzl
              go_wp2_with fail
              go_region_with (go_at_call 25; refine (grow_any G1 h c1 m (hs ++ zs) _ (by omega) (by omega) (by omega) HXL.out (by exact HCS.out)).mono ?_; rintro e w' ⟨G', hG1, hG2, rfl, rfl⟩)
              all_goals go_wp2
              all_goals go_meet
              all_goals exact ⟨wc.heap.size, G', HS3.out.regrown (by have := HXL.out; simp at this ⊢; omega) (by have := HS3.out.below.size; omega), hG2, fun he => absurd (by rw [← HC1.out] at he; exact he) HNE.out, fun _ => ⟨by omega, by omega⟩⟩
            | false =>
              go_wp2
              go_meet
              case rel => exact ⟨G1, c1, HS3.out, by omega, fun _ => HC1.out, fun hn => absurd (by rw [← HC1.out]; exact Decidable.not_not.1 (of_decide_eq_false HBB2.out)) hn⟩
          case rest =>
            obtain ⟨G2, c2, hS4, hc2, hroom⟩ := hcut
            have hlt := hroom.lt
            have HR := hide hroom
            have HS4 := hide hS4
            clear hroom hS4 c3 c4 f3 f4 HS3
            obtain ⟨c3, c4, f3, f4, _⟩ := HS4.out.reads
            have hne : ¬ c2 = h := by omega
            go_upto_region 9 with fail
            go_quiet (fail)
            go_wp2
            go_ret
            exact ⟨G2, c2, rfl, HS4.out.drewN _, hc2, HR.out⟩
end Go.Proofs.Qxb6601699a
