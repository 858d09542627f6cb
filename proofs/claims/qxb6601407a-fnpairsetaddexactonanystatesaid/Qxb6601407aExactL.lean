import Derived.Test.Qxb6601407aT29
namespace Go.Proofs.Qxb6601407a
open Go.RowKit
set_option linter.unusedVariables false

set_option maxRecDepth 100000 in
set_option maxHeartbeats 4000000 in
theorem exact_low (v : Value) (vs : List Value) (rows : List (List Int)) (a2 : Option Addr) (len cap : Nat) (zs : List (Int × Int)) (a : Int) (b : Nat) (w : World)
    (hR : RowsR w v vs rows) (hrl : rows.length ≤ 65536) (hP : PairsR w a2 len zs) (hc2 : a2 = none → cap = 0) (hl : len ≤ 65536) (hwf : ∀ p ∈ zs, okI p.1 ∧ okI p.2) (ha : okI a) (hb : okI b) (hlow : b < 64) (ha0 : 0 ≤ a) (ha4 : a < 4194304) :
    Calls Try.prog 9 #[v, .slice a2 len cap, .int .i64 a, .int .i64 (b : Int)] w fun e w' => e = .returned (.bool true) ∧ Below w.heap.size w w' := by
  obtain ⟨ad, cp, hv, hvn, hvl, hv1, hv2⟩ := id hR
  have HB := hide (bytes2 v vs rows a2 len cap a b w hR (by unfold maxLen; omega) (by unfold maxLen; omega))
  have HR := hide hR
  have HP := hide hP
  have HW := hide hwf
  have HAB := hide (And.intro ha hb)
  have HC2 := hide hc2
  clear hR hP hwf ha hb hc2
  subst hv
  obtain ⟨n, hn⟩ : ∃ n, n = rows.length := ⟨_, rfl⟩
  rw [← hn] at hrl HR HB hvl hv1 ⊢
  have HN := hide hn
  have HV1 := hide hv1
  have HV2 := hide hv2
  have HVL := hide hvl
  clear hn hv1 hv2 hvl hvn
  have q22n : ∀ (w : World) (a : Option Addr) (n c n' c' : Nat), (binOp .neq 22 (.slice a n c) (.slice none n' c')).run Try.prog w = .ok (.bool (!a.isNone)) w := fun w a n c n' c' => run_neq_slice_nil_any w _ _ a n c n' c' Try.underlying22
  have hmm := @run_makeMap Try.prog
  go_enter Try.func9, Try.ntmps9
  go_wp2_with fail
  refine HB.out.mono ?_
  rintro e w0 ⟨⟨r, rfl⟩, hw0⟩
  subst hw0
  cases r with
  | false =>
    go_wp2
    go_ret
    exact ⟨rfl, Below.refl _ _⟩
  | true =>
    go_wp2
    go_loop [9, 10] (fun z i => ∃ (k : Nat) (zz : Int), k ≤ n ∧ i = .int .i64 k ∧ z = .int .i64 zz ∧ ∀ xs ∈ rows.take k, xs.length ≤ 1048576) (fun _ i => n - (intOf i).toNat)
    case atStart => exact ⟨0, _, Nat.zero_le _, rfl, rfl, by simp⟩
    case round =>
      obtain ⟨k, zz, hk, rfl, rfl, hlens⟩ := hrel
      have HLS := hide hlens
      clear hlens
      by_cases hlt : k < n
      · obtain ⟨b', off', rfl, _, hp⟩ := HV1.out (by omega)
        have hkr : k < rows.length := by rw [← HN.out]; exact hlt
        obtain ⟨xs, hx⟩ : ∃ xs, rows[k]? = some xs := ⟨rows[k], by simp [hkr]⟩
        obtain ⟨u, hu⟩ : ∃ u, vs[k]? = some u := ⟨vs[k]'(by have := HVL.out; omega), by simp⟩
        have c0 := hp k u hu
        obtain ⟨ua, ucap, hform, hum, _⟩ := HV2.out k u xs hu hx
        subst hform
        unfold maxLen at hum
        have HX := hide hx
        clear hp hx hu
        by_cases hxl : xs.length ≤ 1048576
        · go_wp2
          all_goals first
            | (go_ret; exact ⟨rfl, Below.refl _ _⟩)
            | (go_round
               case rel => exact ⟨k + 1, _, by omega, by go_num, rfl, take_lens HLS.out HX.out hxl⟩
               case measure => simp [intOf]; omega)
        · go_wp2
          go_ret
          exact ⟨rfl, Below.refl _ _⟩
      · obtain rfl : k = n := by omega
        go_wp2_with fail
        · go_ret
          exact ⟨rfl, Below.refl _ _⟩
        · have hls : ∀ xs ∈ rows, xs.length ≤ 1048576 := by have := HLS.out; rwa [List.take_of_length_le (by rw [← HN.out]; exact Nat.le_refl _)] at this
          have HL2 := hide hls
          clear HLS hls HV1 HV2 HVL HB
          have hrows := rows_any (.slice ad k cp) vs rows w0 (by rw [← HN.out]; exact hrl) HL2.out HR.out
          rw [← HN.out] at hrows
          refine hrows.mono ?_
          rintro e w1 ⟨ao1, vs1, rfl, hbits1, hb1⟩
          have HB1 := hide hbits1
          clear hrows hbits1
          go_wp2_with fail
          refine (copy_any a2 len cap zs w1 (by omega) HC2.out (HP.out.below hb1)).mono ?_
          rintro e w2 ⟨cv, rfl, hpr2, hb2⟩
          have HPR := hide hpr2
          clear hpr2
          go_upto_if 91 with fail
          go_cut [11, 12] from 29 (fun s11 _ wc => ∃ mo sz S, s11 = .map mo ∧ Mid w0 (.slice ao1 k k) vs1 rows cv len zs mo sz S wc)
          case first =>
            go_wp2
            · have hF0 : Fill2 w2 zs 0 (w2.alloc (.map #[] 0)) := ⟨0, _, SetMap.made w2, (by simp [HoldsAll]), Nat.le_refl _, (Below.refl _ _).alloc (Nat.le_refl _) _, by simp⟩
              have HF0 := hide hF0
              clear hF0 hmm
              go_loopw [12] (fun i wr => ∃ j : Nat, j ≤ len ∧ i = .int .i64 j ∧ Fill2 w2 zs j wr) (fun i _ => len - (intOf i).toNat)
              case atStart => exact ⟨0, Nat.zero_le _, rfl, HF0.out⟩
              case round =>
                obtain ⟨j, hj, rfl, hf⟩ := hrel
                have HF := hide hf
                clear hf HF0
                by_cases hlt2 : j < len
                · obtain ⟨cb, coff, rfl, hpa, hcb⟩ := HPR.out.2.2 (by omega)
                  obtain ⟨x, y, hxy, hx, hy⟩ := (hpa.below HF.out.below hcb).at hlt2
                  obtain ⟨w3, hrun, hf3⟩ := HF.out.step hxy (HW.out _ (List.mem_of_getElem? hxy)) (by omega)
                  have HF3 := hide hf3
                  clear hpa hxy hf3 HPR
                  go_wp2
                  go_roundw
                  case rel => exact ⟨j + 1, by omega, by go_num, HF3.out⟩
                  case measure => simp [intOf]; omega
                · obtain rfl : j = len := by omega
                  go_wp2
                  go_meet
                  case rel => exact mid_fill HB1.out hb1 hb2 HPR.out HF.out
            · go_meet
              case rel =>
                have hcv : cv.isSome = false := by assumption
                exact mid_none HB1.out hb1 hb2 HPR.out (by cases cv with | none => rfl | some x => cases hcv)
          case rest =>
            obtain ⟨mo, sz, S, rfl, hmid⟩ := hcut
            have HMID := hide hmid
            have hmid := HMID.out
            refine (‹∀ (a : Act) (w : World), Code.wp Try.prog (Code.seq (Code.region 29 _ _) _) _ a w → _› _ _ ?_)
            exact tail29_low w0 wc ao1 k k b a vs1 rows hlow ha0 ha4 HN.out.symm hmid.2.2.2.2.1 hrl HL2 hmid.1 cv len zs mo len sz S hmid.2.1 hl HW hmid.2.2.1 hmid.2.2.2.1 (by have := hmid.2.2.2.2.2.1; omega) hl hmid.2.2.2.2.2.2.2 _ _ _ _ _ _ _ _ _ _ _ _ _ _ _ _ _ _ _ _ _ _ _ _ _ _ _ _ _ _ _ _ _ _ _ _ _ _ _ _ _ _ _ _ _ _ _ _ _ _ _ _ _ _ _ _ _ _ _ _ _ _ _ _ _ _ _ _ _ _ _ _ _ _ _ _ _ _ _ _ _ _ _ _ _ _ _ _ _ _ _ _ _ _ _ _ _ _ _ _ _ _ _ _ _ _ _ _ _ _ _ _ _ _ _ _ _ _ _ _ _ _ _ _ _ _ _ _ _ _ _ _ _ _ _ _ _ _ _ _ _ _ _ _ _ _ _ _ _ _ _ _ _ _ _ _ _ _ _ _ _ _ _ _ _ _ _ _ _ _ _ _ _ _ _ _ _ _ _ _ _ _ _ _ _ _ _ _ _ _ _ _ _ _ _ _ _ _ _ _ _ _ _ _ _ _ _ _ _ _ _ _ _ _ _ _ _ _ _ _ _ _ _ _ _ _ _ _ _ _ _ _ _ _ _ _ _ _ _ _ _ _ _ _ _ _ _ _ _ _ _ _ _ _ _ _ _ _ _ _ _ _ _ _ _ _ _ _ _ _ _ _ _ _ _ _ _
end Go.Proofs.Qxb6601407a
