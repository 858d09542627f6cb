import Derived.Test.Qxb6601699aMain0
namespace Go.Proofs.Qxb6601699a
open Go.RowKit
set_option linter.unusedVariables false
set_option linter.unusedSimpArgs false

set_option maxRecDepth 100000 in
set_option maxHeartbeats 4000000 in
theorem main6 (a : Option Addr) (cap st ex : Nat) (xs : List Int) (w : World) (hl : xs.length ≤ 1048576) (hst : st ≤ xs.length) (hex : ex ≤ 65536) (hnil : a = none → xs = []) (h : BR w a xs) :
    Calls Try.prog 6 #[.slice a xs.length cap, .int .i64 (st : Int), .int .i64 (ex : Int)] w fun e w' => e = .returned (.bool true) ∧ Below w.heap.size w w' := by
  obtain ⟨i0, hi, hz0, hz1, hz2⟩ := info_parts Try.info5
  have HC := hide (copy_any a cap xs w hl hnil h)
  obtain ⟨n, hn⟩ : ∃ n, n = xs.length := ⟨_, rfl⟩
  rw [← hn] at hl hst HC ⊢
  have HN := hide hn
  have HX := hide h.2
  clear hn h hnil
  have hd1 : decide ((ex : Int) < 0) = false := decide_eq_false (by omega)
  have hd2 : decide ((65536 : Int) < (ex : Int)) = false := decide_eq_false (by omega)
  have hd3 : decide ((st : Int) < 0) = false := decide_eq_false (by omega)
  have hd4 : decide ((n : Int) < (st : Int)) = false := decide_eq_false (by omega)
  obtain ⟨ZZ, hZZ⟩ : ∃ ZZ, ZZ = byts (List.replicate (n + ex) 0) := ⟨_, rfl⟩
  have hmk : ∀ w : World, (Instr.makeSlice 22 (.int .i64 (n : Int)) (.int .i64 ((n : Int) + (ex : Int)))).run Try.prog w = .ok (.slice (some ⟨w.heap.size, 0, none⟩) n (n + ex)) (w.alloc (.cells ZZ 5)) := fun w => by
    have := run_make (P := Try.prog) w 22 5 i0 _ Try.underlying22 hi hz0 .i64 .i64 n (n + ex) (by omega) (by omega) (by rw [hz2]; omega) (by omega)
    rw [this, hz1, hZZ, ← byts_made, show ((n : Int) + (ex : Int)).toNat = n + ex by omega, Int.toNat_natCast, Nat.mul_one]
  have HZZ := hide hZZ
  clear hZZ hi hz0 hz1 hz2
  go_enter Try.func6, Try.ntmps6
  go_wp2_with (go_at_call 14; go_in)
  refine HC.out.mono ?_
  rintro e w1 ⟨cv, rfl, hcv, hb1⟩
  have HCV := hide hcv
  clear hcv HC
  go_upto_region 11 with fail
  obtain ⟨W2, hW2⟩ : ∃ W2, W2 = w1.alloc (.cells ZZ 5) := ⟨_, rfl⟩
  rw [← hW2]
  have hbW : Below w1.heap.size w1 W2 := by rw [hW2]; exact (Below.refl _ _).alloc (Nat.le_refl _) _
  obtain ⟨X, hX⟩ : ∃ X, X = xs.map (Value.int .u8) := ⟨_, rfl⟩
  obtain ⟨C, hC⟩ : ∃ C, C = (List.replicate (n + ex) 0).map (Value.int .u8) := ⟨_, rfl⟩
  have HG : Hid (W2.heap[w1.heap.size]? = some (.cells C.toArray 5 (0, 0))) := by
    show _ = _
    rw [hW2, hC]
    have := heap_alloc_new w1 (.cells ZZ 5)
    rw [this, HZZ.out]; rfl
  have HXL : Hid (X.length = Nat.min n n) := by show _ = _; rw [hX, List.length_map, ← HN.out]; exact (Nat.min_self n).symm
  have HFit : Hid (0 + X.length ≤ C.length) := by show _ ≤ _; rw [hX, hC]; simp [← HN.out]
  have HO : Hid (∀ v ∈ X, v.oneCell' = true) := by show ∀ v ∈ X, _; rw [hX]; exact one_cell xs
  have HS : Hid (0 < X.length → ∃ ad, cv = some ad ∧ ∀ j v, X[j]? = some v → W2.cell? (ad.add j) = some v) := fun h0 => by
    rw [hX] at h0
    obtain ⟨b, off, e, hb, hc⟩ := HCV.out.1 (by simpa using h0)
    refine ⟨_, e, fun j v hj => ?_⟩
    rw [hX, List.getElem?_map] at hj
    obtain ⟨x, hx, rfl⟩ := Option.map_eq_some_iff.1 hj
    rw [Addr.add_lit]
    exact (hbW.cell (p := ⟨b, off + j, none⟩) hb).trans (hc j x hx)
  have HSP : Hid (splice C 0 X = (xs ++ List.replicate ex 0).map (Value.int .u8)) := by
    show _ = _
    rw [hX, hC, splice_map, splice_zero xs (n + ex) n HN.out.symm, Nat.add_sub_cancel_left]
  have HW2 := hide hW2
  clear hX hC hW2
  go_upto_region 12 with (refine wpList_copy_splice rfl _ _ 22 22 rfl 5 Try.underlying22 Try.size5 _ _ n (n + ex) n n rfl rfl w1.heap.size 0 C 5 HG.out X HXL.out (fun h0 => ⟨rfl, HS.out h0⟩) HFit.out HO.out w1.heap.size w1 hbW (Nat.le_refl _) ?_; intro w3 HG3 hB3)
  have hG3 : w3.heap[w1.heap.size]? = some (.cells (byts (xs ++ List.replicate ex 0)) 5 (0, 0)) := by rw [HG3.out, HSP.out]; rfl
  have HG4 := hide hG3
  clear hG3 HG3 HSP HS HFit HO HXL HG HW2 HZZ
  go_wp2_with fail
  refine (new_any _ _ _ _ _).mono ?_
  rintro e w4 ⟨rfl, hw4⟩
  have hS4 : St w4 w1.heap.size w3.heap.size w1.heap.size n (n + ex) st xs w4 := by
    rw [hw4]
    exact St.start (w1 := w1) HG4.out HN.out.symm (by rw [List.length_replicate, ← HN.out]) (Nat.le_refl _)
  have hB4 : Below w1.heap.size w1 w4 := by rw [hw4]; exact hB3.alloc hB3.size _
  obtain ⟨hh, hhd⟩ : ∃ hh, hh = n - st := ⟨_, rfl⟩
  obtain ⟨hs, hsd⟩ : ∃ hs, hs = xs.drop st := ⟨_, rfl⟩
  have HSpace := hide (space_any w4 w1.heap.size w3.heap.size w1.heap.size n (n + ex) st hh xs hs hhd hsd hS4 hst (by omega) hB4.size)
  have HB4 := hide hB4
  have HHD := hide hhd
  have HSD := hide hsd
  have hhn : hh ≤ n := by omega
  generalize hR : w3.heap.size = R at HSpace ⊢
  clear hw4 hS4 hhd hsd HG4 hB3 hB4 hR
  go_wp2_with fail
  refine HSpace.out.mono ?_
  rintro e w5 ⟨G, cp, rfl, hS5, hcp, hroom⟩
  have HS5 := hide hS5
  have HRoom := hide hroom
  have HBuf := hide (rbuf_any w5 hS5)
  have HStart := hide (rstart_any w5 hS5)
  have hlt := hroom.lt
  clear hS5 hroom HSpace
  go_wp2_with fail
  refine HBuf.out.mono ?_
  rintro e w6 ⟨rfl, hw6⟩
  subst hw6
  go_wp2_with fail
  refine HStart.out.mono ?_
  rintro e w5 ⟨rfl, hw5⟩
  subst hw5
  go_upto_region 18 with fail
  have e11 : (n : Int) - (st : Int) = (hh : Int) := by have := HHD.out; omega
  rw [e11]
  have hXs : ∀ x ∈ hs, 0 ≤ x ∧ x ≤ 255 := by rw [HSD.out]; exact fun x hx => HX.out x (List.mem_of_mem_drop hx)
  have HXs := hide hXs
  have hhl : hs.length = hh := HS5.out.len
  have HHL := hide hhl
  have HBRX : Hid (BR w5 cv xs) := HCV.out.below (HB4.out.trans HS5.out.below)
  have hxn : xs.length = n := HN.out.symm
  have HSAME : Hid (∀ W : World, (∃ zs, W.heap[G]? = some (.cells (byts (hs ++ zs)) 5 (0, 0))) → ∀ (a' : Option Addr) (c c' : Nat), BR W a' hs → Calls Try.prog 19 #[.slice (some ⟨G, 0, none⟩) hh c, .slice a' hh c'] W fun e w' => e = .returned (.bool true) ∧ ∃ n, w' = W.drewN n) := by
    intro W hW a' c c' hbr
    obtain ⟨zs, hz⟩ := hW
    have := same_any (some ⟨G, 0, none⟩) a' c c' hs W (by omega) (heldBR hz HXs.out) hbr
    rw [hhl] at this
    exact this
  have HE : Hid (∀ W : World, st = n → ∀ a', BR W a' hs) := by
    intro W e a'
    have : hs = [] := List.length_eq_zero_iff.1 (by have := HHD.out; omega)
    rw [this]; exact ⟨fun h => by simp at h, by simp⟩
  have HT : Hid (∀ W : World, BR W cv xs → st < n → ∃ b off, cv = some ⟨b, off, none⟩ ∧ BR W (some ⟨b, off + st, none⟩) hs) := by
    intro W hbr hlt
    obtain ⟨b, off, e, _, _⟩ := hbr.1 (by omega)
    refine ⟨b, off, e, ?_⟩
    rw [e] at hbr
    rw [HSD.out]
    exact hbr.tail st (by omega)
  have HZ5 : Hid (∃ zs, w5.heap[G]? = some (.cells (byts (hs ++ zs)) 5 (0, 0))) := by obtain ⟨zs, h, _⟩ := HS5.out.buf; exact ⟨zs, h⟩
  clear hXs hhl hxn
  have hhz : (n - st : Nat) = hh := HHD.out.symm
  go_cut [69] from 64 (fun s69 wc => s69 = .bool false ∧ ∃ nd, wc = w5.drewN nd)
  case first =>
    by_cases hsn : st = n
    · subst hsn
      have hh0 : hh = 0 := by omega
      subst hh0
      have hbr := fun a' => HE.out w5 rfl a'
      have HBRE := hide hbr
      clear hbr
      cases cv with
      | none =>
        go_wp2_with fail
        refine (HSAME.out w5 HZ5.out _ _ _ (HBRE.out _)).mono ?_
        rintro e w6 ⟨rfl, nd, rfl⟩
        go_wp2
        go_meet
        case rel => exact ⟨rfl, nd, rfl⟩
      | some ad =>
        go_wp2_with fail
        refine (HSAME.out w5 HZ5.out _ _ _ (HBRE.out _)).mono ?_
        rintro e w6 ⟨rfl, nd, rfl⟩
        go_wp2
        go_meet
        case rel => exact ⟨rfl, nd, rfl⟩
    · obtain ⟨b, off, rfl, hbr⟩ := HT.out w5 HBRX.out (by omega)
      have HBRE := hide hbr
      have hsn' : ¬ n = st := fun e => hsn e.symm
      have hst' : (st : Int) < (n : Int) := by omega
      clear hbr
      go_wp2_with fail
      refine (HSAME.out w5 HZ5.out _ _ _ HBRE.out).mono ?_
      rintro e w6 ⟨rfl, nd, rfl⟩
      go_wp2
      go_meet
      case rel => exact ⟨rfl, nd, rfl⟩
  case rest =>
    obtain ⟨rfl, nd, hwc⟩ := hcut
    have HWC := hide hwc
    clear hwc
    go_upto_region 21 with fail
    have hwc := HWC.out
    clear HWC
    have hS6 : St w4 w1.heap.size R G hh cp 0 hs wc := by rw [hwc]; exact HS5.out.drewN nd
    have hBR6 : BR wc cv xs := by rw [hwc]; exact HBRX.out.below ⟨rfl, rfl, rfl, Nat.le_refl _, fun _ _ => rfl⟩
    have HS6 := hide hS6
    have HBR6 := hide hBR6
    obtain ⟨c, hc⟩ : ∃ c, c = n + ex := ⟨_, rfl⟩
    rw [← hc] at HRoom
    have e12 : (n : Int) + (ex : Int) = (c : Int) := by omega
    rw [e12]
    have hcc : c ≤ 1114112 := by omega
    have hhc : hh ≤ c := by omega
    clear hwc hS6 hBR6 HS5 HBRX HZ5 hmk hd1 hd2 hd3 hd4 e11 e12 hc HBuf HStart
    go_cut [79] from 16 (fun s79 wd => s79 = .bool (decide (65536 < c ∧ hh ≤ 16384)) ∧ wd = wc)
    case first =>
      by_cases hk1 : 65536 < c
      · by_cases hk2 : hh ≤ 16384
        · have e : decide (65536 < c ∧ hh ≤ 16384) = true := decide_eq_true ⟨hk1, hk2⟩
          have HE := hide e
          clear e
          go_wp2
          go_meet
          case rel => exact ⟨by rw [HE.out]; simp; omega, rfl⟩
        · have e : decide (65536 < c ∧ hh ≤ 16384) = false := decide_eq_false (fun e => hk2 e.2)
          have HE := hide e
          clear e
          go_wp2
          go_meet
          case rel => exact ⟨by rw [HE.out]; simp; omega, rfl⟩
      · have e : decide (65536 < c ∧ hh ≤ 16384) = false := decide_eq_false (fun e => hk1 e.1)
        have HE := hide e
        clear e
        go_wp2
        go_meet
        case rel => exact ⟨by rw [HE.out], rfl⟩
    case rest =>
      obtain ⟨rfl, hwd⟩ := hcut
      subst hwd
      generalize hbb : decide (65536 < c ∧ hh ≤ 16384) = bb
      have HBB := hide hbb
      clear hbb
      go_upto_if 79 with fail
      go_cut [12] from 16 (fun s12 wd => s12 = .int .i64 (capK c hh : Nat) ∧ wd = wc)
      case first =>
        cases bb with
        | true =>
          go_wp2
          go_meet
          case rel => exact ⟨by unfold capK; rw [if_pos (of_decide_eq_true HBB.out)]; rfl, rfl⟩
        | false =>
          go_wp2
          go_meet
          case rel => exact ⟨by unfold capK; rw [if_neg (of_decide_eq_false HBB.out)], rfl⟩
      case rest =>
        obtain ⟨rfl, hwd⟩ := hcut
        subst hwd
        unfold Room at HRoom
        have hkc : capK c hh ≤ 1114112 := by unfold capK; split <;> omega
        have hkh : hh ≤ capK c hh := by unfold capK; split <;> omega
        generalize capK c hh = ck at HRoom hkc hkh ⊢
        clear HBB
        go_upto_region 24 with fail
        go_cut [90] from 16 (fun s90 wd => s90 = .bool (decide (16384 ≤ ck - hh ∧ hh / 2 ≤ ck - hh)) ∧ wd = wc)
        case first =>
          by_cases hr1 : (16384 : Int) ≤ (ck : Int) - (hh : Int)
          · have hr1' := decide_eq_true hr1
            by_cases hr2 : (hh : Int) / 2 ≤ (ck : Int) - (hh : Int)
            · have e : decide (16384 ≤ ck - hh ∧ hh / 2 ≤ ck - hh) = true := decide_eq_true (by omega)
              have HE := hide e
              have hr2' := decide_eq_true hr2
              clear e
              go_wp2
              go_meet
              case rel => exact ⟨by rw [HE.out], rfl⟩
            · have e : decide (16384 ≤ ck - hh ∧ hh / 2 ≤ ck - hh) = false := decide_eq_false (by omega)
              have HE := hide e
              have hr2' := decide_eq_false hr2
              clear e
              go_wp2
              go_meet
              case rel => exact ⟨by rw [HE.out], rfl⟩
          · have e : decide (16384 ≤ ck - hh ∧ hh / 2 ≤ ck - hh) = false := decide_eq_false (by omega)
            have HE := hide e
            have hr1' := decide_eq_false hr1
            clear e
            go_wp2
            go_meet
            case rel => exact ⟨by rw [HE.out], rfl⟩
        case rest =>
          obtain ⟨rfl, hwd⟩ := hcut
          subst hwd
          generalize hbb : decide (16384 ≤ ck - hh ∧ hh / 2 ≤ ck - hh) = bb
          have HBB := hide hbb
          clear hbb
          go_upto_if 90 with fail
          go_cut [14] from 16 (fun _ wd => wd = wc)
          case first =>
            cases bb with
            | true =>
              have hcp2 : cp = ck := HRoom.out.1 (of_decide_eq_true HBB.out)
              subst hcp2
              have hee : ((cp - hh : Nat) : Int) = (cp : Int) - (hh : Int) := by omega
              go_wp2
              go_meet
              case rel => rfl
            | false =>
              obtain ⟨hm1, hm2⟩ := HRoom.out.2 (of_decide_eq_false HBB.out)
              have hmm : ((cp - hh : Nat) : Int) = (cp : Int) - (hh : Int) := by omega
              by_cases hbig : 16384 < hh
              · have hbig' : (16384 : Int) < (hh : Int) := by omega
                have hmb : (hh : Int) ≤ (cp : Int) - (hh : Int) := by omega
                go_wp2
                go_meet
                case rel => rfl
              · have hbig' : (hh : Int) ≤ 16384 := by omega
                have hmb : (16384 : Int) ≤ (cp : Int) - (hh : Int) := by omega
                go_wp2
                go_meet
                case rel => rfl
          case rest =>
            have hwd := hcut
            subst hwd
            obtain ⟨m, hm⟩ : ∃ m, m = cp - hh := ⟨_, rfl⟩
            rw [← hm]
            have hm63 : m ≤ 9223372036854775807 := by omega
            have hF0 : Fill w4 w1.heap.size G hh m hs wc := by
              obtain ⟨zs, hg, hz⟩ := HS6.out.buf
              exact ⟨zs, hg, by have := HS6.out.len; omega, HS6.out.below⟩
            have HF0 := hide hF0
            have HBG := hide HS6.out.baseG
            have HLEN := hide HS6.out.len
            clear hm hF0 HRoom HBB hkc hkh hlt hcp
            go_wp2
            go_loopw [15] (fun i wr => ∃ k : Nat, k ≤ m ∧ i = .int .i64 k ∧ Hid (Fill w4 w1.heap.size G hh m hs wr)) (fun i _ => m - (intOf i).toNat)
            case atStart => exact ⟨0, Nat.zero_le _, rfl, HF0⟩
            case round =>
              obtain ⟨k, hk, rfl, HF⟩ := hrel
              by_cases hlt : k < m
              · obtain ⟨⟨v, cv0⟩, f0⟩ := HF.out.cell HLEN.out hlt
                have HP := hide (HF.out.put (k := k) HLEN.out HBG.out 165)
                have hki : (k : Int) < (m : Int) := by omega
                go_wp2
                go_roundw
                case rel => exact ⟨k + 1, by omega, by go_num, HP⟩
                case measure => simp [intOf]; omega
              · obtain rfl : k = m := by omega
                have hZr : ∃ zs, wr.heap[G]? = some (.cells (byts (hs ++ zs)) 5 (0, 0)) := by obtain ⟨zs, hg, _, _⟩ := HF.out; exact ⟨zs, hg⟩
                have hBr : Below w1.heap.size w1 wr := by obtain ⟨_, _, _, hb⟩ := HF.out; exact HB4.out.trans hb
                have HZr := hide hZr
                have HBRr := hide (HCV.out.below hBr)
                have HEND : Hid (∀ nd, Below w.heap.size w (wr.drewN nd)) := fun nd => (hb1.trans (hBr.mono hb1.size)).trans ⟨rfl, rfl, rfl, Nat.le_refl _, fun _ _ => rfl⟩
                clear hZr hBr HF HF0
                by_cases hsn : st = n
                · subst hsn
                  have hh0 : hh = 0 := by omega
                  subst hh0
                  have hbr := fun a' => HE.out wr rfl a'
                  have HBRE := hide hbr
                  clear hbr
                  cases cv with
                  | none =>
                    go_wp2_with fail
                    refine (HSAME.out wr HZr.out _ _ _ (HBRE.out _)).mono ?_
                    rintro e w6 ⟨rfl, nd, rfl⟩
                    go_wp2
                    go_ret
                    exact ⟨rfl, HEND.out nd⟩
                  | some ad =>
                    go_wp2_with fail
                    refine (HSAME.out wr HZr.out _ _ _ (HBRE.out _)).mono ?_
                    rintro e w6 ⟨rfl, nd, rfl⟩
                    go_wp2
                    go_ret
                    exact ⟨rfl, HEND.out nd⟩
                · obtain ⟨b, off, rfl, hbr⟩ := HT.out wr HBRr.out (by omega)
                  have HBRE := hide hbr
                  have hsn' : ¬ n = st := fun e => hsn e.symm
                  have hst' : (st : Int) < (n : Int) := by omega
                  clear hbr
                  go_wp2_with fail
                  refine (HSAME.out wr HZr.out _ _ _ HBRE.out).mono ?_
                  rintro e w6 ⟨rfl, nd, rfl⟩
                  go_wp2
                  go_ret
                  exact ⟨rfl, HEND.out nd⟩
end Go.Proofs.Qxb6601699a
