import Derived.Test.Qxb6601678aDecW
namespace Go.Proofs.Qxb6601678a
open Go.RowKit
set_option linter.unusedVariables false

set_option maxHeartbeats 4000000 in
theorem main5 (a : Option Addr) (cap i : Nat) (p : Int) (xs : List Int) (w : World) (hl : xs.length ≤ 1048576) (hi : i ≤ xs.length) (hnil : a = none → xs = []) (h : BR w a xs) :
    Calls Try.prog 5 #[.slice a xs.length cap, .int .i64 (i : Int), .int .u8 p] w fun e w' => e = .returned (.bool true) ∧ Below w.heap.size w w' := by
  have HC := hide (clone_any a cap xs w hl hnil h)
  obtain ⟨n, hn⟩ : ∃ n, n = xs.length := ⟨_, rfl⟩
  rw [← hn] at hl hi HC ⊢
  have HN := hide hn
  clear hn h hnil
  have hi0 : decide ((i : Int) < 0) = false := decide_eq_false (by omega)
  have hi1 : decide ((n : Int) < (i : Int)) = false := decide_eq_false (by omega)
  go_enter Try.func5, Try.ntmps5
  go_wp2_with (go_at_call 19; go_in)
  go_wp2_with fail
  refine HC.out.mono ?_
  rintro e w1 ⟨cv, rfl, hcv, hb1⟩
  have HCV := hide hcv
  clear hcv
  have HL := hide (zlpl_any cv n i p xs w1 (by rw [← HN.out]; exact hl) (by rw [← HN.out]; exact hi) HCV.out)
  rw [← HN.out] at HL
  go_wp2_with fail
  refine HL.out.mono ?_
  rintro e w2 ⟨hL, hw2⟩
  subst hw2
  clear HL
  rcases hL with ⟨k, hk, rfl⟩ | ⟨hno, rfl⟩
  · have HK := hide hk
    obtain ⟨k1, k9, kp, kd, k13, k10⟩ := hk
    have hlen : i + 1 + k + 1 < n := by have := (List.getElem?_eq_some_iff.1 k10).1; rw [← HN.out] at this; exact this
    have hvb := V_bound kd 9 k9
    obtain ⟨cb, coff, rfl, hcb, hcc⟩ := HCV.out.1 (by rw [← HN.out]; omega)
    have c0 := hcc i p kp
    have c13 := hcc (i + 1 + k) 13 k13
    have c10 := hcc (i + 1 + k + 1) 10 k10
    have hdl : ((xs.drop (i + 1)).take k).length = k := by rw [List.length_take, List.length_drop, ← HN.out]; omega
    have hbr : BR w2 (some ⟨cb, coff + (i + 1), none⟩) ((xs.drop (i + 1)).take k) := by
      refine ⟨fun _ => ⟨cb, coff + (i + 1), rfl, hcb, fun q x hx => ?_⟩, fun x hx => HCV.out.2 x (List.mem_of_mem_drop (List.mem_of_mem_take hx))⟩
      rw [List.getElem?_take] at hx
      split at hx
      · rw [drop_get] at hx
        have := hcc (i + 1 + q) x hx
        rw [show coff + (i + 1) + q = coff + (i + 1 + q) by omega]; exact this
      · cases hx
    have HCC := hide hcc
    have hv0 := hvb.1
    have hv1 : V xs i k ≤ 999999999 := by omega
    have HDS := hide (And.intro hdl (And.intro hbr kd.all))
    have hdv := dec_val _ kd.all
    have HDV : Hid (dec (V xs i k).toNat = strip ((xs.drop (i + 1)).take k)) := hdv
    have HD := hide kd
    obtain ⟨v, hv⟩ : ∃ v : Nat, V xs i k = (v : Int) := ⟨(V xs i k).toNat, by omega⟩
    rw [hv] at HDV hv0 hv1
    unfold accepted
    rw [hv]
    have hdn : ((i : Int) == (n : Int)) = false := by simp; omega
    have hii : (i : Int) < (n : Int) := by omega
    clear hvb hbr hdl hcc kp kd k13 k10 hdv hv
    go_wp2
    go_loop [11] (fun s => ∃ q : Nat, q ≤ k ∧ s = .int .i64 ((i : Int) + 1 + (q : Int))) (fun s => n - (intOf s).toNat)
    case atStart => exact ⟨0, by omega, by go_num⟩
    case round =>
      obtain ⟨q, hq, rfl⟩ := hrel
      by_cases hlt : q < k
      · obtain ⟨c, hc, hd⟩ := HD.out q hlt
        have cq := HCC.out (i + 1 + q) c hc
        have hc13 : (c == 13) = false := by unfold Digit at hd; simp; omega
        have hqn : (i : Int) + 1 + (q : Int) < (n : Int) := by omega
        clear hc hd
        go_wp2
        go_round
        case rel => exact ⟨q + 1, by omega, by go_num⟩
        case measure => simp [intOf]; omega
      · obtain rfl : q = k := by omega
        have HA : Hid (∀ cap', Calls Try.prog 13 #[.slice (some ⟨cb, coff + (i + 1), none⟩) q cap'] w2 fun e w' => e = .returned (.bool true) ∧ w' = w2) := fun cap' => by
          have := alld_any (some ⟨cb, coff + (i + 1), none⟩) cap' ((xs.drop (i + 1)).take q) w2 (by rw [HDS.out.1]; omega) HDS.out.2.1
          rw [HDS.out.1, (allD_iff _).2 ⟨fun e => by have := HDS.out.1; rw [e] at this; simp at this; omega, HDS.out.2.2⟩] at this
          exact this
        have hq1 : decide ((q : Int) < 1) = false := decide_eq_false (by omega)
        have hq9 : decide ((9 : Int) < (q : Int)) = false := decide_eq_false (by omega)
        have hqn : decide ((n : Int) ≤ (i : Int) + 1 + (q : Int) + 1) = false := decide_eq_false (by omega)
        have HDX := hide (dec_any v w2 (by omega))
        go_wp2_with fail
        refine (HA.out _).mono ?_
        rintro e w3 ⟨rfl, hw3⟩
        subst hw3
        go_wp2_with fail
        refine HDX.out.mono ?_
        rintro e w3 ⟨⟨dv, rfl, hdv⟩, hb2⟩
        have HDB := hide hdv
        have HST : Hid (∀ cap', q ≤ cap' → cap' ≤ 1048576 → Calls Try.prog 17 #[.slice (some ⟨cb, coff + (i + 1), none⟩) q cap'] w3 fun e w' => StripPost ((xs.drop (i + 1)).take q) w3 e ∧ w' = w3) := fun cap' h1 h2 => by
          have := strip_any cb (coff + (i + 1)) cap' ((xs.drop (i + 1)).take q) w3 (by rw [HDS.out.1]; omega) (by rw [HDS.out.1]; exact h1) h2 (HDS.out.2.1.below hb2)
          rw [HDS.out.1] at this
          exact this
        clear hdv
        go_wp2_with fail
        refine (HST.out _ (by omega) (by omega)).mono ?_
        rintro e w4 ⟨⟨sa, sc, rfl, hsb⟩, hw4⟩
        subst hw4
        have HSB := hide hsb
        clear hsb
        have hds : dec v = strip ((xs.drop (i + 1)).take q) := by have := HDV.out; rwa [Int.toNat_natCast] at this
        have HSM := hide (same_any dv sa (dec v).length sc (strip ((xs.drop (i + 1)).take q)) w4 (by rw [← hds]; have := dec_len 9 v (by omega); omega) (by rw [← hds]; exact HDB.out) HSB.out)
        rw [show Value.slice dv (strip ((xs.drop (i + 1)).take q)).length (dec v).length = Value.slice dv (dec v).length (dec v).length by rw [hds]] at HSM
        clear hds
        go_wp2_with fail
        refine HSM.out.mono ?_
        rintro e w5 ⟨rfl, nd, rfl⟩
        go_wp2
        go_ret
        exact ⟨rfl, (hb1.trans (hb2.mono hb1.size)).trans ⟨rfl, rfl, rfl, Nat.le_refl _, fun _ _ => rfl⟩⟩
  · unfold refused
    have HNO := hide hno
    clear hno
    by_cases hin : i = n
    · have hdn : ((i : Int) == (n : Int)) = true := by simp; omega
      go_wp2
      go_ret
      exact ⟨rfl, hb1⟩
    · have hdn : ((i : Int) == (n : Int)) = false := by simp; omega
      have hii : (i : Int) < (n : Int) := by omega
      obtain ⟨cb, coff, rfl, hcb, hcc⟩ := HCV.out.1 (by rw [← HN.out]; omega)
      obtain ⟨x, hx⟩ : ∃ x, xs[i]? = some x := ⟨xs[i]'(by rw [← HN.out]; omega), by simp⟩
      have cx := hcc i x hx
      have HX := hide hx
      have HCC := hide hcc
      clear hx hcc
      by_cases hxp : x = p
      · subst hxp
        have hin' : i < n := by omega
        clear hin
        go_wp2
        go_loop [11] (fun s => ∃ q : Nat, i + 1 + q ≤ n ∧ s = .int .i64 ((i : Int) + 1 + (q : Int))) (fun s => n - (intOf s).toNat)
        case atStart => exact ⟨0, by omega, by go_num⟩
        case round =>
          obtain ⟨q, hq, rfl⟩ := hrel
          have HA : Hid (∀ cap', Calls Try.prog 13 #[.slice (some ⟨cb, coff + (i + 1), none⟩) q cap'] w2 fun e w' => e = .returned (.bool (allD ((xs.drop (i + 1)).take q))) ∧ w' = w2) := fun cap' => by
            have hdl : ((xs.drop (i + 1)).take q).length = q := by rw [List.length_take, List.length_drop, ← HN.out]; omega
            have hbr : BR w2 (some ⟨cb, coff + (i + 1), none⟩) ((xs.drop (i + 1)).take q) := by
              refine ⟨fun _ => ⟨cb, coff + (i + 1), rfl, hcb, fun r x hx => ?_⟩, fun x hx => HCV.out.2 x (List.mem_of_mem_drop (List.mem_of_mem_take hx))⟩
              rw [List.getElem?_take] at hx
              split at hx
              · rw [drop_get] at hx
                have := HCC.out (i + 1 + r) x hx
                rw [show coff + (i + 1) + r = coff + (i + 1 + r) by omega]; exact this
              · cases hx
            have := alld_any (some ⟨cb, coff + (i + 1), none⟩) cap' ((xs.drop (i + 1)).take q) w2 (by rw [hdl]; omega) hbr
            rw [hdl] at this
            exact this
          have HDG : Hid (allD ((xs.drop (i + 1)).take q) = true → Digs xs i q) := fun hA r hr => by
            have hlt : i + 1 + r < xs.length := by rw [← HN.out]; omega
            refine ⟨xs[i + 1 + r], by simp [hlt], ((allD_iff _).1 hA).2 _ (List.mem_of_getElem? (i := r) ?_)⟩
            rw [List.getElem?_take, if_pos hr, drop_get]; simp [hlt]
          by_cases hlt : i + 1 + q < n
          · obtain ⟨c, hc⟩ : ∃ c, xs[i + 1 + q]? = some c := ⟨xs[i + 1 + q]'(by rw [← HN.out]; omega), by simp⟩
            have cq := HCC.out (i + 1 + q) c hc
            have HQ := hide hc
            have hqn : (i : Int) + 1 + (q : Int) < (n : Int) := by omega
            clear hc
            by_cases hc13 : c = 13
            · subst hc13
              by_cases hq1 : q < 1
              · have hq1' : decide ((q : Int) < 1) = true := decide_eq_true (by omega)
                go_wp2
                go_ret
                exact ⟨rfl, hb1⟩
              · have hq1' : decide ((q : Int) < 1) = false := decide_eq_false (by omega)
                by_cases hq9 : 9 < q
                · have hq9' : decide ((9 : Int) < (q : Int)) = true := decide_eq_true (by omega)
                  go_wp2
                  go_ret
                  exact ⟨rfl, hb1⟩
                · have hq9' : decide ((9 : Int) < (q : Int)) = false := decide_eq_false (by omega)
                  go_wp2_with fail
                  refine (HA.out _).mono ?_
                  rintro e w3 ⟨rfl, hw3⟩
                  subst hw3
                  clear HA
                  generalize allD ((xs.drop (i + 1)).take q) = bb at HDG ⊢
                  cases bb with
                  | false =>
                    go_wp2
                    go_ret
                    exact ⟨rfl, hb1⟩
                  | true =>
                    by_cases hq2 : i + 1 + q + 1 < n
                    · have hqn2 : decide ((n : Int) ≤ (i : Int) + 1 + (q : Int) + 1) = false := decide_eq_false (by omega)
                      obtain ⟨c, hc⟩ : ∃ c, xs[i + 1 + q + 1]? = some c := ⟨xs[i + 1 + q + 1]'(by rw [← HN.out]; omega), by simp⟩
                      have cq2 := HCC.out (i + 1 + q + 1) c hc
                      by_cases hc10 : c = 10
                      · subst hc10
                        exact absurd ⟨by omega, by omega, HX.out, HDG.out rfl, HQ.out, hc⟩ (HNO.out q)
                      · have hc10' : (c == 10) = false := by simpa using hc10
                        clear hc hc10
                        go_wp2
                        go_ret
                        exact ⟨rfl, hb1⟩
                    · have hqn2 : decide ((n : Int) ≤ (i : Int) + 1 + (q : Int) + 1) = true := decide_eq_true (by omega)
                      go_wp2
                      go_ret
                      exact ⟨rfl, hb1⟩
            · have hc13' : (c == 13) = false := by simpa using hc13
              clear hc13
              go_wp2
              go_round
              case rel => exact ⟨q + 1, by omega, by go_num⟩
              case measure => simp [intOf]; omega
          · have hqn : decide ((i : Int) + 1 + (q : Int) < (n : Int)) = false := decide_eq_false (by omega)
            have hqn2 : decide ((n : Int) ≤ (i : Int) + 1 + (q : Int) + 1) = true := decide_eq_true (by omega)
            by_cases hq1 : q < 1
            · have hq1' : decide ((q : Int) < 1) = true := decide_eq_true (by omega)
              go_wp2
              go_ret
              exact ⟨rfl, hb1⟩
            · have hq1' : decide ((q : Int) < 1) = false := decide_eq_false (by omega)
              by_cases hq9 : 9 < q
              · have hq9' : decide ((9 : Int) < (q : Int)) = true := decide_eq_true (by omega)
                go_wp2
                go_ret
                exact ⟨rfl, hb1⟩
              · have hq9' : decide ((9 : Int) < (q : Int)) = false := decide_eq_false (by omega)
                go_wp2_with fail
                refine (HA.out _).mono ?_
                rintro e w3 ⟨rfl, hw3⟩
                subst hw3
                clear HA
                generalize allD ((xs.drop (i + 1)).take q) = bb at HDG ⊢
                cases bb with
                | false =>
                  go_wp2
                  go_ret
                  exact ⟨rfl, hb1⟩
                | true =>
                  go_wp2
                  go_ret
                  exact ⟨rfl, hb1⟩
      · have hxp' : (x == p) = false := by simpa using hxp
        clear hxp
        go_wp2
        go_ret
        exact ⟨rfl, hb1⟩
end Go.Proofs.Qxb6601678a
