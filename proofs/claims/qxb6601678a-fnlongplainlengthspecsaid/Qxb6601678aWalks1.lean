import Derived.Test.Qxb6601678aLpl
import Derived.Test.Qxb6601678aDec
import Derived.Deep.QuietTactic
import Derived.BigQuiet
namespace Go.Proofs.Qxb6601678a
open Go.RowKit
set_option linter.unusedVariables false

theorem ret_bool {a b : Bool} (h : a = b) : Ending.returned (.bool a) = .returned (.bool b) := by rw [h]

theorem ret_slice {a : Option Addr} {n m c : Nat} (h : n = m) : Ending.returned (.slice a n c) = .returned (.slice a m c) := by rw [h]

set_option maxHeartbeats 400000 in
theorem alld_any (a : Option Addr) (cap : Nat) (ds : List Int) (w : World) (hl : ds.length ≤ 1048576) (h : BR w a ds) :
    Calls Try.prog 13 #[.slice a ds.length cap] w fun e w' => e = .returned (.bool (allD ds)) ∧ w' = w := by
  obtain ⟨n, hn⟩ : ∃ n, n = ds.length := ⟨_, rfl⟩
  rw [← hn] at hl ⊢
  have HN := hide hn
  have HB := hide h
  clear hn h
  by_cases h0 : n = 0
  · have hd : ((n : Int) == 0) = true := by simp; omega
    go_enter Try.func13, Try.ntmps13
    go_wp2
    go_ret
    refine ⟨ret_bool ?_, rfl⟩
    have : ds = [] := List.length_eq_zero_iff.1 (by rw [← HN.out]; exact h0)
    rw [this]; rfl
  · have hd : ((n : Int) == 0) = false := by simp; omega
    go_enter Try.func13, Try.ntmps13
    go_wp2
    go_loop [3] (fun s3 => ∃ k : Nat, k ≤ n ∧ s3 = .int .i64 (k : Int) ∧ Hid (∀ q c, q < k → ds[q]? = some c → Digit c)) (fun s3 => n - (intOf s3).toNat)
    case atStart => exact ⟨0, by omega, rfl, (fun q c hq => by omega : ∀ q c, q < 0 → ds[q]? = some c → Digit c)⟩
    case round =>
      obtain ⟨k, hk, rfl, HD⟩ := hrel
      by_cases hlt : k < n
      · obtain ⟨b, off, c, rfl, hc, cc, _⟩ := HB.out.at (k := k) (by rw [← HN.out]; exact hlt)
        have HC := hide hc
        clear hc
        by_cases hdc : 48 ≤ c ∧ c ≤ 57
        · obtain ⟨hc1, hc2⟩ := hdc
          go_wp2
          go_round
          case rel =>
            refine ⟨k + 1, by omega, by go_num, (fun q d hq hd => ?_ : ∀ q c, q < k + 1 → ds[q]? = some c → Digit c)⟩
            by_cases e : q = k
            · subst e; rw [HC.out] at hd; cases hd; exact ⟨hc1, hc2⟩
            · exact HD.out q d (by omega) hd
          case measure => simp [intOf]; omega
        · have hno : allD ds = false := by
            cases hA : allD ds with
            | false => rfl
            | true => exact absurd (((allD_iff ds).1 hA).2 c (List.mem_of_getElem? HC.out)) hdc
          have HNO := hide hno
          clear hno
          by_cases hc1 : 48 ≤ c
          · have hc2 : ¬ c ≤ 57 := fun e => hdc ⟨hc1, e⟩
            go_wp2
            go_ret
            exact ⟨ret_bool HNO.out.symm, rfl⟩
          · have hcd : decide (48 ≤ c) = false := decide_eq_false hc1
            go_wp2
            go_ret
            exact ⟨ret_bool HNO.out.symm, rfl⟩
      · obtain rfl : k = n := by omega
        go_wp2
        go_ret
        refine ⟨ret_bool ((allD_iff ds).2 ⟨fun e => h0 (by rw [HN.out, e]; rfl), fun c hc => ?_⟩).symm, rfl⟩
        obtain ⟨q, hq⟩ := List.mem_iff_getElem?.1 hc
        exact HD.out q c (by rw [HN.out]; exact (List.getElem?_eq_some_iff.1 hq).1) hq

set_option maxHeartbeats 400000 in
theorem same_any (a a' : Option Addr) (cap cap' : Nat) (xs : List Int) (w : World) (hm : xs.length ≤ 1048576) (h : BR w a xs) (h' : BR w a' xs) :
    Calls Try.prog 15 #[.slice a xs.length cap, .slice a' xs.length cap'] w fun e w' => e = .returned (.bool true) ∧ ∃ n, w' = w.drewN n := by
  obtain ⟨n, hn⟩ : ∃ n, n = xs.length := ⟨_, rfl⟩
  rw [← hn] at hm ⊢
  have HN := hide hn
  have H1 := hide h
  have H2 := hide h'
  clear h h' hn
  go_enter Try.func15, Try.ntmps15
  go_wp2
  go_loopw [5] (fun i wr => ∃ k : Nat, k ≤ n ∧ i = .int .i64 k ∧ ∃ q, wr = w.drewN q) (fun i _ => n - (intOf i).toNat)
  case atStart => exact ⟨0, Nat.zero_le _, rfl, 0, rfl⟩
  case round =>
    obtain ⟨k, hk, rfl, q, rfl⟩ := hrel
    by_cases hlt : k < n
    · obtain ⟨b, off, x, rfl, hx, c0, _⟩ := H1.out.at (k := k) (by rw [← HN.out]; exact hlt)
      obtain ⟨b', off', x', rfl, hx', c1, _⟩ := H2.out.at (k := k) (by rw [← HN.out]; exact hlt)
      obtain rfl : x = x' := by rw [hx] at hx'; simpa using hx'
      have hki : (k : Int) < (n : Int) := by omega
      clear hx hx'
      go_wp2
      go_quiet (fail)
      go_wp2
      go_roundw
      case rel => exact ⟨k + 1, by omega, by go_num, _, rfl⟩
      case measure => simp [intOf]; omega
    · go_wp2
      go_ret
      exact ⟨rfl, _, rfl⟩

def StripPost (ds : List Int) (w : World) (e : Ending) : Prop := ∃ a' cap', e = .returned (.slice a' (strip ds).length cap') ∧ BR w a' (strip ds)

set_option maxHeartbeats 400000 in
theorem strip_any (b off cap : Nat) (ds : List Int) (w : World) (hm : ds.length ≤ 1048576) (hc : ds.length ≤ cap) (hcm : cap ≤ 1048576) (h : BR w (some ⟨b, off, none⟩) ds) :
    Calls Try.prog 17 #[.slice (some ⟨b, off, none⟩) ds.length cap] w fun e w' => StripPost ds w e ∧ w' = w := by
  obtain ⟨kk, h1, h2, h3, h4⟩ := strip_drop ds
  obtain ⟨n, hn⟩ : ∃ n, n = ds.length := ⟨_, rfl⟩
  rw [← hn] at hm hc h1 ⊢
  have HN := hide hn
  have HB := hide h
  have H2 := hide h2
  have H3 := hide h3
  have H4 := hide h4
  clear hn h h2 h3 h4
  go_enter Try.func17, Try.ntmps17
  go_wp2
  go_loop [3] (fun s3 => ∃ k : Nat, k ≤ kk ∧ s3 = .int .i64 (k : Int)) (fun s3 => kk - (intOf s3).toNat)
  case atStart => exact ⟨0, by omega, rfl⟩
  case round =>
    obtain ⟨k, hk, rfl⟩ := hrel
    by_cases hlt : k < kk
    · obtain ⟨b', off', c, hab, hc, cc, _⟩ := HB.out.at (k := k) (by rw [← HN.out]; omega)
      simp at hab
      obtain ⟨rfl, rfl⟩ := hab
      obtain rfl : c = 48 := by have := H3.out k hlt; rw [hc] at this; simpa using this
      have hkn : (k : Int) < (n : Int) := by omega
      clear hc
      go_wp2
      go_round
      case rel => exact ⟨k + 1, by omega, by go_num⟩
      case measure => simp [intOf]; omega
    · obtain rfl : k = kk := by omega
      have hlen : (strip ds).length = n - k := by rw [H2.out, List.length_drop, ← HN.out]
      have HL := hide hlen
      clear hlen
      rcases H4.out with h4 | ⟨c, h4, h5⟩
      · obtain rfl : k = n := by rw [h4, ← HN.out]
        have hs0 : strip ds = [] := List.length_eq_zero_iff.1 (by rw [HL.out]; omega)
        have HS0 := hide hs0
        clear h4 hs0
        go_wp2
        all_goals
          go_ret
          refine ⟨⟨_, _, ret_slice (by rw [HL.out]; first | rfl | omega), ?_⟩, rfl⟩
          rw [HS0.out]
          exact ⟨fun h => by simp at h, by simp⟩
      · obtain ⟨b', off', c', hab, hc', cc, _⟩ := HB.out.at (k := k) (List.getElem?_eq_some_iff.1 h4).1
        simp at hab
        obtain ⟨rfl, rfl⟩ := hab
        obtain rfl : c = c' := by rw [h4] at hc'; simpa using hc'
        have hcd : (c == 48) = false := by simpa using h5
        have hkn2 : (k : Int) < (n : Int) := by have := (List.getElem?_eq_some_iff.1 h4).1; have := HN.out; omega
        have hbr : BR w (some ⟨b, off + k, none⟩) (strip ds) := by
          rw [H2.out]
          obtain ⟨b2, off2, e, hb2, hcc⟩ := HB.out.1 (by have := HN.out; omega)
          simp at e
          obtain ⟨rfl, rfl⟩ := e
          refine ⟨fun _ => ⟨b, off + k, rfl, hb2, fun q x hx => ?_⟩, fun x hx => HB.out.2 x (List.mem_of_mem_drop hx)⟩
          rw [List.getElem?_drop] at hx
          rw [Nat.add_assoc]; exact hcc _ x hx
        have HBR := hide hbr
        clear h4 hc' hbr
        go_wp2
        go_ret
        exact ⟨⟨_, _, ret_slice HL.out.symm, HBR.out⟩, rfl⟩
end Go.Proofs.Qxb6601678a
