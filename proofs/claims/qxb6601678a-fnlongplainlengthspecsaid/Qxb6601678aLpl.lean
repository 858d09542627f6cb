import Derived.Test.Qxb6601678aWalks0
import Derived.Laws.BitsAllLaws
import Derived.Deep.CutRange
import Derived.Deep.CutBlock
import Derived.Laws.Bits64
namespace Go.Proofs.Qxb6601678a
open Go.RowKit
set_option linter.unusedVariables false

theorem no_acc_end {xs : List Int} {i : Nat} {p : Int} (h : xs.length ≤ i) (k : Nat) : ¬ Acc xs i p k := fun ha => by
  have := ha.2.2.1
  rw [List.getElem?_eq_none h] at this; cases this
theorem no_acc_pre {xs : List Int} {i : Nat} {p x : Int} (h : xs[i]? = some x) (hne : x ≠ p) (k : Nat) : ¬ Acc xs i p k := fun ha => by
  have := ha.2.2.1
  rw [h] at this; cases this; exact hne rfl

/-- Where the run of digits has come to its end. -/
def Stop (xs : List Int) (i k : Nat) : Prop := k ≤ 9 ∧ i + 1 + k ≤ xs.length ∧ Digs xs i k ∧ (xs.length ≤ i + 1 + k ∨ k = 9 ∨ ∃ c, xs[i + 1 + k]? = some c ∧ ¬ Digit c)

theorem wrap_dig {c : Int} (h : Digit c) : IntKind.u64.wrap (c - 48) = c - 48 := by unfold Digit at h; rw [IntKind.wrap_u64]; omega
theorem wrap_nodig {c : Int} (h0 : 0 ≤ c) (h1 : c ≤ 255) (h : ¬ Digit c) : 9 < IntKind.u64.wrap (c - 48) := by unfold Digit at h; rw [IntKind.wrap_u64]; omega

set_option maxHeartbeats 1000000 in
theorem lpl_any (a : Option Addr) (cap i : Nat) (p : Int) (xs : List Int) (w : World) (hl : xs.length ≤ 1048576) (hi : i ≤ xs.length) (h : BR w a xs) :
    Calls Try.prog 33 #[.slice a xs.length cap, .int .i64 (i : Int), .int .u8 p] w fun e w' => Lpl xs i p e ∧ w' = w := by
  obtain ⟨n, hn⟩ : ∃ n, n = xs.length := ⟨_, rfl⟩
  rw [← hn] at hl hi ⊢
  have HN := hide hn
  have HB := hide h
  clear hn h
  by_cases hin : i = n
  · have hd : ((i : Int) == (n : Int)) = true := by simp; omega
    go_enter Try.func33, Try.ntmps33
    go_wp2
    go_ret3
    exact ⟨.inr ⟨no_acc_end (by rw [← HN.out]; omega), rfl⟩, rfl⟩
  · obtain ⟨b, off, x, rfl, hx, cx, _⟩ := HB.out.at (k := i) (by rw [← HN.out]; omega)
    have hd : ((i : Int) == (n : Int)) = false := by simp; omega
    have hii : (i : Int) < (n : Int) := by omega
    have HX := hide hx
    clear hx
    by_cases hxp : x = p
    · subst hxp
      go_enter Try.func33, Try.ntmps33
      go_upto_block 0 with fail
      go_cut [6, 9] from 11 (fun s6 s9 wc => ∃ k, s6 = .int .i64 (V xs i k) ∧ s9 = .int .i64 ((i : Int) + 1 + (k : Int)) ∧ Stop xs i k ∧ wc = w)
      case first =>
        go_wp2
        go_loop [6, 9] (fun s6 s9 => ∃ k : Nat, s6 = .int .i64 (V xs i k) ∧ s9 = .int .i64 ((i : Int) + 1 + (k : Int)) ∧ k ≤ 9 ∧ i + 1 + k ≤ n ∧ Hid (Digs xs i k)) (fun _ s9 => n - (intOf s9).toNat)
        case atStart => exact ⟨0, rfl, by go_num, by omega, by omega, (fun q hq => by omega : Digs xs i 0)⟩
        case round =>
          obtain ⟨k, rfl, rfl, hk9, hkn, HD⟩ := hrel
          have hvb := V_bound HD.out 9 hk9
          by_cases hlt : i + 1 + k < n
          · by_cases hk : k < 9
            · obtain ⟨b', off', c, hab, hc, cc, hc0, hc1⟩ := HB.out.at (k := i + 1 + k) (by rw [← HN.out]; omega)
              simp at hab
              obtain ⟨rfl, rfl⟩ := hab
              have hvb8 := V_bound HD.out 8 (by omega)
              have hli : (i : Int) + 1 + (k : Int) < (n : Int) := by omega
              have HC := hide hc
              clear hc hvb
              by_cases hdc : Digit c
              · have hw1 := wrap_dig hdc
                have hdd := hdc
                unfold Digit at hdd
                have hvs := hide (V_snoc (k := k) HC.out)
                go_wp2
                go_round
                case rel => exact ⟨k + 1, by rw [hvs.out], by rw [show (i : Int) + 1 + (k : Int) + 1 = (i : Int) + 1 + ((k + 1 : Nat) : Int) by omega], by omega, by omega, HD.out.snoc HC.out hdc⟩
                case measure => simp [intOf]; omega
              · have hw1 := wrap_nodig hc0 hc1 hdc
                go_wp2
                go_meet
                case rel => exact ⟨k, rfl, rfl, ⟨hk9, by rw [← HN.out]; exact hkn, HD.out, .inr (.inr ⟨c, HC.out, hdc⟩)⟩, rfl⟩
            · have hli : (i : Int) + 1 + (k : Int) < (n : Int) := by omega
              have hk9' : (9 : Int) < (i : Int) + 1 + (k : Int) - (i : Int) := by omega
              go_wp2
              go_meet
              case rel => exact ⟨k, rfl, rfl, ⟨hk9, by rw [← HN.out]; exact hkn, HD.out, .inr (.inl (by omega))⟩, rfl⟩
          · have hli : decide ((i : Int) + 1 + (k : Int) < (n : Int)) = false := decide_eq_false (by omega)
            go_wp2
            go_meet
            case rel => exact ⟨k, rfl, rfl, ⟨hk9, by rw [← HN.out]; exact hkn, HD.out, .inl (by rw [← HN.out]; omega)⟩, rfl⟩
      case rest =>
        obtain ⟨k, rfl, rfl, hst, hwc⟩ := hcut
        subst hwc
        have hk9 := hst.1
        have hkn : i + 1 + k ≤ n := by have := hst.2.1; rw [← HN.out] at this; exact this
        have HST := hide hst
        clear hst
        have hno : Hid (∀ k', Acc xs i x k' → k' = k) := fun k' h => no_other HST.out.1 HST.out.2.2.1 HST.out.2.2.2 h
        by_cases hk0 : k = 0
        · subst hk0
          go_wp2
          go_ret3
          exact ⟨.inr ⟨(fun k' h => by have := hno.out k' h; have := h.1; omega), rfl⟩, rfl⟩
        · have hke : (((i : Int) + 1 + (k : Int)) == ((i : Int) + 1)) = false := by simp; omega
          by_cases hkl : i + 1 + k + 1 < n
          · obtain ⟨b', off', y, hab, hy, cy, hy0, hy1⟩ := HB.out.at (k := i + 1 + k) (by rw [← HN.out]; omega)
            simp at hab
            obtain ⟨rfl, rfl⟩ := hab
            obtain ⟨b', off', z, hab, hz, cz, hz0, hz1⟩ := HB.out.at (k := i + 1 + k + 1) (by rw [← HN.out]; omega)
            simp at hab
            obtain ⟨rfl, rfl⟩ := hab
            have hli : decide ((n : Int) ≤ (i : Int) + 1 + (k : Int) + 1) = false := decide_eq_false (by omega)
            have HY := hide hy
            have HZ := hide hz
            clear hy hz
            by_cases hyd : y = 13
            · subst hyd
              by_cases hzd : z = 10
              · subst hzd
                go_wp2
                go_ret3
                exact ⟨.inl ⟨k, ⟨by omega, hk9, HX.out, HST.out.2.2.1, HY.out, HZ.out⟩, rfl⟩, rfl⟩
              · have hzb : (z != 10) = true := by simpa using hzd
                go_wp2
                go_ret3
                exact ⟨.inr ⟨(fun k' h => by obtain rfl := hno.out k' h; have := h.2.2.2.2.2; rw [HZ.out] at this; cases this; exact hzd rfl), rfl⟩, rfl⟩
            · have hyb : (y != 13) = true := by simpa using hyd
              go_wp2
              go_ret3
              exact ⟨.inr ⟨(fun k' h => by obtain rfl := hno.out k' h; have := h.2.2.2.2.1; rw [HY.out] at this; cases this; exact hyd rfl), rfl⟩, rfl⟩
          · have hli : decide ((n : Int) ≤ (i : Int) + 1 + (k : Int) + 1) = true := decide_eq_true (by omega)
            go_wp2
            go_ret3
            exact ⟨.inr ⟨(fun k' h => by obtain rfl := hno.out k' h; have := h.2.2.2.2.2; rw [List.getElem?_eq_none (by rw [← HN.out]; omega)] at this; cases this), rfl⟩, rfl⟩
    · have hxd : (x != p) = true := by simpa using hxp
      go_enter Try.func33, Try.ntmps33
      go_wp2
      go_ret3
      exact ⟨.inr ⟨no_acc_pre HX.out hxp, rfl⟩, rfl⟩

/-- The function that the law calls. -/
theorem zlpl_any (a : Option Addr) (cap i : Nat) (p : Int) (xs : List Int) (w : World) (hl : xs.length ≤ 1048576) (hi : i ≤ xs.length) (h : BR w a xs) :
    Calls Try.prog 20 #[.slice a xs.length cap, .int .i64 (i : Int), .int .u8 p] w fun e w' => Lpl xs i p e ∧ w' = w := by
  have H := hide (lpl_any a cap i p xs w hl hi h)
  clear hl hi h
  go_enter Try.func20, Try.ntmps20
  go_wp2_with fail
  refine H.out.mono ?_
  rintro e w1 ⟨hL, hw1⟩
  subst hw1
  rcases hL with ⟨k, hk, rfl⟩ | ⟨hk, rfl⟩
  · have HK := hide hk
    clear hk
    unfold accepted
    go_wp2
    go_ret3
    exact ⟨.inl ⟨k, HK.out, rfl⟩, rfl⟩
  · have HK := hide hk
    clear hk
    unfold refused
    go_wp2
    go_ret3
    exact ⟨.inr ⟨HK.out, rfl⟩, rfl⟩

set_option maxHeartbeats 1000000 in
/-- parseDigits at one to nine digits, under nine nines. -/
theorem pd_any (a : Option Addr) (cap : Nat) (ds : List Int) (w : World) (h1 : 1 ≤ ds.length) (h9 : ds.length ≤ 9) (hd : ∀ c ∈ ds, Digit c) (h : BR w a ds) :
    Calls Try.prog 31 #[.slice a ds.length cap, .int .u64 999999999] w fun e w' => e = .returned (.tuple #[.int .u64 (val ds), .bool true]) ∧ w' = w := by
  obtain ⟨n, hn⟩ : ∃ n, n = ds.length := ⟨_, rfl⟩
  rw [← hn] at h1 h9 ⊢
  have HN := hide hn
  have HB := hide h
  have HD := hide hd
  clear hn h hd
  have hn0 : ((n : Int) == 0) = false := by simp; omega
  go_enter Try.func31, Try.ntmps31
  go_wp2
  go_loop [6, 15] (fun s6 s15 => ∃ k : Nat, k ≤ n ∧ s15 = .int .i64 (k : Int) ∧ s6 = .int .u64 (val (ds.take k))) (fun _ s15 => n - (intOf s15).toNat)
  case atStart => exact ⟨0, by omega, rfl, rfl⟩
  case round =>
    obtain ⟨k, hk, rfl, rfl⟩ := hrel
    by_cases hlt : k < n
    · obtain ⟨b, off, c, rfl, hc, cc, _⟩ := HB.out.at (k := k) (by rw [← HN.out]; exact hlt)
      have hdc := HD.out c (List.mem_of_getElem? hc)
      unfold Digit at hdc
      have hvb := val_le (ds.take k) (fun c hm => HD.out c (List.mem_of_mem_take hm)) 8 (by rw [List.length_take]; omega)
      have hv1 : val (ds.take k) ≤ 99999999 := by omega
      have hv0 : 0 ≤ val (ds.take k) := hvb.1
      have HS := hide (show val (ds.take (k + 1)) = val (ds.take k) * 10 + (c - 48) by rw [take_snoc hc, val_snoc])
      clear hc hvb
      generalize val (ds.take k) = v at HS hv0 hv1 ⊢
      go_wp2
      go_round
      case rel => exact ⟨k + 1, by omega, by go_num, by rw [HS.out]⟩
      case measure => simp [intOf]; omega
    · obtain rfl : k = n := by omega
      go_wp2
      go_ret2
      have e : val (ds.take k) = val ds := by rw [List.take_of_length_le (by rw [← HN.out]; exact Nat.le_refl _)]
      refine ⟨?_, rfl⟩
      show Ending.returned (.tuple #[.int .u64 (val (ds.take k)), .bool true]) = _
      rw [e]

theorem zpd_any (a : Option Addr) (cap : Nat) (ds : List Int) (w : World) (h1 : 1 ≤ ds.length) (h9 : ds.length ≤ 9) (hd : ∀ c ∈ ds, Digit c) (h : BR w a ds) :
    Calls Try.prog 12 #[.slice a ds.length cap, .int .u64 999999999] w fun e w' => e = .returned (.tuple #[.int .u64 (val ds), .bool true]) ∧ w' = w := by
  have H := hide (pd_any a cap ds w h1 h9 hd h)
  clear h1 h9 hd h
  go_enter Try.func12, Try.ntmps12
  go_wp2_with fail
  refine H.out.mono ?_
  rintro e w1 ⟨rfl, hw1⟩
  subst hw1
  go_wp2
  go_ret2
  exact ⟨rfl, rfl⟩
end Go.Proofs.Qxb6601678a
