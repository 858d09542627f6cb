import Derived.Test.Qxb6601407aRowsC
namespace Go.Proofs.Qxb6601407a
open Go.RowKit
set_option linter.unusedVariables false

set_option maxHeartbeats 400000 in
/-- zzRowEq at two rows of the same words. -/
theorem eq_same (u v : Value) (xs : List Int) (w : World) (hu : RowR w u xs) (hv : RowR w v xs) :
    Calls Try.prog 34 #[u, v] w fun e w' => e = .returned (.bool true) ∧ ∃ n, w' = w.drewN n := by
  obtain ⟨a, cap, rfl, hm, _, h1⟩ := hu
  obtain ⟨a', cap', rfl, _, _, h2⟩ := hv
  unfold maxLen at hm
  obtain ⟨n, hn⟩ : ∃ n, n = xs.length := ⟨_, rfl⟩
  rw [← hn] at hm h1 h2 ⊢
  have HN := hide hn
  have H1 := hide h1
  have H2 := hide h2
  clear h1 h2 hn
  go_enter Try.func34, Try.ntmps34
  go_wp2
  go_loopw [5] (fun i wr => ∃ k : Nat, k ≤ n ∧ i = .int .i64 k ∧ ∃ q, wr = w.drewN q) (fun i _ => n - (intOf i).toNat)
  case atStart => exact ⟨0, Nat.zero_le _, rfl, 0, rfl⟩
  case round =>
    obtain ⟨k, hk, rfl, q, rfl⟩ := hrel
    by_cases hlt : k < n
    · obtain ⟨b, off, rfl, _, hp⟩ := H1.out (by omega)
      obtain ⟨b', off', rfl, _, hp'⟩ := H2.out (by omega)
      have hkx : k < xs.length := by rw [← HN.out]; exact hlt
      obtain ⟨x, hx⟩ : ∃ x, xs[k]? = some x := ⟨xs[k], by simp [hkx]⟩
      have c0 := hp k x hx
      have c1 := hp' k x hx
      have hki : (k : Int) < (n : Int) := by omega
      clear hp hp' hx
      go_wp2
      go_quiet (fail)
      go_wp2
      go_roundw
      case rel => exact ⟨k + 1, by omega, by go_num, _, rfl⟩
      case measure => simp [intOf]; omega
    · go_wp2
      go_ret
      exact ⟨rfl, _, rfl⟩

def AnyBool (e : Ending) : Prop := ∃ r, e = .returned (.bool r)

/-- The first bound on lengths answers something. -/
theorem bytes2 (v : Value) (vs : List Value) (rows : List (List Int)) (o : Option Addr) (l2 c2 : Nat) (a b : Int) (w : World) (h : RowsR w v vs rows) (hz : rows.length ≤ maxLen) (hz2 : l2 ≤ maxLen) :
    Calls Try.prog 28 #[v, .slice o l2 c2, .int .i64 a, .int .i64 b] w fun e w' => AnyBool e ∧ w' = w := by
  obtain ⟨ad, cap, rfl, _, hl, h1, h2⟩ := h
  unfold maxLen at hz hz2
  obtain ⟨n, hn⟩ : ∃ n, n = rows.length := ⟨_, rfl⟩
  rw [← hn] at hz h1 hl ⊢
  have HN := hide hn
  have H1 := hide h1
  have H2 := hide h2
  have HL := hide hl
  clear h1 h2 hn hl
  by_cases hbig : n ≤ 1048576
  · go_enter Try.func28, Try.ntmps28
    go_wp2
    go_loop [9, 10] (fun z i => ∃ (k : Nat) (zz : Int), k ≤ n ∧ i = .int .i64 k ∧ z = .int .i64 zz) (fun _ i => n - (intOf i).toNat)
    case atStart => exact ⟨0, _, Nat.zero_le _, rfl, rfl⟩
    case round =>
      obtain ⟨k, zz, hk, rfl, rfl⟩ := hrel
      by_cases hlt : k < n
      · obtain ⟨b', off', rfl, _, hp⟩ := H1.out (by omega)
        have hkr : k < rows.length := by rw [← HN.out]; exact hlt
        obtain ⟨xs, hx⟩ : ∃ xs, rows[k]? = some xs := ⟨rows[k], by simp [hkr]⟩
        obtain ⟨u, hu⟩ : ∃ u, vs[k]? = some u := ⟨vs[k]'(by have := HL.out; omega), by simp⟩
        have c0 := hp k u hu
        obtain ⟨ua, ucap, hform, hum, _⟩ := H2.out k u xs hu hx
        subst hform
        unfold maxLen at hum
        clear hp hx hu
        go_wp2
        all_goals first
          | (go_ret; exact ⟨⟨_, rfl⟩, rfl⟩)
          | (go_round
             case rel => exact ⟨k + 1, _, by omega, by go_num, rfl⟩
             case measure => simp [intOf]; omega)
      · go_wp2
        all_goals (go_ret; exact ⟨⟨_, rfl⟩, rfl⟩)
  · go_enter Try.func28, Try.ntmps28
    go_wp2
    go_ret
    exact ⟨⟨_, rfl⟩, rfl⟩
end Go.Proofs.Qxb6601407a
