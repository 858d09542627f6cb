import Derived.Test.Qxb6601407aExactD
namespace Go.Proofs.Qxb6601407a
open Go.RowKit
set_option linter.unusedVariables false

set_option maxRecDepth 100000 in
set_option maxHeartbeats 4000000 in
theorem exact_undom (v : Value) (vs : List Value) (rows : List (List Int)) (a2 : Option Addr) (len cap : Nat) (zs : List (Int × Int)) (a b : Int) (w : World)
    (hR : RowsR w v vs rows) (hrl : rows.length ≤ 65536) (hP : PairsR w a2 len zs) (hc2 : a2 = none → cap = 0) (hl : len ≤ 65536) (hwf : ∀ p ∈ zs, okI p.1 ∧ okI p.2) (ha : okI a) (hb : okI b) (hbad : b < 0 ∨ (0 ≤ b ∧ b < 64 ∧ (a < 0 ∨ 4194304 ≤ a))) :
    Calls Try.prog 9 #[v, .slice a2 len cap, .int .i64 a, .int .i64 b] w fun e w' => e = .returned (.bool true) ∧ Below w.heap.size w w' := by
  obtain ⟨ad, cp, hv, hvn, hvl, hv1, hv2⟩ := id hR
  have HB := hide (bytes2 v vs rows a2 len cap a b w hR (by unfold maxLen; omega) (by unfold maxLen; omega))
  have HR := hide hR
  have HP := hide hP
  have HW := hide hwf
  have HAB := hide (And.intro ha hb)
  have HC2 := hide hc2
  clear hR hP hwf ha hb hc2
  subst hv
  obtain ⟨n, hn⟩ : ∃ n, n = rows.length := ⟨_, rfl⟩
  rw [← hn] at hrl HR HB hvl hv1 ⊢
  have HN := hide hn
  have HV1 := hide hv1
  have HV2 := hide hv2
  have HVL := hide hvl
  clear hn hv1 hv2 hvl hvn
  have hq : True := trivial
  have q22n : ∀ (w : World) (a : Option Addr) (n c n' c' : Nat), (binOp .neq 22 (.slice a n c) (.slice none n' c')).run Try.prog w = .ok (.bool (!a.isNone)) w := fun w a n c n' c' => run_neq_slice_nil_any w _ _ a n c n' c' Try.underlying22
  have hmm := @run_makeMap Try.prog
  go_enter Try.func9, Try.ntmps9
  go_wp2_with fail
  refine HB.out.mono ?_
  rintro e w0 ⟨⟨r, rfl⟩, hw0⟩
  subst hw0
  cases r with
  | false =>
    go_wp2
    go_ret
    exact ⟨rfl, Below.refl _ _⟩
  | true =>
    go_wp2
    go_loop [9, 10] (fun z i => ∃ (k : Nat) (zz : Int), k ≤ n ∧ i = .int .i64 k ∧ z = .int .i64 zz ∧ ∀ xs ∈ rows.take k, xs.length ≤ 1048576) (fun _ i => n - (intOf i).toNat)
    case atStart => exact ⟨0, _, Nat.zero_le _, rfl, rfl, by simp⟩
    case round =>
      obtain ⟨k, zz, hk, rfl, rfl, hlens⟩ := hrel
      have HLS := hide hlens
      clear hlens
      by_cases hlt : k < n
      · obtain ⟨b', off', rfl, _, hp⟩ := HV1.out (by omega)
        have hkr : k < rows.length := by rw [← HN.out]; exact hlt
        obtain ⟨xs, hx⟩ : ∃ xs, rows[k]? = some xs := ⟨rows[k], by simp [hkr]⟩
        obtain ⟨u, hu⟩ : ∃ u, vs[k]? = some u := ⟨vs[k]'(by have := HVL.out; omega), by simp⟩
        have c0 := hp k u hu
        obtain ⟨ua, ucap, hform, hum, _⟩ := HV2.out k u xs hu hx
        subst hform
        unfold maxLen at hum
        have HX := hide hx
        clear hp hx hu
        by_cases hxl : xs.length ≤ 1048576
        · go_wp2
          all_goals first
            | (go_ret; exact ⟨rfl, Below.refl _ _⟩)
            | (go_round
               case rel => exact ⟨k + 1, _, by omega, by go_num, rfl, take_lens HLS.out HX.out hxl⟩
               case measure => simp [intOf]; omega)
        · go_wp2
          go_ret
          exact ⟨rfl, Below.refl _ _⟩
      · obtain rfl : k = n := by omega
        rcases hbad with hbad | ⟨hb0, hb64, hbad⟩
        · go_wp2
          all_goals (go_ret; exact ⟨rfl, Below.refl _ _⟩)
        · rcases hbad with hbad | hbad
          · go_wp2
            all_goals (go_ret; exact ⟨rfl, Below.refl _ _⟩)
          · go_wp2
            all_goals (go_ret; exact ⟨rfl, Below.refl _ _⟩)

set_option maxRecDepth 100000 in
set_option maxHeartbeats 4000000 in
theorem exact_big (v : Value) (vs : List Value) (rows : List (List Int)) (a2 : Option Addr) (len cap : Nat) (a b : Int) (w : World)
    (hR : RowsR w v vs rows) (hrl : rows.length ≤ maxLen) (hl : len ≤ maxLen) (hbig : 65536 < rows.length ∨ 65536 < len) :
    Calls Try.prog 9 #[v, .slice a2 len cap, .int .i64 a, .int .i64 b] w fun e w' => e = .returned (.bool true) ∧ Below w.heap.size w w' := by
  obtain ⟨ad, cp, hv, _⟩ := id hR
  have HB := hide (bytes2 v vs rows a2 len cap a b w hR hrl hl)
  clear hR
  unfold maxLen at hrl hl
  subst hv
  rcases hbig with hbig | hbig
  · go_enter Try.func9, Try.ntmps9
    go_wp2_with fail
    refine HB.out.mono ?_
    rintro e w0 ⟨⟨r, rfl⟩, hw0⟩
    subst hw0
    cases r with
    | false =>
      go_wp2
      go_ret
      exact ⟨rfl, Below.refl _ _⟩
    | true =>
      have hd : decide ((65536 : Int) < (rows.length : Int)) = true := decide_eq_true (by omega)
      go_wp2
      go_ret
      exact ⟨rfl, Below.refl _ _⟩
  · by_cases hb2 : 65536 < rows.length
    · go_enter Try.func9, Try.ntmps9
      go_wp2_with fail
      refine HB.out.mono ?_
      rintro e w0 ⟨⟨r, rfl⟩, hw0⟩
      subst hw0
      cases r with
      | false =>
        go_wp2
        go_ret
        exact ⟨rfl, Below.refl _ _⟩
      | true =>
        have hd : decide ((65536 : Int) < (rows.length : Int)) = true := decide_eq_true (by omega)
        go_wp2
        go_ret
        exact ⟨rfl, Below.refl _ _⟩
    · go_enter Try.func9, Try.ntmps9
      go_wp2_with fail
      refine HB.out.mono ?_
      rintro e w0 ⟨⟨r, rfl⟩, hw0⟩
      subst hw0
      cases r with
      | false =>
        go_wp2
        go_ret
        exact ⟨rfl, Below.refl _ _⟩
      | true =>
        have hd : decide ((65536 : Int) < (rows.length : Int)) = false := decide_eq_false (by omega)
        have hd2 : decide ((65536 : Int) < (len : Int)) = true := decide_eq_true (by omega)
        go_wp2
        go_ret
        exact ⟨rfl, Below.refl _ _⟩
end Go.Proofs.Qxb6601407a
