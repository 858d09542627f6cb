import Derived.Test.Qxb6601490aRows
import Derived.Test.Qxb6601490aPlain
import Derived.WalkKit
import Derived.ProofKit
import Derived.WalkSpells
import Derived.Laws.Concat
namespace Go.Proofs.Qxb6601490a
open Go.ChangeShapes Go.WideShapes Go.ChangeAt Go.RowKit Plain

set_option maxHeartbeats 400000 in
theorem es_any (s : ByteArray) (w : World) (hs : s.size ≤ 4194304) :
    Calls Try.prog 16 #[.string s] w fun e w' => e = .returned (.string (es s)) ∧ w' = w := by
  go_enter Try.func16, Try.ntmps16
  go_wp2
  go_ret
  exact ⟨rfl, rfl⟩

theorem zes_any (s : ByteArray) (w : World) (hs : s.size ≤ 4194304) :
    Calls Try.prog 10 #[.string s] w fun e w' => e = .returned (.string (es s)) ∧ w' = w := by
  go_enter Try.func10, Try.ntmps10
  go_wp2_with (go_at_call 16; refine (es_any _ _ hs).mono ?_; rintro e w' ⟨rfl, rfl⟩)
  go_ret
  exact ⟨rfl, rfl⟩

theorem ret_int {k : IntKind} {a b : Int} (h : a = b) : Ending.returned (.int k a) = .returned (.int k b) := by rw [h]

set_option maxHeartbeats 400000 in
theorem idx_any (s t : ByteArray) (w : World) (hs : s.size ≤ 8388608) (ht : t.size ≤ 4194304) :
    Calls Try.prog 11 #[.string s, .string t] w fun e w' => e = .returned (.int .i64 (idx s t)) ∧ w' = w := by
  go_enter Try.func11, Try.ntmps11
  go_wp2
  go_loop [5] (fun i => ∃ k : Nat, k ≤ s.size ∧ i = .int .i64 k ∧ Hid (idx s t = idxL t.data.toList (s.data.toList.drop k) k)) (fun i => s.size - (intOf i).toNat)
  case atStart => exact ⟨0, Nat.zero_le _, rfl, rfl⟩
  case round =>
    obtain ⟨k, hk, rfl, H⟩ := hrel
    go_wp2
    · have h1 : (k : Int) + (t.size : Int) ≤ (s.size : Int) := by assumption
      have h2 : ((s.extract k (k + t.size)).toList == t.toList) = true := by assumption
      go_ret
      exact ⟨ret_int (by rw [H.out, hit s t k (by omega) h2]), rfl⟩
    · have h1 : (k : Int) + (t.size : Int) ≤ (s.size : Int) := by assumption
      have h2 : ((s.extract k (k + t.size)).toList == t.toList) = false := by assumption
      have h3 := miss s t k (by omega) h2
      go_round
      case rel => exact ⟨k + 1, by omega, by go_num, (by rw [H.out, h3.1] : _ = _)⟩
      case measure => simp [intOf]; omega
    · have h1 : (s.size : Int) < (k : Int) + (t.size : Int) := by assumption
      go_ret
      exact ⟨ret_int (by rw [H.out, out s t k hk (by omega)]), rfl⟩
end Go.Proofs.Qxb6601490a
