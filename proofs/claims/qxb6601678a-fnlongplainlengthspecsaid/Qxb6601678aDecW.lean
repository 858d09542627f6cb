import Derived.Test.Qxb6601678aWalks1
namespace Go.Proofs.Qxb6601678a
open Go.RowKit
set_option linter.unusedVariables false

/-- The buffer of decimalOf: the digits ys stand at its end. -/
def Buf (w : World) (B : Nat) (ys : List Int) : Prop := w.heap[B]? = some (.cells (byts (List.replicate (20 - ys.length) 0 ++ ys)) 53 (0, 0))

theorem Buf.put {w : World} {B : Nat} {ys : List Int} (h : Buf w B ys) (hl : ys.length < 20) (c : Int) : Buf (w.setCell ⟨B, 19 - ys.length, none⟩ (.int .u8 c)) B (c :: ys) := by
  unfold Buf at *
  rw [heap_setCell_same h, byts_set]
  congr 2
  rw [show 20 - ys.length = (19 - ys.length) + 1 by omega, List.replicate_succ', List.append_assoc, List.set_append_right _ _ (by simp)]
  simp

theorem Buf.cell {w : World} {B : Nat} {ys : List Int} (h : Buf w B ys) {j : Nat} (hl : ys.length ≤ 20) (hj : j < 20) : (∃ v, w.cell? ⟨B, j, none⟩ = some v) ∧ w.frozen? ⟨B, j, none⟩ = false := by
  unfold Buf at h
  refine ⟨?_, cells_frozen h⟩
  rw [cells_cell h, byts_get, List.getElem?_eq_getElem (by simp; omega)]
  exact ⟨_, rfl⟩

set_option maxHeartbeats 1000000 in
theorem dec_any (x : Nat) (w : World) (hx : x ≤ 999999999) :
    Calls Try.prog 16 #[.int .u64 (x : Int)] w fun e w' => (∃ cv, e = .returned (.slice cv (dec x).length (dec x).length) ∧ BR w' cv (dec x)) ∧ Below w.heap.size w w' := by
  obtain ⟨i0, hi, hz0, hz1, hz2⟩ := info_parts Try.info5
  have hd9 := dec_len 9 x (by omega)
  have HD9 := hide hd9
  clear hd9
  go_enter Try.func16, Try.ntmps16
  go_wp2
  go_loopw [0, 4] (fun s0 s4 wr => ∃ (p y : Nat) (ys : List Int), s0 = .int .u64 (y : Int) ∧ s4 = .int .i64 (p : Int) ∧ p + ys.length = 20 ∧ y ≤ 999999999 ∧ Hid (dec x = dec y ++ ys ∧ Buf wr w.heap.size ys) ∧ Below w.heap.size w wr ∧ w.heap.size < wr.heap.size) (fun s0 _ _ => (intOf s0).toNat)
  case atStart => exact ⟨20, x, [], rfl, rfl, rfl, hx, ⟨by simp, heap_alloc_new w _⟩, (Below.refl _ _).alloc (Nat.le_refl _) _, by simp⟩
  case round =>
    obtain ⟨p, y, ys, rfl, rfl, hpl, hy, HI, hb, hsz⟩ := hrel
    by_cases hy0 : 0 < y
    · have hlen : ys.length < 9 := by
        have h1 := HD9.out
        rw [HI.out.1, List.length_append] at h1
        have := dec_pos hy0
        omega
      obtain ⟨q, rfl⟩ : ∃ q, p = q + 1 := ⟨p - 1, by omega⟩
      obtain ⟨⟨v0, c0⟩, f0⟩ := HI.out.2.cell (j := q) (by omega) (by omega)
      have hq : q = 19 - ys.length := by omega
      have hst := HI.out.2.put (by omega) ((48 + y % 10 : Nat) : Int)
      rw [← hq] at hst
      have hb8 : IntKind.u8.wrap (48 + (y : Int) % 10) = 48 + (y : Int) % 10 := by rw [IntKind.wrap_u8]; omega
      have ecast : ((48 + y % 10 : Nat) : Int) = 48 + (y : Int) % 10 := by omega
      have hdec : dec x = dec (y / 10) ++ (((48 + y % 10 : Nat) : Int) :: ys) := by rw [HI.out.1, dec_step hy0, List.append_assoc]; rfl
      have hy0' : (0 : Int) < (y : Int) := by omega
      have hq20 : (q : Int) < 20 := by omega
      have HN := hide (And.intro hdec hst)
      rw [ecast] at HN
      clear hq hdec hst ecast
      go_wp2
      go_roundw
      case rel => exact ⟨q, y / 10, _, by go_num, rfl, by simp; omega, by omega, HN.out, hb.setCell (Nat.le_refl _) _, by simpa [World.setCell] using hsz⟩
      case measure => simp [intOf]; omega
    · obtain rfl : y = 0 := by omega
      obtain ⟨n, hn⟩ : ∃ n, n = ys.length := ⟨_, rfl⟩
      have hys : dec x = ys := by rw [HI.out.1, dec_zero]; rfl
      have hn9 : n ≤ 9 := by have := HD9.out; rw [hys] at this; omega
      have hp : (p : Int) = 20 - (n : Int) := by omega
      have HX := hide (And.intro hys (And.intro hn HI.out.2))
      rw [hp]
      clear hp hn hpl hys HI
      obtain ⟨W1, hW1⟩ : ∃ W1, W1 = wr := ⟨_, rfl⟩
      subst hW1
      have h20 : (20 : Int) - (20 - (n : Int)) = (n : Int) := by omega
      go_wp2_with (at_make; refine wpList_make_full _ rfl _ _ 22 rfl W1.heap.size 5 i0 _ 1 Try.underlying22 hi hz0 hz1 _ _ _ _ n rfl rfl rfl rfl (by rw [hz2]; omega) (by unfold maxLen; omega) (Nat.le_refl _) ?_; intro w1 hown1 hgrow1)
      have hF := fill_of_own (xs := ys) hown1
      have hB : Below W1.heap.size W1 w1 := (Below.refl _ _).grown hgrow1 (Nat.le_refl _) (fun k hk => by cases hk)
      clear hown1 hgrow1 hi hz0 hz1 hz2
      go_loopw [6] (fun i wr => ∃ k : Nat, k ≤ n ∧ i = .int .i64 k ∧ Below W1.heap.size W1 wr ∧ W1.heap.size < wr.heap.size ∧ FillR wr W1.heap.size k n ys) (fun i _ => n - (intOf i).toNat)
      case atStart => exact ⟨0, Nat.zero_le _, rfl, hB, hF.2, hF.1⟩
      case round =>
        obtain ⟨k, hk, rfl, hb2, hsz2, hfl⟩ := hrel
        clear hF hB
        by_cases hlt : k < n
        · obtain ⟨hdx, hnl, hbuf⟩ := HX.out
          have hkx : k < ys.length := by rw [← hnl]; exact hlt
          obtain ⟨v, hv⟩ : ∃ v, ys[k]? = some v := ⟨ys[k], by simp [hkx]⟩
          have c0 : wr.cell? ⟨w.heap.size, (20 - n) + k, none⟩ = some (.int .u8 v) := by
            rw [hb2.cell (p := ⟨w.heap.size, _, none⟩) hsz, cells_cell hbuf, byts_get, List.getElem?_append_right (by simp; omega), List.length_replicate, ← hnl, Nat.add_sub_cancel_left, hv]; rfl
          have hfl' := hfl
          unfold FillR at hfl'
          have c1 : wr.cell? ⟨W1.heap.size, k, none⟩ = some (.int .u8 0) := by
            rw [cells_cell hfl', byts_get, List.getElem?_append_right (by rw [List.length_take]; omega), List.getElem?_replicate, if_pos (by rw [List.length_take]; omega)]; rfl
          have f1 : wr.frozen? ⟨W1.heap.size, k, none⟩ = false := cells_frozen hfl'
          have hst : FillR (wr.setCell ⟨W1.heap.size, k, none⟩ (.int .u8 v)) W1.heap.size (k + 1) n ys := by
            unfold FillR
            rw [heap_setCell_same hfl', byts_set, take_set_byts ys k n v hv hlt]
          have HST := hide hst
          have e1 : (20 - (n : Int)) + (k : Int) = ((20 - n + k : Nat) : Int) := by omega
          have l1 : 20 - n + k < 20 := by omega
          clear hv hfl hfl' hst hdx hnl hbuf hkx
          go_wp2
          go_roundw
          case rel => exact ⟨k + 1, by omega, by go_num, hb2.setCell (Nat.le_refl _) _, by simpa [World.setCell] using hsz2, HST.out⟩
          case measure => simp [intOf]; omega
        · obtain rfl : k = n := by omega
          go_wp2
          go_ret
          obtain ⟨hdx, hnl, hbuf⟩ := HX.out
          have hr : BR wr (some ⟨W1.heap.size, 0, none⟩) (dec x) := by
            unfold FillR at hfl
            rw [Nat.sub_self, hnl, List.take_of_length_le (Nat.le_refl _), List.replicate_zero, List.append_nil] at hfl
            refine ⟨fun _ => ⟨_, 0, rfl, hsz2, fun i v hv => ?_⟩, dec_bytes x⟩
            rw [hdx] at hv
            rw [cells_cell hfl, byts_get, Nat.zero_add, hv]; rfl
          rw [hdx, ← hnl]
          rw [hdx] at hr
          exact ⟨⟨_, rfl, hr⟩, hb.trans (hb2.mono (Nat.le_of_lt hsz))⟩
end Go.Proofs.Qxb6601678a
