import Derived.Test.Qxb6601407aT49
namespace Go.Proofs.Qxb6601407a
open Go.RowKit
set_option linter.unusedVariables false

theorem addRows_held {rows rows' : List (List Int)} {b wd : Nat} {bt : Int} {held : Bool} (h : AddRows rows b wd bt held rows') : held = (bits .and .u64 (wordOf rows b wd) bt != 0) := by
  obtain ⟨k, x, hx, rfl, rfl⟩ := h
  rw [pad_getD] at hx
  have hxw : x = wordOf rows b wd := by
    unfold wordOf
    rw [← zeros_getD _ k, List.getD, hx]; rfl
  rw [hxw]

theorem lowRows_of {rows rows' : List (List Int)} {b wd : Nat} {bt : Int} {held : Bool} (h : AddRows rows b wd bt held rows') : LowRows rows b wd bt rows' := by
  obtain ⟨k, x, hx, rfl, rfl⟩ := h
  rw [pad_getD] at *
  have hlen : ((rows ++ List.replicate (b + 1 - rows.length) []).set b ((rows.getD b [] ++ List.replicate k 0).set wd (bits .or .u64 x bt))).length = max rows.length (b + 1) := by simp; omega
  have hbl : b < (rows ++ List.replicate (b + 1 - rows.length) ([] : List Int)).length := by simp; omega
  have hwl := (List.getElem?_eq_some_iff.1 hx).1
  refine ⟨hlen, fun j hj hne => ?_, _, by rw [List.getElem?_set, if_pos rfl, if_pos hbl], by simp, by simpa using hwl, fun q y hy => ?_⟩
  · rw [List.getElem?_set_ne (Ne.symm hne)]
    rw [hlen] at hj
    have hjl : j < (rows ++ List.replicate (b + 1 - rows.length) ([] : List Int)).length := by simp; omega
    have e := pad_getD rows (b + 1 - rows.length) j
    rw [← e, List.getD, List.getElem?_eq_getElem hjl]; rfl
  · have hz : ∀ q, (rows.getD b [] ++ List.replicate k 0)[q]? = some y → y = (rows.getD b []).getD q 0 := fun q h => by
      rw [← zeros_getD _ k, List.getD, h]; rfl
    by_cases hq : q = wd
    · subst hq
      rw [if_pos rfl]
      rw [List.getElem?_set, if_pos rfl, if_pos hwl] at hy
      have hxw : x = (rows.getD b []).getD q 0 := by rw [← zeros_getD _ k, List.getD, hx]; rfl
      rw [← hxw]
      simpa using hy.symm
    · rw [if_neg hq]
      rw [List.getElem?_set_ne (Ne.symm hq)] at hy
      exact hz q hy

theorem cell_block {w : World} {b o : Nat} {v : Value} (h : w.cell? ⟨b, o, none⟩ = some v) : b < w.heap.size ∧ ∀ es cl, w.heap[b]? ≠ some (.map es cl) := by
  refine ⟨World.block_lt_of_cell? w _ h, fun es cl e => ?_⟩
  simp [World.cell?, e] at h

/-- No block but maps has turned. -/
def CellsKept (w w' : World) : Prop := w.heap.size ≤ w'.heap.size ∧ ∀ k, k < w.heap.size → (∀ es cl, w.heap[k]? ≠ some (.map es cl)) → w'.heap[k]? = w.heap[k]?

theorem CellsKept.cell {w w' : World} (h : CellsKept w w') {b o : Nat} {v : Value} (hc : w.cell? ⟨b, o, none⟩ = some v) : w'.cell? ⟨b, o, none⟩ = some v := by
  have := cell_block hc
  rw [World.cell?_of_block (w := w) (h.2 b this.1 this.2)]; exact hc

theorem RowR.cellsKept {w w' : World} {v : Value} {xs : List Int} (h : RowR w v xs) (hk : CellsKept w w') : RowR w' v xs := by
  obtain ⟨a, cap, h1, h2, h3, h4⟩ := h
  refine ⟨a, cap, h1, h2, h3, fun hl => ?_⟩
  obtain ⟨b, off, h5, h6, h7⟩ := h4 hl
  exact ⟨b, off, h5, Nat.lt_of_lt_of_le h6 hk.1, fun i x hx => hk.cell (h7 i x hx)⟩

theorem RowsR.cellsKept {w w' : World} {v : Value} {vs : List Value} {rows : List (List Int)} (h : RowsR w v vs rows) (hk : CellsKept w w') : RowsR w' v vs rows := by
  obtain ⟨a, cap, h1, h2, h3, h4, h5⟩ := h
  refine ⟨a, cap, h1, h2, h3, fun hl => ?_, fun i u xs hu hx => (h5 i u xs hu hx).cellsKept hk⟩
  obtain ⟨b, off, h5, h6, h7⟩ := h4 hl
  exact ⟨b, off, h5, Nat.lt_of_lt_of_le h6 hk.1, fun i x hx => hk.cell (h7 i x hx)⟩

theorem PairsR.cellsKept {w w' : World} {cv : Option Addr} {len : Nat} {zs : List (Int × Int)} (h : PairsR w cv len zs) (hk : CellsKept w w') : PairsR w' cv len zs :=
  ⟨h.1, h.2.1, fun hl => by
    obtain ⟨b, off, e, h1, h2⟩ := h.2.2 hl
    exact ⟨b, off, e, ⟨h1.1, fun i hi => ⟨hk.cell (h1.2 i hi).1, hk.cell (h1.2 i hi).2⟩⟩, Nat.lt_of_lt_of_le h2 hk.1⟩⟩

/-- 'add' at a pair held as a bit. -/
theorem zadd_bits (base sb : Nat) (mo : Option Nat) (bv : Value) (vs : List Value) (rows : List (List Int)) (a : Int) (b wd : Nat) (bt : Int) (w : World) (hb64 : b < 64) (hwd : a / 64 = wd) (hbt : IntKind.u64.wrap (2 ^ (a % 64).toNat) = bt) (ha0 : 0 ≤ a) (ha : a < 4194304)
    (hset : w.heap[sb]? = some (.cells #[bv, .map mo] 28 (0, 0))) (hbits : Bits w base sb bv vs rows) (hlen : rows.length ≤ 65536) (hbase : base ≤ w.heap.size) :
    Calls Try.prog 13 #[.pointer (some ⟨sb, 0, none⟩), .int .i64 a, .int .i64 (b : Int)] w fun e w' => AddPost w base sb mo rows b wd bt e w' := by
  have H := hide (add_bits base sb mo bv vs rows a b wd bt w hb64 hwd hbt ha0 ha hset hbits hlen hbase)
  clear hset hbits hlen hbase hwd hbt
  go_enter Try.func13, Try.ntmps13
  go_wp2_with fail
  refine (H.out).mono ?_
  rintro e w' ⟨held, bv', vs', rows', rfl, r⟩
  have R := hide r
  clear r
  go_wp2
  go_ret
  exact ⟨held, bv', vs', rows', rfl, R.out⟩

/-- 'add' at a pair held in the map. -/
theorem zadd_high (sb : Nat) (mo : Option Nat) (n sz : Nat) (bv : Value) (S : Int → Int → Bool) (a b : Int) (w : World) (hb64 : 64 ≤ b) (ha : okI a) (hb : okI b)
    (hset : w.heap[sb]? = some (.cells #[bv, .map mo] 28 (0, 0))) (hm : MapO w mo n sz S) (hn : n < maxLen) :
    Calls Try.prog 13 #[.pointer (some ⟨sb, 0, none⟩), .int .i64 a, .int .i64 b] w fun e w' => e = .returned (.bool (S a b)) ∧ ∃ mo', w'.heap[sb]? = some (.cells #[bv, .map mo'] 28 (0, 0)) ∧ MapO w' mo' (n + 1) (szPut S sz a b) (putS S a b) ∧ KeptBut (fun k => k = sb ∨ some k = mo) w w' := by
  have H : Calls Try.prog 36 #[.pointer (some ⟨sb, 0, none⟩), .int .i64 a, .int .i64 b] w fun e w' => e = .returned (.bool (S a b)) ∧ ∃ mo', w'.heap[sb]? = some (.cells #[bv, .map mo'] 28 (0, 0)) ∧ MapO w' mo' (n + 1) (szPut S sz a b) (putS S a b) ∧ KeptBut (fun k => k = sb ∨ some k = mo) w w' := by
    rcases hm with ⟨rfl, rfl, hS⟩ | ⟨mb, rfl, hm⟩
    · obtain rfl : S = fun _ _ => false := by funext x y; exact hS x y
      refine (add_map_none sb bv a b w hb64 ha hb hset).mono ?_
      rintro e w' ⟨rfl, g1, ⟨D, g2a, g2b⟩, g3⟩
      exact ⟨rfl, _, g1, .inr ⟨_, rfl, D, g2a.mono (by omega), g2b⟩, g3.mono (fun k _ h => .inl h)⟩
    · refine (add_map_some sb mb n sz bv S a b w hb64 ha hb hset hm hn).mono ?_
      rintro e w' ⟨rfl, g1, g2, g3⟩
      exact ⟨rfl, _, g1, .inr ⟨_, rfl, g2⟩, g3.mono (fun k _ h => .inr (by rw [h]))⟩
  have H := hide H
  clear hset hm hn ha hb
  go_enter Try.func13, Try.ntmps13
  go_wp2_with fail
  refine (H.out).mono ?_
  rintro e w' ⟨rfl, r⟩
  have R := hide r
  clear r
  go_wp2
  go_ret
  exact ⟨rfl, R.out⟩
end Go.Proofs.Qxb6601407a
