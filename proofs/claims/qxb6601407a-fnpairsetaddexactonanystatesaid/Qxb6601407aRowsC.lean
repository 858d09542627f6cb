import Derived.Test.Qxb6601407aRowsR
namespace Go.Proofs.Qxb6601407a
open Go.RowKit
set_option linter.unusedVariables false
theorem Try.info55' : (Try.prog.info? 55).map (fun i => (i.zero, i.size, i.bytes)) = some (some (.slice none 0 0), 1, 24) := by kernel_rfl

theorem rows_nil (w : World) (cap : Nat) : Calls Try.prog 29 #[.slice none 0 cap] w fun e w' => e = .returned (.slice none 0 0) ∧ w' = w := by
  have q25 : ∀ (w : World) (a : Option Addr) (n c n' c' : Nat), (binOp .eql 25 (.slice a n c) (.slice none n' c')).run Try.prog w = .ok (.bool a.isNone) w := fun w a n c n' c' => Lib.run_eql_slice_nil w _ _ a n c n' c' Try.underlying25
  go_enter Try.func29, Try.ntmps29
  go_wp2
  go_ret
  exact ⟨rfl, rfl⟩

theorem made_nils (n : Nat) : (madeCells (Value.slice none 0 0).cells n).toList = List.replicate n (.slice none 0 0) := by
  apply List.ext_getElem?
  intro j
  have hs : (Value.cells (.slice none 0 0)).size = 1 := rfl
  rw [List.getElem?_replicate]
  simp only [madeCells, hs, Array.getElem?_toList, Array.getElem?_map, Array.getElem?_range]
  split
  · simp [Nat.mod_one, Value.cells]
  · simp

theorem bits_made {w : World} {base g n : Nat} (h : w.ownsRow base 55 1 (.slice (some ⟨g, 0, none⟩) n n) n (madeCells (Value.slice none 0 0).cells (n * 1)).toList) :
    Bits w base 0 (.slice (some ⟨g, 0, none⟩) n n) (List.replicate n (.slice none 0 0)) (List.replicate n []) := by
  rw [Nat.mul_one, made_nils] at h
  refine ⟨by simpa using h, fun i v xs hv hx => ?_, fun i j v u g' hv hu hvg hug => ?_⟩
  · rw [List.getElem?_replicate] at hv hx
    split at hv
    · rename_i hi
      rw [if_pos hi] at hx
      simp at hv hx
      exact .inl ⟨hv.symm, hx⟩
    · cases hv
  · rw [List.getElem?_replicate] at hv
    split at hv
    · simp at hv; subst hv; simp [Value.ownBlock] at hvg
    · cases hv

/-- Rows that are being copied: the first k stand. -/
def RowsK (w : World) (B k n : Nat) (rows : List (List Int)) : Prop := ∃ vs, Bits w B 0 (.slice (some ⟨B, 0, none⟩) n n) vs (rows.take k ++ List.replicate (n - k) [])

theorem take_set_rows (rows : List (List Int)) (k n : Nat) (xs : List Int) (hx : rows[k]? = some xs) (hk : k < n) : (rows.take k ++ List.replicate (n - k) []).set k xs = rows.take (k + 1) ++ List.replicate (n - (k + 1)) [] := by
  obtain ⟨hl, he⟩ := List.getElem?_eq_some_iff.1 hx
  have hlen : (rows.take k).length = k := by rw [List.length_take]; omega
  rw [List.set_append_right _ _ (by omega), hlen, Nat.sub_self, List.take_succ_eq_append_getElem hl, he, List.append_assoc]
  congr 1
  rw [show n - k = (n - (k + 1)) + 1 by omega, List.replicate_succ]
  rfl

/-- One row more. -/
theorem RowsK.step {wr w1 : World} {B k n : Nat} {rows : List (List Int)} {xs : List Int} {v' : Value} (h : RowsK wr B k n rows) (hx : rows[k]? = some xs) (hk : k < n) (hn : rows.length = n) (hb : Below wr.heap.size wr w1) (hrow : RowIs w1 wr.heap.size v' xs) (hB : B < wr.heap.size) :
    (∃ u, w1.cell? ⟨B, k, none⟩ = some u) ∧ w1.frozen? ⟨B, k, none⟩ = false ∧ RowsK (w1.setCell ⟨B, k, none⟩ v') B (k + 1) n rows := by
  obtain ⟨vs, hbits⟩ := h
  have hlen : (rows.take k ++ List.replicate (n - k) ([] : List Int)).length = n := by rw [List.length_append, List.length_take, List.length_replicate]; omega
  have hbits1 : Bits w1 B 0 (.slice (some ⟨B, 0, none⟩) n n) vs (rows.take k ++ List.replicate (n - k) []) := hbits.kept (fun j hj _ _ => hb.block j hj)
  have hown := hbits1.own
  rw [hlen] at hown
  obtain ⟨_, cur, hcur⟩ := own_block hown (g := B) rfl
  have hsz : cur.size = n := by
    rcases hown.2 with ⟨e, _⟩ | ⟨g', cap', cur', hv', _, hg', _, _, r3, _⟩
    · cases e
    · simp at hv'
      obtain ⟨rfl, rfl⟩ := hv'
      rw [hcur] at hg'
      simp at hg'
      subst hg'
      simpa using r3
  refine ⟨⟨cur[k]'(by omega), by rw [cells_cell hcur]; simp⟩, cells_frozen hcur, vs.set k v', ?_⟩
  have hrowB : RowIs w1 B v' xs := hrow.mono (by omega)
  have hrb : ∀ g, v'.ownBlock = some g → wr.heap.size ≤ g := fun g hg => (hrow.block hg).1
  have hoth : ∀ (i : Nat) (v : Value) (g : Nat), vs[i]? = some v → v.ownBlock = some g → g < wr.heap.size ∧ g ≠ B := fun i v g hv hg => by
    have hi : i < (rows.take k ++ List.replicate (n - k) ([] : List Int)).length := by rw [← hbits.len]; exact (List.getElem?_eq_some_iff.1 hv).1
    have hr := (hbits.row i v _ hv (List.getElem?_eq_getElem hi)).block hg
    refine ⟨(Array.getElem?_eq_some_iff.1 hr.2).1, fun e => ?_⟩
    have h2 : w1.heap[g]? = wr.heap[g]? := hb.block g (Array.getElem?_eq_some_iff.1 hr.2).1
    rw [e, hcur] at h2
    rw [e, ← h2] at hr
    simp at hr
  have := hbits1.setRow (W' := w1.setCell ⟨B, k, none⟩ v') k v' xs (by rw [hlen]; exact own_set hown k v')
    (hrowB.kept (fun g hg => Below.heap_setCell _ _ _ _ (by have := hrb g hg; show g ≠ B; omega)))
    (fun i v g hi hv hg => Below.heap_setCell _ _ _ _ (hoth i v g hv hg).2)
    (fun i v g hi hv hg e => by have := hrb g e; have := (hoth i v g hv hg).1; omega)
  rwa [take_set_rows rows k n xs hx hk] at this

theorem row_form (v : Value) (xs : List Int) (w : World) (hl : xs.length ≤ 1048576) (h : RowR w v xs) :
    Calls Try.prog 38 #[v] w fun e w' => ∃ ao, e = .returned (.slice ao xs.length xs.length) ∧ RowIs w' w.heap.size (.slice ao xs.length xs.length) xs ∧ Below w.heap.size w w' := by
  refine (row_any v xs w hl h).mono ?_
  rintro e w' ⟨v', rfl, h1, h2⟩
  obtain ⟨ao, rfl⟩ := h1.form
  exact ⟨ao, rfl, h1, h2⟩

set_option maxHeartbeats 400000 in
theorem rows_some (a : Addr) (cap : Nat) (vs : List Value) (rows : List (List Int)) (w : World) (hl : rows.length ≤ 65536) (hls : ∀ xs ∈ rows, xs.length ≤ 1048576) (hR : RowsR w (.slice (some a) rows.length cap) vs rows) :
    Calls Try.prog 29 #[.slice (some a) rows.length cap] w fun e w' => e = .returned (.slice (some ⟨w.heap.size, 0, none⟩) rows.length rows.length) ∧ Below w.heap.size w w' ∧ w.heap.size < w'.heap.size ∧ RowsK w' w.heap.size rows.length rows.length rows := by
  have q25 : ∀ (w : World) (a : Option Addr) (n c n' c' : Nat), (binOp .eql 25 (.slice a n c) (.slice none n' c')).run Try.prog w = .ok (.bool a.isNone) w := fun w a n c n' c' => Lib.run_eql_slice_nil w _ _ a n c n' c' Try.underlying25
  obtain ⟨i0, hi, hz0, hz1, hz2⟩ := info_parts Try.info55'
  have HR := hide hR
  have HLS := hide hls
  clear hR hls
  obtain ⟨n, hn⟩ : ∃ n, n = rows.length := ⟨_, rfl⟩
  rw [← hn] at hl HR ⊢
  have HN := hide hn
  clear hn
  go_enter Try.func29, Try.ntmps29
  go_wp2_with (at_make; refine wpList_make_full _ rfl _ _ 25 rfl w.heap.size 55 i0 _ 1 Try.underlying25 hi hz0 hz1 _ _ _ _ n rfl rfl rfl rfl (by rw [hz2]; omega) (by unfold maxLen; omega) (Nat.le_refl _) ?_; intro w1 hown1 hgrow1)
  have hF : RowsK w1 w.heap.size 0 n rows ∧ w.heap.size < w1.heap.size := ⟨⟨_, by simpa using bits_made hown1⟩, (Array.getElem?_eq_some_iff.1 (own_block hown1 (g := w.heap.size) rfl).2.choose_spec).1⟩
  have hB : Below w.heap.size w w1 := (Below.refl _ _).grown hgrow1 (Nat.le_refl _) (fun k hk => by cases hk)
  have HF := hide hF
  clear hown1 hgrow1 hi hz0 hz1 hz2 hF
  go_loopw [4] (fun i wr => ∃ k : Nat, k ≤ n ∧ i = .int .i64 k ∧ Below w.heap.size w wr ∧ w.heap.size < wr.heap.size ∧ RowsK wr w.heap.size k n rows) (fun i _ => n - (intOf i).toNat)
  case atStart => exact ⟨0, Nat.zero_le _, rfl, hB, HF.out.2, HF.out.1⟩
  case round =>
    obtain ⟨k, hk, rfl, hb, hsz, hfl⟩ := hrel
    have HFL := hide hfl
    clear HF hB hfl
    by_cases hlt : k < n
    · obtain ⟨a', cap', e1, e2, e3, e4, e5⟩ := HR.out.below hb
      obtain ⟨b, off, e6, hbw, hp⟩ := e4 (by have := HN.out; omega)
      simp at e1
      obtain ⟨rfl, e1'⟩ := e1
      clear e1'
      simp at e6
      subst e6
      have hkr : k < rows.length := by rw [← HN.out]; exact hlt
      obtain ⟨xs, hx⟩ : ∃ xs, rows[k]? = some xs := ⟨rows[k], by simp [hkr]⟩
      obtain ⟨u, hu⟩ : ∃ u, vs[k]? = some u := ⟨vs[k]'(by omega), by simp⟩
      have hRu := e5 k u xs hu hx
      obtain ⟨ua, ucap, hform, _⟩ := id hRu
      have c0 := hp k u hu
      subst hform
      have HX := hide hx
      have HRU := hide hRu
      have hxl : xs.length ≤ 1048576 := HLS.out xs (List.mem_of_getElem? hx)
      clear hx hp e4 e5 e3 e2 hu hRu
      go_wp2_with fail
      refine (row_form _ xs _ hxl HRU.out).mono ?_
      rintro e w1 ⟨ao, rfl, hrow, hb1⟩
      obtain ⟨⟨u, c1⟩, f1, hst⟩ := HFL.out.step HX.out hlt HN.out.symm hb1 hrow hsz
      have HST := hide hst
      have hb2 : Below w.heap.size w w1 := hb.trans (hb1.mono (Nat.le_of_lt hsz))
      have hs2 : w.heap.size < w1.heap.size := Nat.lt_of_lt_of_le hsz hb1.size
      clear hst hrow
      go_wp2
      go_roundw
      case rel => exact ⟨k + 1, by omega, by go_num, hb2.setCell (Nat.le_refl _) _, by simpa [World.setCell] using hs2, HST.out⟩
      case measure => simp [intOf]; omega
    · obtain rfl : k = n := by omega
      go_wp2
      go_ret
      exact ⟨rfl, hb, hsz, HFL.out⟩

theorem rows_any (v : Value) (vs : List Value) (rows : List (List Int)) (w : World) (hl : rows.length ≤ 65536) (hls : ∀ xs ∈ rows, xs.length ≤ 1048576) (h : RowsR w v vs rows) :
    Calls Try.prog 29 #[v] w fun e w' => ∃ ao vs', e = .returned (.slice ao rows.length rows.length) ∧ Bits w' w.heap.size 0 (.slice ao rows.length rows.length) vs' rows ∧ Below w.heap.size w w' := by
  obtain ⟨a, cap, rfl, h2, h3⟩ := id h
  cases a with
  | none =>
    obtain ⟨rfl, rfl⟩ := h2 rfl
    refine (rows_nil w 0).mono ?_
    rintro e w' ⟨rfl, rfl⟩
    exact ⟨none, [], rfl, ⟨World.ownsRow_nil _ _ _ _, by simp, by simp⟩, Below.refl _ _⟩
  | some a =>
    refine (rows_some a cap vs rows w hl hls h).mono ?_
    rintro e w' ⟨rfl, hb, hs, vs', hk⟩
    rw [List.take_of_length_le (Nat.le_refl _), Nat.sub_self] at hk
    exact ⟨_, vs', rfl, by simpa using hk, hb⟩

theorem new_any (v : Value) (ao : Option Addr) (n c : Nat) (hv : v = .slice ao n c) (mo : Option Nat) (w : World) :
    Calls Try.prog 30 #[.slice ao n c, .map mo] w fun e w' => e = .returned (.pointer (some ⟨w.heap.size, 0, none⟩)) ∧ w' = w.alloc (.cells #[.slice ao n c, .map mo] 28) := by
  go_enter Try.func30, Try.ntmps30
  go_wp2
  go_ret
  exact ⟨rfl, rfl⟩

theorem bits_any (sb : Nat) (ao : Option Addr) (n c : Nat) (w : World) (h : w.cell? ⟨sb, 0, none⟩ = some (.slice ao n c)) :
    Calls Try.prog 33 #[.pointer (some ⟨sb, 0, none⟩)] w fun e w' => e = .returned (.slice ao n c) ∧ w' = w := by
  go_enter Try.func33, Try.ntmps33
  go_wp2
  go_ret
  exact ⟨rfl, rfl⟩

/-- A map of pairs, or none. -/
def MapO (w : World) (mo : Option Nat) (n sz : Nat) (S : Int → Int → Bool) : Prop := (mo = none ∧ sz = 0 ∧ ∀ a b, S a b = false) ∨ ∃ mb, mo = some mb ∧ SetMap w mb n sz S

theorem MapO.look {w : World} {mo : Option Nat} {n sz : Nat} {S : Int → Int → Bool} (h : MapO w mo n sz S) {a b : Int} (ha : okI a) (hb : okI b) :
    (Instr.lookup 26 (.map mo) (.agg #[.int .i64 a, .int .i64 b]) true).run Try.prog w = .ok (.tuple #[.agg #[], .bool (S a b)]) w := by
  rcases h with ⟨rfl, _, h⟩ | ⟨mb, rfl, h⟩
  · obtain ⟨l, hl⟩ := key_ok ha hb
    have := Maps.look_nil (w := w) true Try.law30 Try.underlying26 (Try.zero57 w) hl
    rw [h a b]; exact this
  · exact h.look ha hb

theorem MapO.len {w : World} {mo : Option Nat} {n sz : Nat} {S : Int → Int → Bool} (h : MapO w mo n sz S) (ty : TypeId) : (Builtin.len_ #[26] ty #[.map mo]).run Try.prog w = .ok (.int .i64 sz) w := by
  rcases h with ⟨rfl, rfl, h⟩ | ⟨mb, rfl, h⟩
  · exact Maps.len_nil Try.underlying26 ty
  · exact h.len ty

theorem MapO.kept {w w' : World} {mo : Option Nat} {n sz : Nat} {S : Int → Int → Bool} (h : MapO w mo n sz S) (hk : ∀ mb, mo = some mb → w'.heap[mb]? = w.heap[mb]?) : MapO w' mo n sz S := by
  rcases h with h | ⟨mb, rfl, h⟩
  · exact .inl h
  · exact .inr ⟨mb, rfl, h.kept (hk mb rfl)⟩

theorem len_any (sb : Nat) (mo : Option Nat) (n sz : Nat) (S : Int → Int → Bool) (w : World) (h : w.cell? ⟨sb, 1, none⟩ = some (.map mo)) (hm : MapO w mo n sz S) :
    Calls Try.prog 31 #[.pointer (some ⟨sb, 0, none⟩)] w fun e w' => e = .returned (.int .i64 sz) ∧ w' = w := by
  have hl := hm.len
  clear hm
  go_enter Try.func31, Try.ntmps31
  go_wp2
  go_ret
  exact ⟨rfl, rfl⟩

theorem has_any (sb : Nat) (mo : Option Nat) (n sz : Nat) (S : Int → Int → Bool) (a b : Int) (w : World) (ha : okI a) (hb : okI b) (h : w.cell? ⟨sb, 1, none⟩ = some (.map mo)) (hm : MapO w mo n sz S) :
    Calls Try.prog 32 #[.pointer (some ⟨sb, 0, none⟩), .int .i64 a, .int .i64 b] w fun e w' => e = .returned (.bool (S a b)) ∧ w' = w.alloc (.cells #[] 57) := by
  have hl := hm.look ha hb
  clear hm ha hb
  go_enter Try.func32, Try.ntmps32
  go_wp2
  go_ret
  exact ⟨rfl, rfl⟩
end Go.Proofs.Qxb6601407a
