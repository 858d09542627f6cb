import Derived.Test.Qxb6601407aBits
namespace Go.Proofs.Qxb6601407a
open Go.RowKit
set_option linter.unusedVariables false
theorem Try.info55 : (Try.prog.info? 55).map (fun i => (i.zero, i.size, i.bytes)) = some (some (.slice none 0 0), 1, 24) := by kernel_rfl

/-- What 'add' makes of the rows at a pair whose second place is b, whose word is wd, whose bit is bt. -/
def AddRows (rows : List (List Int)) (b wd : Nat) (bt : Int) (held : Bool) (rows' : List (List Int)) : Prop :=
  ∃ k x, ((rows ++ List.replicate (b + 1 - rows.length) []).getD b [] ++ List.replicate k 0)[wd]? = some x ∧ held = (bits .and .u64 x bt != 0) ∧
    rows' = (rows ++ List.replicate (b + 1 - rows.length) []).set b (((rows ++ List.replicate (b + 1 - rows.length) []).getD b [] ++ List.replicate k 0).set wd (bits .or .u64 x bt))

def AddPost (w : World) (base sb : Nat) (mo : Option Nat) (rows : List (List Int)) (b wd : Nat) (bt : Int) (e : Ending) (w' : World) : Prop :=
  ∃ held bv' vs' rows', e = .returned (.bool held) ∧ AddRows rows b wd bt held rows' ∧ w'.heap[sb]? = some (.cells #[bv', .map mo] 28 (0, 0)) ∧ Bits w' base sb bv' vs' rows' ∧ KeptBut (ownB w base sb) w w' ∧ base ≤ w'.heap.size

/-- The same memory. -/
def Same (W w : World) : Prop := W.heap = w.heap ∧ W.os = w.os ∧ W.tape = w.tape ∧ W.output = w.output
theorem same_drewN (w : World) : ∀ n, Same (w.drewN n) w
  | 0 => ⟨rfl, rfl, rfl, rfl⟩
  | n + 1 => same_drewN w n
theorem Bits.same {W w : World} {base sb : Nat} {bv : Value} {vs : List Value} {R : List (List Int)} (h : Bits w base sb bv vs R) (hs : Same W w) : Bits W base sb bv vs R :=
  ⟨own_kept h.own (fun g _ => by rw [hs.1]), fun i v xs hv hx => (h.row i v xs hv hx).kept (fun g _ => by rw [hs.1]), h.apart⟩
theorem KeptBut.same {own : Nat → Prop} {W w a : World} (h : KeptBut own a w) (hs : Same W w) : KeptBut own a W :=
  ⟨hs.2.1.trans h.os, hs.2.2.1.trans h.tape, hs.2.2.2.trans h.output, by rw [hs.1]; exact h.size, fun k hk hn => by rw [hs.1]; exact h.block k hk hn⟩

theorem grow_at (base : Option Addr) (l n : Nat) (N : Int) (hN : N = (n : Int)) (xs : List Int) (w : World) (hn : 0 < n) (hbig : l + n ≤ 1099511627776) (hl : xs.length = l) (hnil : base = none → l = 0)
    (hcs : ∀ a, base = some a → ∀ j v, (words xs).toList[j]? = some v → w.cell? (a.add j) = some v) :
    Calls Try.prog 39 #[.slice base l l, .int .i64 N] w fun e w' => ∃ G, l + n ≤ G ∧ G ≤ 9223372036854775807 ∧
      e = .returned (.slice (some ⟨w.heap.size, 0, none⟩) l G) ∧ w' = w.drew.alloc (.cells (words (xs ++ List.replicate (G - l) 0)) 58) := by
  subst hN; exact grow_any base l n xs w hn hbig hl hnil hcs

theorem wrap_id (x : Int) (h1 : -9223372036854775808 ≤ x) (h2 : x ≤ 9223372036854775807) : IntKind.i64.wrap x = x := by rw [IntKind.wrap_i64]; omega
theorem wrap_need (wd : Nat) (h : wd ≤ 65536) : IntKind.i64.wrap (IntKind.i64.wrap ((wd : Int) + 1)) = ((wd + 1 : Nat) : Int) := by
  rw [wrap_id ((wd : Int) + 1) (by omega) (by omega), wrap_id _ (by omega) (by omega)]; omega
theorem wrap_need' (wd L : Nat) (h : wd ≤ 65536) (hL : L ≤ wd) : IntKind.i64.wrap (IntKind.i64.wrap ((wd : Int) + 1) - (L : Int)) = ((wd + 1 - L : Nat) : Int) := by
  rw [wrap_id ((wd : Int) + 1) (by omega) (by omega), wrap_id _ (by omega) (by omega)]; omega

theorem cell_setCell_far {W : World} {g j g' j' : Nat} {v : Value} (h : g' ≠ g) : (W.setCell ⟨g, j, none⟩ v).cell? ⟨g', j', none⟩ = W.cell? ⟨g', j', none⟩ :=
  World.cell?_of_block (Below.heap_setCell _ _ _ _ h)
theorem frozen_setCell_far {W : World} {g j g' j' : Nat} {v : Value} (h : g' ≠ g) : (W.setCell ⟨g, j, none⟩ v).frozen? ⟨g', j', none⟩ = W.frozen? ⟨g', j', none⟩ :=
  World.frozen?_of_block (Below.heap_setCell _ _ _ _ h)

theorem hide {p : Prop} (h : p) : Hid p := h

theorem fin_store {w wr W : World} {base sb : Nat} {mo : Option Nat} {bv : Value} {vs : List Value} {rows : List (List Int)} {b wd g : Nat} {bt x : Int} {xs : List Int}
    (hset : wr.heap[sb]? = some (.cells #[bv, .map mo] 28 (0, 0))) (hbits : Bits wr base sb bv vs (rows ++ List.replicate (b + 1 - rows.length) [])) (hkept : KeptBut (ownB w base sb) w wr) (hbase : base ≤ wr.heap.size)
    (hv : vs[b]? = some (.slice (some ⟨g, 0, none⟩) xs.length xs.length)) (hx : (rows ++ List.replicate (b + 1 - rows.length) [])[b]? = some xs) (hxx : xs[wd]? = some x) (hs : Same W wr) :
    AddPost w base sb mo rows b wd bt (.returned (.bool (bits .and .u64 x bt != 0))) (W.setCell ⟨g, wd, none⟩ (.int .u64 (bits .or .u64 x bt))) := by
  have hset' : W.heap[sb]? = some (.cells #[bv, .map mo] 28 (0, 0)) := by rw [hs.1]; exact hset
  have st := Bits.store hset' (hbits.same hs) hv hx (j := wd) (y := bits .or .u64 x bt)
  have hgd : (rows ++ List.replicate (b + 1 - rows.length) []).getD b [] = xs := by rw [List.getD, hx]; rfl
  have hk := (hkept.same hs).own_trans st.2.2
  exact ⟨_, bv, vs, _, rfl, ⟨0, x, by rw [hgd]; simpa using hxx, rfl, by rw [hgd]; simp⟩, st.1, st.2.1, hk, by have := st.2.2.size; rw [hs.1] at this; omega⟩

theorem fin_fresh {w wr W : World} {base sb : Nat} {mo : Option Nat} {vs : List Value} {rows : List (List Int)} {b wd hh cap m k : Nat} {bt x : Int} {xs ys : List Int}
    (hset : wr.heap[sb]? = some (.cells #[.slice (some ⟨hh, 0, none⟩) m cap, .map mo] 28 (0, 0))) (hbits : Bits wr base sb (.slice (some ⟨hh, 0, none⟩) m cap) vs (rows ++ List.replicate (b + 1 - rows.length) [])) (hkept : KeptBut (ownB w base sb) w wr) (hbase : base ≤ wr.heap.size)
    (hml : (rows ++ List.replicate (b + 1 - rows.length) []).length = m)
    (hx : (rows ++ List.replicate (b + 1 - rows.length) [])[b]? = some xs) (hys : ys = xs ++ List.replicate k 0) (hyl : ys.length ≤ maxLen) (hyx : ys[wd]? = some x) (hs : Same W wr) :
    AddPost w base sb mo rows b wd bt (.returned (.bool (bits .and .u64 x bt != 0)))
      (((W.alloc (.cells (words ys) 58)).setCell ⟨hh, b, none⟩ (.slice (some ⟨wr.heap.size, 0, none⟩) ys.length ys.length)).setCell ⟨wr.heap.size, wd, none⟩ (.int .u64 (bits .or .u64 x bt))).drew := by
  have hz : W.heap.size = wr.heap.size := by rw [hs.1]
  have hset' : W.heap[sb]? = some (.cells #[.slice (some ⟨hh, 0, none⟩) m cap, .map mo] 28 (0, 0)) := by rw [hs.1]; exact hset
  have hbl : b < (rows ++ List.replicate (b + 1 - rows.length) []).length := (List.getElem?_eq_some_iff.1 hx).1
  have fr := Bits.fresh hset' (hbits.same hs) (b := b) (ys := ys) (hh := hh) (cap := cap) (by rw [hml]) hbl (by omega) hyl
  rw [hz] at fr
  have hvl := hbits.len
  have st := Bits.store fr.1 fr.2.1 (b := b) (g := wr.heap.size) (j := wd) (xs := ys) (y := bits .or .u64 x bt) (by rw [List.getElem?_set]; simp; omega) (by rw [List.getElem?_set]; simp; simp at hbl; exact hbl)
  have hgd : (rows ++ List.replicate (b + 1 - rows.length) []).getD b [] = xs := by rw [List.getD, hx]; rfl
  have hk := ((hkept.same hs).own_trans fr.2.2).own_trans st.2.2
  refine ⟨_, _, vs.set b (.slice (some ⟨wr.heap.size, 0, none⟩) ys.length ys.length), _, rfl, ⟨k, x, by rw [hgd, ← hys]; exact hyx, rfl, rfl⟩, st.1, ?_, hk.drew, ?_⟩
  · have e := st.2.1
    rw [List.set_set] at e
    rw [hgd, ← hys]
    exact e.same ⟨rfl, rfl, rfl, rfl⟩
  · exact Nat.le_trans (Nat.le_trans (by omega : base ≤ W.heap.size) fr.2.2.size) st.2.2.size

/-- What the walk asks of the world behind slices.Grow. -/
theorem behind_grow {wr : World} {n sb hh b wd : Nat} {v : Value} {vb : Value} {ys : List Int} {x : Int} (hsl : sb < wr.heap.size) (hhl : hh < wr.heap.size) (c0 : wr.cell? ⟨sb, 0, none⟩ = some v) (hcb : wr.cell? ⟨hh, b, none⟩ = some vb) (hfb : wr.frozen? ⟨hh, b, none⟩ = false) (hyx : ys[wd]? = some x) :
    ((wr.drewN n).alloc (.cells (words ys) 58)).cell? ⟨sb, 0, none⟩ = some v ∧ ((wr.drewN n).alloc (.cells (words ys) 58)).cell? ⟨hh, b, none⟩ = some vb ∧ ((wr.drewN n).alloc (.cells (words ys) 58)).frozen? ⟨hh, b, none⟩ = false ∧
    ((wr.drewN n).alloc (.cells (words ys) 58)).cell? ⟨wr.heap.size, wd, none⟩ = some (.int .u64 x) ∧ ((wr.drewN n).alloc (.cells (words ys) 58)).frozen? ⟨wr.heap.size, wd, none⟩ = false := by
  have hs := (same_drewN wr n).1
  have hz : (wr.drewN n).heap.size = wr.heap.size := by rw [hs]
  have old : ∀ k, k < wr.heap.size → ((wr.drewN n).alloc (.cells (words ys) 58)).heap[k]? = wr.heap[k]? := fun k hk => by rw [Below.heap_alloc _ _ _ (by omega), hs]
  have new : ((wr.drewN n).alloc (.cells (words ys) 58)).heap[wr.heap.size]? = some (.cells (words ys) 58 (0, 0)) := by rw [← hz]; exact heap_alloc_new _ _
  refine ⟨(World.cell?_of_block (w := wr) (old sb hsl)).trans c0, (World.cell?_of_block (w := wr) (old hh hhl)).trans hcb, (World.frozen?_of_block (w := wr) (old hh hhl)).trans hfb, ?_, cells_frozen new⟩
  rw [cells_cell new, words_get, hyx]; rfl

set_option maxHeartbeats 1000000 in
theorem add_bits (base sb : Nat) (mo : Option Nat) (bv : Value) (vs : List Value) (rows : List (List Int)) (a : Int) (b wd : Nat) (bt : Int) (w : World) (hb64 : b < 64) (hwd : a / 64 = wd) (hbt : IntKind.u64.wrap (2 ^ (a % 64).toNat) = bt) (ha0 : 0 ≤ a) (ha : a < 4194304)
    (hset : w.heap[sb]? = some (.cells #[bv, .map mo] 28 (0, 0))) (hbits : Bits w base sb bv vs rows) (hlen : rows.length ≤ 65536) (hbase : base ≤ w.heap.size) :
    Calls Try.prog 36 #[.pointer (some ⟨sb, 0, none⟩), .int .i64 a, .int .i64 (b : Int)] w (AddPost w base sb mo rows b wd bt) := by
  obtain ⟨i0, hi, hz0, hz1, hz2⟩ := info_parts Try.info55
  have P0 : Padded w base sb mo rows rows.length w := ⟨bv, vs, 0, hset, by simpa using hbits, KeptBut.refl _ _, hbase, rfl⟩
  clear hset hbits hbase
  go_enter Try.func36, Try.ntmps36
  go_wp2
  go_loopg [44] (64 - rows.length) (fun k _ wr => ∃ m, Padded w base sb mo rows m wr ∧ k = 64 - m ∧ (m = rows.length ∨ (m : Int) ≤ b + 1))
  case atStart => exact ⟨_, P0, rfl, .inl rfl⟩
  case round =>
    clear P0
    obtain ⟨m, ⟨bv, vs, j, hset, hbits, hkept, hbase, hm⟩, hgk, hmb⟩ := hrel
    obtain ⟨ao, cap, hbv⟩ := own_form hbits.own
    subst hbv
    have hml : (rows ++ List.replicate j []).length = m := by simp [hm]
    rw [hml] at hset hbits
    have c0 : wr.cell? ⟨sb, 0, none⟩ = some (.slice ao m cap) := by rw [cells_cell hset]; rfl
    have hsl : sb < wr.heap.size := (Array.getElem?_eq_some_iff.1 hset).1
    have HGK : Hid (gk = 64 - m) := hgk
    clear hgk
    by_cases hlt : (m : Int) ≤ b
    · have hown0 := hbits.own
      have c1 : ∀ w1, (wr.alloc (.cells #[.slice none 0 0] 55)).grownBy w1 (Value.slice ao m cap).ownBlock → w1.cell? ⟨sb, 0, none⟩ = some (.slice ao m cap) ∧ w1.frozen? ⟨sb, 0, none⟩ = false := by
        intro w1 hg
        have hne : some sb ≠ (Value.slice ao m cap).ownBlock := fun e => by
          obtain ⟨_, cur, hc⟩ := own_block hbits.own e.symm
          rw [hc] at hset; simp at hset
        have hb1 : w1.heap[sb]? = some (.cells #[.slice ao m cap, .map mo] 28 (0, 0)) := by
          rw [hg.block sb (by simp; omega) hne, Below.heap_alloc _ _ _ hsl]; exact hset
        exact ⟨by rw [cells_cell hb1]; rfl, cells_frozen hb1⟩
      have HC := c1; have HC : Hid (∀ w1, (wr.alloc (.cells #[.slice none 0 0] 55)).grownBy w1 (Value.slice ao m cap).ownBlock → w1.cell? ⟨sb, 0, none⟩ = some (.slice ao m cap) ∧ w1.frozen? ⟨sb, 0, none⟩ = false) := c1
      have hl0 := hml
      rw [hml] at hown0
      have hnews := World.news_of_block (heap_alloc_new wr (.cells #[.slice none 0 0] 55))
      have HS : Hid (wr.heap[sb]? = some (.cells #[.slice ao m cap, .map mo] 28 (0, 0))) := hset
      have HML : Hid ((rows ++ List.replicate j []).length = m) := hml
      clear c1 hset hml hl0
      go_wp2_with (at_builtin; refine wpList_append_lies _ rfl _ _ 25 rfl base 55 i0 (.slice none 0 0) 1 24 Try.underlying25 hi hz0 hz1 hz2 rfl (by decide) _ m vs rfl (hown0.alloc _) ⟨wr.heap.size, 0, none⟩ 1 1 [.slice none 0 0] rfl rfl hnews (by simp [Value.oneCell']) (by decide) (by unfold maxLen; omega) (by omega) (by simp; omega) (wr.heap.size + 1) (by simp) ?_; intro g cap' w1 hown hgrow hat hlt; have cS := (HC.out w1 hgrow).1; have fS := (HC.out w1 hgrow).2)
      have R := Bits.push (mo := mo) (by exact HS.out) (by exact hbits) hbase (by rw [HML.out]; exact hown) hgrow hat
      rw [HML.out] at R
      have e2 : (rows ++ List.replicate j []) ++ [[]] = rows ++ List.replicate (j + 1) [] := by rw [List.append_assoc, List.replicate_succ']
      rw [e2] at R
      clear cS fS hnews HC hown0 hown hgrow hat
      go_roundg (64 - (m + 1))
      case measure => have := HGK.out; omega
      case rel => exact ⟨m + 1, ⟨_, _, j + 1, R.1, R.2.1, hkept.own_trans R.2.2, Nat.le_trans hbase R.2.2.size, by omega⟩, rfl, .inr (by omega)⟩
    · have hj : j = b + 1 - rows.length := by omega
      have hbm : b < m := by omega
      obtain ⟨hh, cur, rfl, hbh, hcur, hmc, hcm, hcs, htk⟩ : ∃ hh cur, ao = some ⟨hh, 0, none⟩ ∧ base ≤ hh ∧ wr.heap[hh]? = some (.cells cur 55 (0, 0)) ∧ m ≤ cap ∧ cap ≤ maxLen ∧ cur.size = cap ∧ cur.toList.take m = vs := by
        rcases hbits.own.2 with ⟨e, e2⟩ | ⟨g', cap', cur', hv', r⟩
        · omega
        · simp at hv'
          obtain ⟨rfl, _, rfl⟩ := hv'
          rw [hml] at r
          exact ⟨g', cur', rfl, r.1, r.2.1, r.2.2.1, r.2.2.2.1, by simpa using r.2.2.2.2.1, by simpa using r.2.2.2.2.2⟩
      have hvl := hbits.len
      rw [hml] at hvl
      obtain ⟨vb, hvb⟩ : ∃ vb, vs[b]? = some vb := ⟨vs[b]'(by omega), by simp⟩
      obtain ⟨xs, hxs⟩ : ∃ xs, (rows ++ List.replicate j [])[b]? = some xs := ⟨(rows ++ List.replicate j [])[b]'(by omega), by simp⟩
      have hcb : wr.cell? ⟨hh, b, none⟩ = some vb := by
        rw [cells_cell hcur, ← hvb, ← htk, List.getElem?_take_of_lt hbm]; simp
      have hfb : wr.frozen? ⟨hh, b, none⟩ = false := cells_frozen hcur
      have hgd : (rows ++ List.replicate (b + 1 - rows.length) []).getD b [] = xs := by rw [← hj, List.getD, hxs]; rfl
      subst hj
      rcases hbits.row b vb xs hvb hxs with ⟨rfl, rfl⟩ | ⟨g, rfl, hbg, hgw, hgm⟩
      · have hbi : (b : Int) < (m : Int) := by omega
        have hb0 : (0 : Int) ≤ (b : Int) := by omega
        have hhl : hh < wr.heap.size := (Array.getElem?_eq_some_iff.1 hcur).1
        have hne : sb ≠ hh := fun e => by rw [e, hcur] at hset; simp at hset
        have hng : wr.heap.size ≠ hh := by omega
        have FIN : Hid (∀ (k : Nat) (W : World) (x : Int) (ys : List Int), ys = [] ++ List.replicate k 0 → ys.length ≤ maxLen → ys[wd]? = some x → Same W wr → AddPost w base sb mo rows b wd bt (.returned (.bool (bits .and .u64 x bt != 0)))
          (((W.alloc (.cells (words ys) 58)).setCell ⟨hh, b, none⟩ (.slice (some ⟨wr.heap.size, 0, none⟩) ys.length ys.length)).setCell ⟨wr.heap.size, wd, none⟩ (.int .u64 (bits .or .u64 x bt))).drew) :=
          fun k W x ys h1 h2 h3 hs => fin_fresh hset hbits hkept hbase hml hxs h1 h2 h3 hs
        clear hset hbits hkept hmb hm HGK hcur hcs htk hvl hvb hxs hgd hi hz0 hz1 hz2
        go_wp2
        go_quiet (fail)
        go_wp2
        go_region_held3 (fun w' => w'.cell? ⟨sb, 0, none⟩ = some (.slice (some ⟨hh, 0, none⟩) m cap) ∧ w'.cell? ⟨hh, b, none⟩ = some (.slice none 0 0)) (go_keep)
          ((go_at_call 39; refine (grow_at none 0 (wd + 1) _ (wrap_need wd (by omega)) [] _ (by omega) (by omega) rfl (fun _ => rfl) (fun a h => by cases h)).mono ?_; rintro e w' ⟨G, hG1, hG2, rfl, rfl⟩))
        go_wp2
        have hyx : (List.replicate G (0 : Int))[wd]? = some 0 := by rw [List.getElem?_replicate, if_pos (by omega)]
        obtain ⟨c1, c2, f2, c3, f3⟩ := behind_grow (n := nq + 1 + 1) hsl hhl c0 hcb hfb hyx
        have F2 := FIN.out G (wr.drewN (nq + 1 + 1)) 0 (List.replicate G 0) rfl (by rw [List.length_replicate]; unfold maxLen; omega) hyx (same_drewN _ _)
        rw [List.length_replicate] at F2
        have F3 := hide F2
        clear F2 FIN
        generalize (wr.drewN (nq + 1 + 1)).alloc (Obj.cells (words (List.replicate G 0)) 58) = W1 at c1 c2 f2 c3 f3 F3 ⊢
        have k1 : ∀ (W : World) v, (W.setCell ⟨hh, b, none⟩ v).cell? ⟨sb, 0, none⟩ = W.cell? ⟨sb, 0, none⟩ := fun W v => cell_setCell_far hne
        have k2 : ∀ (W : World) v, (W.setCell ⟨hh, b, none⟩ v).cell? ⟨wr.heap.size, wd, none⟩ = W.cell? ⟨wr.heap.size, wd, none⟩ := fun W v => cell_setCell_far hng
        have k3 : ∀ (W : World) v, (W.setCell ⟨hh, b, none⟩ v).frozen? ⟨wr.heap.size, wd, none⟩ = W.frozen? ⟨wr.heap.size, wd, none⟩ := fun W v => frozen_setCell_far hng
        clear c0 hcb hfb hyx
        go_region_held3 (fun w' => w'.cell? ⟨sb, 0, none⟩ = some (.slice (some ⟨hh, 0, none⟩) m cap)) (go_keep) (fail)
        go_wp2
        go_ret
        exact F3.out
      · by_cases hwl : wd < xs.length
        · have hxx : xs[wd]? = some xs[wd] := by simp [hwl]
          obtain ⟨x, hx⟩ : ∃ x, x = xs[wd] := ⟨_, rfl⟩
          rw [← hx] at hxx
          have cx : wr.cell? ⟨g, wd, none⟩ = some (.int .u64 x) := by rw [cells_cell hgw, words_get, hxx]; rfl
          have fx : wr.frozen? ⟨g, wd, none⟩ = false := cells_frozen hgw
          have FIN : Hid (∀ W, Same W wr → AddPost w base sb mo rows b wd bt (.returned (.bool (bits .and .u64 x bt != 0))) (W.setCell ⟨g, wd, none⟩ (.int .u64 (bits .or .u64 x bt)))) := fun W hs => fin_store hset hbits hkept hbase hvb hxs hxx hs
          clear hset hbits hkept hmb hm HGK hcur hcs htk hvl hvb hxs hgd hi hz0 hz1 hz2 hx hxx hgw
          go_wp2
          go_quiet (fail)
          go_wp2
          go_ret
          exact FIN.out _ (same_drewN _ _)
        · skip
          have hbi : (b : Int) < (m : Int) := by omega
          have hb0 : (0 : Int) ≤ (b : Int) := by omega
          have hwl' : (xs.length : Int) ≤ (wd : Int) := by omega
          have hhl : hh < wr.heap.size := (Array.getElem?_eq_some_iff.1 hcur).1
          have hne : sb ≠ hh := fun e => by rw [e, hcur] at hset; simp at hset
          have hng : wr.heap.size ≠ hh := by omega
          have HCS : Hid (∀ j v, (words xs).toList[j]? = some v → wr.cell? ((⟨g, 0, none⟩ : Addr).add j) = some v) := World.news_of_block hgw
          have FIN : Hid (∀ (k : Nat) (W : World) (x : Int) (ys : List Int), ys = xs ++ List.replicate k 0 → ys.length ≤ maxLen → ys[wd]? = some x → Same W wr → AddPost w base sb mo rows b wd bt (.returned (.bool (bits .and .u64 x bt != 0)))
            (((W.alloc (.cells (words ys) 58)).setCell ⟨hh, b, none⟩ (.slice (some ⟨wr.heap.size, 0, none⟩) ys.length ys.length)).setCell ⟨wr.heap.size, wd, none⟩ (.int .u64 (bits .or .u64 x bt))).drew) :=
            fun k W x ys h1 h2 h3 hs => fin_fresh hset hbits hkept hbase hml hxs h1 h2 h3 hs
          clear hset hbits hkept hmb hm HGK hcur hcs htk hvl hvb hxs hgd hi hz0 hz1 hz2 hgw
          go_wp2
          go_quiet (fail)
          go_wp2
          go_region_held3 (fun w' => w'.cell? ⟨sb, 0, none⟩ = some (.slice (some ⟨hh, 0, none⟩) m cap) ∧ w'.cell? ⟨hh, b, none⟩ = some (.slice (some ⟨g, 0, none⟩) xs.length xs.length)) (go_keep)
            ((go_at_call 39; refine (grow_at (some ⟨g, 0, none⟩) xs.length (wd + 1 - xs.length) _ (wrap_need' wd xs.length (by omega) (by omega)) xs _ (by omega) (by omega) rfl (fun h => by cases h) (by intro a h j v hj; cases h; simpa using HCS.out j v hj)).mono ?_; rintro e w' ⟨G, hG1, hG2, rfl, rfl⟩))
          go_wp2
          have hyx : (xs ++ List.replicate (G - xs.length) (0 : Int))[wd]? = some 0 := by rw [List.getElem?_append_right (by omega), List.getElem?_replicate, if_pos (by omega)]
          have hyl : (xs ++ List.replicate (G - xs.length) (0 : Int)).length = G := by rw [List.length_append, List.length_replicate]; omega
          obtain ⟨c1, c2, f2, c3, f3⟩ := behind_grow (n := nq + 1 + 1) hsl hhl c0 hcb hfb hyx
          have F2 := FIN.out (G - xs.length) (wr.drewN (nq + 1 + 1)) 0 (xs ++ List.replicate (G - xs.length) 0) rfl (by rw [hyl]; unfold maxLen; omega) hyx (same_drewN _ _)
          rw [hyl] at F2
          have F3 := hide F2
          clear F2 FIN
          generalize (wr.drewN (nq + 1 + 1)).alloc (Obj.cells (words (xs ++ List.replicate (G - xs.length) 0)) 58) = W1 at c1 c2 f2 c3 f3 F3 ⊢
          have k1 : ∀ (W : World) v, (W.setCell ⟨hh, b, none⟩ v).cell? ⟨sb, 0, none⟩ = W.cell? ⟨sb, 0, none⟩ := fun W v => cell_setCell_far hne
          have k2 : ∀ (W : World) v, (W.setCell ⟨hh, b, none⟩ v).cell? ⟨wr.heap.size, wd, none⟩ = W.cell? ⟨wr.heap.size, wd, none⟩ := fun W v => cell_setCell_far hng
          have k3 : ∀ (W : World) v, (W.setCell ⟨hh, b, none⟩ v).frozen? ⟨wr.heap.size, wd, none⟩ = W.frozen? ⟨wr.heap.size, wd, none⟩ := fun W v => frozen_setCell_far hng
          clear c0 hcb hfb hyx hyl
          go_region_held3 (fun w' => w'.cell? ⟨sb, 0, none⟩ = some (.slice (some ⟨hh, 0, none⟩) m cap)) (go_keep) (fail)
          go_wp2
          go_ret
          exact F3.out
end Go.Proofs.Qxb6601407a
