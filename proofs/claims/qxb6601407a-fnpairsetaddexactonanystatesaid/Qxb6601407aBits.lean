import Derived.Test.Qxb6601407aAddMap
import Derived.Test.Qxb6601407aGrow
import Derived.Deep.AppendLies
import Derived.Deep.RegionHeld3
import Derived.Deep.DrawnRows
import Derived.Deep.QuietTactic
import Derived.BigQuiet
import Derived.Deep.LoopGhost
namespace Go.Proofs.Qxb6601407a
open Go.RowKit
set_option linter.unusedVariables false

/-- v IS THE ROW OF WORDS xs: nil, or all of an array of its own (no spare room). -/
def RowIs (w : World) (base : Nat) (v : Value) (xs : List Int) : Prop :=
  (v = .slice none 0 0 ∧ xs = []) ∨ ∃ g, v = .slice (some ⟨g, 0, none⟩) xs.length xs.length ∧ base ≤ g ∧ w.heap[g]? = some (.cells (words xs) 58 (0, 0)) ∧ xs.length ≤ maxLen

/-- THE BIT ROWS OF A pairSet. -/
structure Bits (w : World) (base sb : Nat) (bv : Value) (vs : List Value) (rows : List (List Int)) : Prop where
  own : w.ownsRow base 55 1 bv rows.length vs
  row : ∀ (i : Nat) (v : Value) (xs : List Int), vs[i]? = some v → rows[i]? = some xs → RowIs w base v xs
  apart : ∀ (i j : Nat) (v u : Value) (g : Nat), vs[i]? = some v → vs[j]? = some u → v.ownBlock = some g → u.ownBlock = some g → i = j

theorem Bits.len {w : World} {base sb : Nat} {bv : Value} {vs : List Value} {rows : List (List Int)} (h : Bits w base sb bv vs rows) : vs.length = rows.length := by
  have := h.own.1; omega

/-- The blocks that belong to the bit rows. -/
def ownB (w : World) (base sb : Nat) (k : Nat) : Prop := k = sb ∨ (base ≤ k ∧ ∃ cur t, w.heap[k]? = some (.cells cur t (0, 0)) ∧ (t = 55 ∨ t = 58))
theorem ownB_sb (w : World) (base sb : Nat) : ownB w base sb sb := .inl rfl

theorem RowIs.kept {w w' : World} {base : Nat} {v : Value} {xs : List Int} (h : RowIs w base v xs) (hk : ∀ g, v.ownBlock = some g → w'.heap[g]? = w.heap[g]?) : RowIs w' base v xs := by
  rcases h with h | ⟨g, rfl, h1, h2, h3⟩
  · exact .inl h
  · exact .inr ⟨g, rfl, h1, (hk g rfl).trans h2, h3⟩
theorem RowIs.block {w : World} {base : Nat} {v : Value} {xs : List Int} (h : RowIs w base v xs) {g : Nat} (hg : v.ownBlock = some g) : base ≤ g ∧ w.heap[g]? = some (.cells (words xs) 58 (0, 0)) := by
  rcases h with ⟨rfl, _⟩ | ⟨g', rfl, h1, h2, h3⟩
  · simp [Value.ownBlock] at hg
  · simp [Value.ownBlock] at hg
    subst hg
    exact ⟨h1, h2⟩

theorem own_kept {w w' : World} {base : Nat} {e : TypeId} {size : Nat} {v : Value} {n : Nat} {xs : List Value} (h : w.ownsRow base e size v n xs) (hk : ∀ g, v.ownBlock = some g → w'.heap[g]? = w.heap[g]?) : w'.ownsRow base e size v n xs := by
  refine ⟨h.1, ?_⟩
  rcases h.2 with hn | ⟨g, cap, cur, rfl, hb, hgg, rest⟩
  · exact .inl hn
  · exact .inr ⟨g, cap, cur, rfl, hb, (hk g rfl).trans hgg, rest⟩
theorem own_block {w : World} {base : Nat} {e : TypeId} {size : Nat} {v : Value} {n : Nat} {xs : List Value} (h : w.ownsRow base e size v n xs) {g : Nat} (hg : v.ownBlock = some g) : base ≤ g ∧ ∃ cur, w.heap[g]? = some (.cells cur e (0, 0)) := by
  rcases h.2 with ⟨rfl, _⟩ | ⟨g', cap, cur, rfl, hb, hgg, rest⟩
  · simp [Value.ownBlock] at hg
  · simp [Value.ownBlock] at hg
    subst hg
    exact ⟨hb, cur, hgg⟩
theorem own_form {w : World} {base : Nat} {e : TypeId} {size : Nat} {v : Value} {n : Nat} {xs : List Value} (h : w.ownsRow base e size v n xs) : ∃ ao cap, v = .slice ao n cap := by
  rcases h.2 with ⟨rfl, rfl⟩ | ⟨g', cap, cur, rfl, hb, hgg, rest⟩
  · exact ⟨_, _, rfl⟩
  · exact ⟨_, _, rfl⟩

/-- One more nil row. -/
theorem Bits.push {wr w1 : World} {base sb : Nat} {mo : Option Nat} {bv : Value} {vs : List Value} {R : List (List Int)} {g cap : Nat}
    (hset : wr.heap[sb]? = some (.cells #[bv, .map mo] 28 (0, 0))) (h : Bits wr base sb bv vs R) (hbase : base ≤ wr.heap.size)
    (hown : w1.ownsRow base 55 1 (.slice (some ⟨g, 0, none⟩) (R.length + 1) cap) (R.length + 1) (vs ++ [.slice none 0 0]))
    (hgrow : (wr.alloc (.cells #[.slice none 0 0] 55)).grownBy w1 bv.ownBlock) (hat : bv.ownBlock = some g ∨ g = wr.heap.size + 1) :
    (w1.setCell ⟨sb, 0, none⟩ (.slice (some ⟨g, 0, none⟩) (R.length + 1) cap)).heap[sb]? = some (.cells #[.slice (some ⟨g, 0, none⟩) (R.length + 1) cap, .map mo] 28 (0, 0)) ∧
    Bits (w1.setCell ⟨sb, 0, none⟩ (.slice (some ⟨g, 0, none⟩) (R.length + 1) cap)) base sb (.slice (some ⟨g, 0, none⟩) (R.length + 1) cap) (vs ++ [.slice none 0 0]) (R ++ [[]]) ∧
    KeptBut (ownB wr base sb) wr (w1.setCell ⟨sb, 0, none⟩ (.slice (some ⟨g, 0, none⟩) (R.length + 1) cap)) := by
  have hsl : sb < wr.heap.size := (Array.getElem?_eq_some_iff.1 hset).1
  have hsne : bv.ownBlock ≠ some sb := fun e => by
    obtain ⟨_, cur, hc⟩ := own_block h.own e
    rw [hc] at hset; simp at hset
  have hs1 : w1.heap[sb]? = some (.cells #[bv, .map mo] 28 (0, 0)) := by
    rw [hgrow.block sb (by simp; omega) (Ne.symm hsne), Below.heap_alloc _ _ _ hsl]; exact hset
  have hgs : g ≠ sb := by
    rcases hat with hat | hat
    · intro e; subst e; exact hsne hat
    · omega
  have hother : ∀ k, k < wr.heap.size → bv.ownBlock ≠ some k → w1.heap[k]? = wr.heap[k]? := fun k hk hne => by
    rw [hgrow.block k (by simp; omega) (Ne.symm hne), Below.heap_alloc _ _ _ hk]
  refine ⟨by simp [World.setCell, Array.getElem?_modify, hs1], ⟨?_, ?_, ?_⟩, ?_⟩
  · have e : (R ++ [[]]).length = R.length + 1 := by simp
    rw [e]
    refine own_kept hown (fun g' hg' => ?_)
    simp [Value.ownBlock] at hg'
    subst hg'
    exact Below.heap_setCell _ _ _ _ hgs
  · intro i v xs hv hx
    have hl := h.len
    by_cases hi : i < R.length
    · rw [List.getElem?_append_left (by omega)] at hv hx
      have hr := h.row i v xs hv hx
      refine hr.kept (fun g' hg' => ?_)
      have hb := hr.block hg'
      have hlt : g' < wr.heap.size := (Array.getElem?_eq_some_iff.1 hb.2).1
      rw [Below.heap_setCell _ _ _ _ (fun e => by subst e; rw [hb.2] at hset; simp at hset)]
      refine hother g' hlt (fun e => ?_)
      obtain ⟨_, cur, hc⟩ := own_block h.own e
      rw [hb.2] at hc; simp at hc
    · rw [List.getElem?_append_right (by omega)] at hv hx
      have e : i - R.length = 0 := by
        by_cases h0 : i - R.length = 0
        · exact h0
        · rw [List.getElem?_eq_none (by simp; omega)] at hx; cases hx
      rw [hl, e] at hv
      rw [e] at hx
      simp at hv hx
      exact .inl ⟨hv.symm, hx⟩
  · intro i j v u g' hv hu hvg hug
    have hl := h.len
    have key : ∀ (i : Nat) (v : Value), (vs ++ [.slice none 0 0])[i]? = some v → v.ownBlock = some g' → vs[i]? = some v := by
      intro i v hv hvg
      by_cases hi : i < vs.length
      · rwa [List.getElem?_append_left hi] at hv
      · rw [List.getElem?_append_right (by omega)] at hv
        by_cases h0 : i - vs.length = 0
        · rw [h0] at hv; simp at hv; subst hv; simp [Value.ownBlock] at hvg
        · rw [List.getElem?_eq_none (by simp; omega)] at hv; cases hv
    exact h.apart i j v u g' (key i v hv hvg) (key j u hu hug) hvg hug
  · refine KeptBut.setCell (p := ⟨sb, 0, none⟩) ?_ (fun _ => ownB_sb _ _ _) _
    refine ⟨hgrow.os, hgrow.tape, hgrow.output, Nat.le_trans (by simp) hgrow.size, fun k hk hn => hother k hk (fun e => hn ?_)⟩
    obtain ⟨hbg, cur, hc⟩ := own_block h.own e
    exact .inr ⟨hbg, cur, 55, hc, .inl rfl⟩

theorem KeptBut.own_trans {base sb : Nat} {a b c : World} (h : KeptBut (ownB a base sb) a b) (k : KeptBut (ownB b base sb) b c) : KeptBut (ownB a base sb) a c :=
  ⟨k.os.trans h.os, k.tape.trans h.tape, k.output.trans h.output, Nat.le_trans h.size k.size, fun i hi ho => by
    have e := h.block i hi ho
    refine (k.block i (Nat.lt_of_lt_of_le hi h.size) (fun o => ho ?_)).trans e
    rcases o with o | ⟨o1, cur, t, o2, o3⟩
    · exact .inl o
    · exact .inr ⟨o1, cur, t, by rw [← e]; exact o2, o3⟩⟩

/-- What the loop that lays nil rows keeps. -/
def Padded (w0 : World) (base sb : Nat) (mo : Option Nat) (rows : List (List Int)) (m : Nat) (wr : World) : Prop :=
  ∃ bv vs j, wr.heap[sb]? = some (.cells #[bv, .map mo] 28 (0, 0)) ∧ Bits wr base sb bv vs (rows ++ List.replicate j []) ∧ KeptBut (ownB w0 base sb) w0 wr ∧ base ≤ wr.heap.size ∧ rows.length + j = m


/-- One row is another. -/
theorem Bits.setRow {W W' : World} {base sb : Nat} {bv : Value} {vs : List Value} {R : List (List Int)} (h : Bits W base sb bv vs R) (b : Nat) (v' : Value) (xs' : List Int)
    (hown : W'.ownsRow base 55 1 bv R.length (vs.set b v')) (hrow : RowIs W' base v' xs')
    (hoth : ∀ (i : Nat) (v : Value) (g : Nat), i ≠ b → vs[i]? = some v → v.ownBlock = some g → W'.heap[g]? = W.heap[g]?)
    (hap : ∀ (i : Nat) (v : Value) (g : Nat), i ≠ b → vs[i]? = some v → v.ownBlock = some g → v'.ownBlock ≠ some g) : Bits W' base sb bv (vs.set b v') (R.set b xs') := by
  refine ⟨by simpa using hown, ?_, ?_⟩
  · intro i v xs hv hx
    by_cases hi : i = b
    · subst hi
      rw [List.getElem?_set] at hv hx
      simp at hv hx
      obtain ⟨_, rfl⟩ := hv
      obtain ⟨_, rfl⟩ := hx
      exact hrow
    · rw [List.getElem?_set_ne (Ne.symm hi)] at hv hx
      exact (h.row i v xs hv hx).kept (fun g hg => hoth i v g hi hv hg)
  · intro i j v u g hv hu hvg hug
    by_cases hi : i = b
    · by_cases hj : j = b
      · omega
      · rw [List.getElem?_set_ne (Ne.symm hj)] at hu
        rw [hi, List.getElem?_set] at hv
        simp at hv
        obtain ⟨_, rfl⟩ := hv
        exact absurd hvg (hap j u g hj hu hug)
    · rw [List.getElem?_set_ne (Ne.symm hi)] at hv
      by_cases hj : j = b
      · rw [hj, List.getElem?_set] at hu
        simp at hu
        obtain ⟨_, rfl⟩ := hu
        exact absurd hug (hap i v g hi hv hvg)
      · rw [List.getElem?_set_ne (Ne.symm hj)] at hu
        exact h.apart i j v u g hv hu hvg hug

theorem words_set (xs : List Int) (j : Nat) (x : Int) : (words xs).setIfInBounds j (.int .u64 x) = words (xs.set j x) := by
  simp [words, List.map_set]

/-- A word of a row is written, in place. -/
theorem Bits.store {W : World} {base sb : Nat} {bv : Value} {vs : List Value} {R : List (List Int)} {mo : Option Nat} (hset : W.heap[sb]? = some (.cells #[bv, .map mo] 28 (0, 0))) (h : Bits W base sb bv vs R) {b g j : Nat} {xs : List Int} {y : Int}
    (hv : vs[b]? = some (.slice (some ⟨g, 0, none⟩) xs.length xs.length)) (hx : R[b]? = some xs) :
    (W.setCell ⟨g, j, none⟩ (.int .u64 y)).heap[sb]? = some (.cells #[bv, .map mo] 28 (0, 0)) ∧
    Bits (W.setCell ⟨g, j, none⟩ (.int .u64 y)) base sb bv vs (R.set b (xs.set j y)) ∧ KeptBut (ownB W base sb) W (W.setCell ⟨g, j, none⟩ (.int .u64 y)) := by
  have hr := h.row b _ xs hv hx
  have hb := hr.block (g := g) rfl
  have hsg : sb ≠ g := fun e => by rw [e, hb.2] at hset; simp at hset
  have hbg : ∀ g', bv.ownBlock = some g' → g' ≠ g := fun g' e e2 => by
    obtain ⟨_, cur, hc⟩ := own_block h.own e
    rw [e2, hb.2] at hc; simp at hc
  refine ⟨by rw [Below.heap_setCell _ _ _ _ hsg]; exact hset, ?_, KeptBut.setCell (p := ⟨g, j, none⟩) (KeptBut.refl _ _) (fun _ => .inr ⟨hb.1, _, 58, hb.2, .inr rfl⟩) _⟩
  have hvl : vs.set b (.slice (some ⟨g, 0, none⟩) xs.length xs.length) = vs := by
    apply List.ext_getElem?
    intro i
    rw [List.getElem?_set]
    split
    · rename_i e; subst e
      have := (List.getElem?_eq_some_iff.1 hv).1
      rw [if_pos this, hv]
    · rfl
  have := h.setRow (W' := W.setCell ⟨g, j, none⟩ (.int .u64 y)) b (.slice (some ⟨g, 0, none⟩) xs.length xs.length) (xs.set j y)
    (by rw [hvl]; exact own_kept h.own (fun g' e => Below.heap_setCell _ _ _ _ (hbg g' e)))
    (.inr ⟨g, by simp, hb.1, by simp [World.setCell, Array.getElem?_modify, hb.2, words_set], by
      rcases hr with ⟨e, _⟩ | ⟨g', _, _, _, hm⟩
      · cases e
      · simpa using hm⟩)
    (fun i v g' hi hv' hg' => Below.heap_setCell _ _ _ _ (fun e => by
      subst e
      exact hi (h.apart i b v _ g' hv' hv hg' rfl)))
    (fun i v g' hi hv' hg' e => by
      simp [Value.ownBlock] at e
      subst e
      exact hi (h.apart i b v _ g hv' hv hg' rfl))
  rwa [hvl] at this

/-- A row that is nil, or has become too short, gives way to a new array. -/
theorem Bits.fresh {W : World} {base sb : Nat} {bv : Value} {vs : List Value} {R : List (List Int)} {mo : Option Nat} (hset : W.heap[sb]? = some (.cells #[bv, .map mo] 28 (0, 0))) (h : Bits W base sb bv vs R) {b hh cap : Nat} {ys : List Int}
    (hbv : bv = .slice (some ⟨hh, 0, none⟩) R.length cap) (hb : b < R.length) (hbase : base ≤ W.heap.size) (hys : ys.length ≤ maxLen) :
    (((W.alloc (.cells (words ys) 58)).setCell ⟨hh, b, none⟩ (.slice (some ⟨W.heap.size, 0, none⟩) ys.length ys.length))).heap[sb]? = some (.cells #[bv, .map mo] 28 (0, 0)) ∧
    Bits ((W.alloc (.cells (words ys) 58)).setCell ⟨hh, b, none⟩ (.slice (some ⟨W.heap.size, 0, none⟩) ys.length ys.length)) base sb bv (vs.set b (.slice (some ⟨W.heap.size, 0, none⟩) ys.length ys.length)) (R.set b ys) ∧
    KeptBut (ownB W base sb) W ((W.alloc (.cells (words ys) 58)).setCell ⟨hh, b, none⟩ (.slice (some ⟨W.heap.size, 0, none⟩) ys.length ys.length)) := by
  obtain ⟨hbh, cur, hc⟩ := own_block h.own (g := hh) (by rw [hbv]; rfl)
  have hsl : sb < W.heap.size := (Array.getElem?_eq_some_iff.1 hset).1
  have hhl : hh < W.heap.size := (Array.getElem?_eq_some_iff.1 hc).1
  have hsh : sb ≠ hh := fun e => by rw [e, hc] at hset; simp at hset
  have hold : ∀ k, k < W.heap.size → k ≠ hh → ((W.alloc (.cells (words ys) 58)).setCell ⟨hh, b, none⟩ (.slice (some ⟨W.heap.size, 0, none⟩) ys.length ys.length)).heap[k]? = W.heap[k]? := fun k hk hne => by
    rw [Below.heap_setCell _ _ _ _ hne, Below.heap_alloc _ _ _ hk]
  refine ⟨by rw [hold sb hsl hsh]; exact hset, ?_, ((KeptBut.refl _ _).alloc _).setCell (p := ⟨hh, b, none⟩) (fun _ => .inr ⟨hbh, cur, 55, hc, .inl rfl⟩) _⟩
  have hnew : ((W.alloc (.cells (words ys) 58)).setCell ⟨hh, b, none⟩ (.slice (some ⟨W.heap.size, 0, none⟩) ys.length ys.length)).heap[W.heap.size]? = some (.cells (words ys) 58 (0, 0)) := by
    rw [Below.heap_setCell _ _ _ _ (by show W.heap.size ≠ hh; omega)]; exact heap_alloc_new W _
  have hlen := h.len
  have hblk : ∀ (i : Nat) (v : Value) (g : Nat), vs[i]? = some v → v.ownBlock = some g → g < W.heap.size ∧ g ≠ hh := fun i v g hv hg => by
    have hi : i < R.length := by rw [← hlen]; exact (List.getElem?_eq_some_iff.1 hv).1
    have := (h.row i v R[i] hv (by simp [hi])).block hg
    exact ⟨(Array.getElem?_eq_some_iff.1 this.2).1, fun e => by rw [e, hc] at this; simp at this⟩
  refine h.setRow b _ ys ?_ (.inr ⟨W.heap.size, rfl, hbase, hnew, hys⟩) (fun i v g hi hv hg => hold g (hblk i v g hv hg).1 (hblk i v g hv hg).2) (fun i v g hi hv hg e => ?_)
  · refine ⟨by rw [List.length_set]; exact h.own.1, .inr ?_⟩
    rcases h.own.2 with ⟨e, _⟩ | ⟨g', cap', cur', hv', hb', hg', r1, r2, r3, r4⟩
    · rw [hbv] at e; cases e
    · rw [hbv] at hv'
      simp at hv'
      obtain ⟨rfl, rfl⟩ := hv'
      refine ⟨hh, cap, cur'.setIfInBounds b (.slice (some ⟨W.heap.size, 0, none⟩) ys.length ys.length), hbv, hbh, ?_, r1, r2, by simpa using r3, ?_⟩
      · have : (W.alloc (.cells (words ys) 58)).heap[hh]? = some (.cells cur' 55 (0, 0)) := by rw [Below.heap_alloc _ _ _ hhl]; exact hg'
        simp [World.setCell, Array.getElem?_modify, this]
      · rw [← r4]
        simp [List.take_set]
  · simp [Value.ownBlock] at e
    have := (hblk i v g hv hg).1
    omega
end Go.Proofs.Qxb6601407a
