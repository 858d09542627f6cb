import Derived.Test.Qxb6601407aKeys
import Derived.WalkSpells
namespace Go.Proofs.Qxb6601407a
open Go.RowKit Go.Maps
set_option linter.unusedVariables false

/-- Nothing but the blocks of 'own' has turned. -/
structure KeptBut (own : Nat → Prop) (w w' : World) : Prop where
  os : w'.os = w.os
  tape : w'.tape = w.tape
  output : w'.output = w.output
  size : w.heap.size ≤ w'.heap.size
  block : ∀ k, k < w.heap.size → ¬ own k → w'.heap[k]? = w.heap[k]?

theorem KeptBut.refl (own : Nat → Prop) (w : World) : KeptBut own w w := ⟨rfl, rfl, rfl, Nat.le_refl _, fun _ _ _ => rfl⟩
theorem KeptBut.trans {own : Nat → Prop} {a b c : World} (h : KeptBut own a b) (k : KeptBut own b c) : KeptBut own a c :=
  ⟨k.os.trans h.os, k.tape.trans h.tape, k.output.trans h.output, Nat.le_trans h.size k.size, fun i hi ho => (k.block i (Nat.lt_of_lt_of_le hi h.size) ho).trans (h.block i hi ho)⟩
theorem KeptBut.mono {own own' : Nat → Prop} {a b : World} (h : KeptBut own a b) (hi : ∀ k, k < a.heap.size → own k → own' k) : KeptBut own' a b :=
  ⟨h.os, h.tape, h.output, h.size, fun k hk hn => h.block k hk (fun ho => hn (hi k hk ho))⟩
theorem KeptBut.drew {own : Nat → Prop} {a w : World} (h : KeptBut own a w) : KeptBut own a w.drew := ⟨h.os, h.tape, h.output, h.size, h.block⟩
theorem KeptBut.alloc {own : Nat → Prop} {a w : World} (h : KeptBut own a w) (o : Obj) : KeptBut own a (w.alloc o) :=
  h.trans ⟨rfl, rfl, rfl, by simp, fun k hk _ => Below.heap_alloc _ _ _ hk⟩
theorem KeptBut.setCell {own : Nat → Prop} {a w : World} (h : KeptBut own a w) {p : Addr} (hp : p.block < w.heap.size → own p.block) (u : Value) : KeptBut own a (w.setCell p u) :=
  h.trans ⟨rfl, rfl, rfl, by simp [World.setCell], fun k hk ho => Below.heap_setCell _ _ _ _ (fun e => ho (e ▸ hp (e ▸ hk)))⟩
theorem KeptBut.grown {own : Nat → Prop} {a w w' : World} {row : Option Nat} (h : KeptBut own a w) (hg : w.grownBy w' row) (hr : ∀ k, row = some k → own k) : KeptBut own a w' :=
  h.trans ⟨hg.os, hg.tape, hg.output, hg.size, fun k hk ho => hg.block k hk (fun e => ho (hr k e.symm))⟩
theorem KeptBut.below {own : Nat → Prop} {w w' : World} (h : KeptBut own w w') {B : Nat} (hB : B ≤ w.heap.size) (hn : ∀ k, k < B → ¬ own k) : Below B w w' :=
  ⟨h.os, h.tape, h.output, h.size, fun k hk => h.block k (Nat.lt_of_lt_of_le hk hB) (hn k hk)⟩

theorem cells_cell {w : World} {b j : Nat} {cur : Array Value} {t : TypeId} {fz : Nat × Nat} (h : w.heap[b]? = some (.cells cur t fz)) : w.cell? ⟨b, j, none⟩ = cur[j]? := by
  simp [World.cell?, h]
theorem cells_frozen {w : World} {b j : Nat} {cur : Array Value} {t : TypeId} (h : w.heap[b]? = some (.cells cur t (0, 0))) : w.frozen? ⟨b, j, none⟩ = false := by
  simp [World.frozen?, h]

def szPut (S : Int → Int → Bool) (sz : Nat) (a b : Int) : Nat := if S a b then sz else sz + 1

set_option maxHeartbeats 400000 in
theorem add_map_some (sb mb n sz : Nat) (bv : Value) (S : Int → Int → Bool) (a b : Int) (w : World) (hb64 : 64 ≤ b) (ha : okI a) (hb : okI b)
    (hset : w.heap[sb]? = some (.cells #[bv, .map (some mb)] 28 (0, 0))) (hm : SetMap w mb n sz S) (hn : n < maxLen) :
    Calls Try.prog 36 #[.pointer (some ⟨sb, 0, none⟩), .int .i64 a, .int .i64 b] w fun e w' => e = .returned (.bool (S a b)) ∧
      w'.heap[sb]? = some (.cells #[bv, .map (some mb)] 28 (0, 0)) ∧ SetMap w' mb (n + 1) (szPut S sz a b) (putS S a b) ∧ KeptBut (fun k => k = mb) w w' := by
  have c1 : w.cell? ⟨sb, 1, none⟩ = some (.map (some mb)) := by rw [cells_cell hset]; rfl
  have q26 : ∀ (w : World) (r : Option Nat), (binOp .eql 26 (.map r) (.map none)).run Try.prog w = .ok (.bool r.isNone) w := fun w r => run_eql_map_nil w _ _ _ r Try.underlying26
  have hsl : sb < w.heap.size := (Array.getElem?_eq_some_iff.1 hset).1
  obtain ⟨es, cl, hmb⟩ := hm.block
  have hml : mb < w.heap.size := (Array.getElem?_eq_some_iff.1 hmb).1
  have hne : sb ≠ mb := fun e => by rw [e, hmb] at hset; cases hset
  have hl : (Instr.lookup 26 (.map (some mb)) (.agg #[.int .i64 a, .int .i64 b]) true).run Try.prog w = .ok (.tuple #[.agg #[], .bool (S a b)]) w := hm.look ha hb
  have c2 : (w.alloc (.cells #[] 57)).cell? ⟨sb, 1, none⟩ = some (.map (some mb)) := by rw [World.cell?_of_block (w := w) (Below.heap_alloc _ _ _ hsl)]; exact c1
  obtain ⟨w1, hu, hm1, ht⟩ := (hm.kept (w' := w.alloc (.cells #[] 57)) (Below.heap_alloc _ _ _ hml)).put hn ha hb
  have hs1 : w1.heap[sb]? = some (.cells #[bv, .map (some mb)] 28 (0, 0)) := by
    rw [ht.grown.block sb (by simp; omega) (by simpa using hne), Below.heap_alloc _ _ _ hsl]; exact hset
  have hk1 : KeptBut (fun k => k = mb) w w1 := ((KeptBut.refl _ w).alloc _).grown ht.grown (fun k hk => by simpa using hk.symm)
  unfold pv at hu
  have R : Hid (w1.heap[sb]? = some (.cells #[bv, .map (some mb)] 28 (0, 0)) ∧ SetMap w1 mb (n + 1) (szPut S sz a b) (putS S a b) ∧ KeptBut (fun k => k = mb) w w1) := ⟨hs1, hm1, hk1⟩
  clear hm hset hmb hm1 ht hs1 hk1 ha hb hn
  go_enter Try.func36, Try.ntmps36
  go_wp2
  go_ret
  exact ⟨rfl, R.out⟩

set_option maxHeartbeats 400000 in
theorem add_map_none (sb : Nat) (bv : Value) (a b : Int) (w : World) (hb64 : 64 ≤ b) (ha : okI a) (hb : okI b)
    (hset : w.heap[sb]? = some (.cells #[bv, .map none] 28 (0, 0))) :
    Calls Try.prog 36 #[.pointer (some ⟨sb, 0, none⟩), .int .i64 a, .int .i64 b] w fun e w' => e = .returned (.bool false) ∧
      w'.heap[sb]? = some (.cells #[bv, .map (some w.heap.size)] 28 (0, 0)) ∧ SetMap w' w.heap.size 1 1 (putS (fun _ _ => false) a b) ∧ KeptBut (fun k => k = sb) w w' := by
  have c1 : w.cell? ⟨sb, 1, none⟩ = some (.map none) := by rw [cells_cell hset]; rfl
  have f1 : w.frozen? ⟨sb, 1, none⟩ = false := cells_frozen hset
  have q26 : ∀ (w : World) (r : Option Nat), (binOp .eql 26 (.map r) (.map none)).run Try.prog w = .ok (.bool r.isNone) w := fun w r => run_eql_map_nil w _ _ _ r Try.underlying26
  have hmm := @run_makeMap Try.prog
  have hsl : sb < w.heap.size := (Array.getElem?_eq_some_iff.1 hset).1
  have hm0 : SetMap ((w.setCell ⟨sb, 1, none⟩ (.map (some w.heap.size))).alloc (.map #[] 0)) w.heap.size 0 0 (fun _ _ => false) := by
    have := SetMap.made (w.setCell ⟨sb, 1, none⟩ (.map (some w.heap.size)))
    rwa [show (w.setCell ⟨sb, 1, none⟩ (.map (some w.heap.size))).heap.size = w.heap.size by simp [World.setCell]] at this
  have hz : (w.setCell ⟨sb, 1, none⟩ (.map (some w.heap.size))).heap.size = w.heap.size := by simp [World.setCell]
  have hs0 : ((w.setCell ⟨sb, 1, none⟩ (.map (some w.heap.size))).alloc (.map #[] 0)).heap[sb]? = some (.cells #[bv, .map (some w.heap.size)] 28 (0, 0)) := by
    rw [Below.heap_alloc _ _ _ (by rw [hz]; exact hsl)]
    simp [World.setCell, Array.getElem?_modify, hset]
  have hk0 : KeptBut (fun k => k = sb) w ((w.setCell ⟨sb, 1, none⟩ (.map (some w.heap.size))).alloc (.map #[] 0)) := (KeptBut.setCell (own := fun k => k = sb) (KeptBut.refl _ w) (p := ⟨sb, 1, none⟩) (fun _ => rfl) _).alloc _
  have hz1 : ((w.setCell ⟨sb, 1, none⟩ (.map (some w.heap.size))).alloc (.map #[] 0)).heap.size = w.heap.size + 1 := by simp [World.setCell]
  obtain ⟨W, hW⟩ : ∃ W, W = (w.setCell ⟨sb, 1, none⟩ (.map (some w.heap.size))).alloc (.map #[] 0) := ⟨_, rfl⟩
  rw [← hW] at hm0 hs0 hk0 hz1
  have hl : (Instr.lookup 26 (.map (some w.heap.size)) (.agg #[.int .i64 a, .int .i64 b]) true).run Try.prog W = .ok (.tuple #[.agg #[], .bool false]) W := hm0.look ha hb
  have c2 : (W.alloc (.cells #[] 57)).cell? ⟨sb, 1, none⟩ = some (.map (some w.heap.size)) := by
    rw [World.cell?_of_block (w := W) (Below.heap_alloc _ _ _ (by show sb < _; omega)), cells_cell hs0]; rfl
  obtain ⟨w1, hu, hm1, ht⟩ := (hm0.kept (w' := W.alloc (.cells #[] 57)) (Below.heap_alloc _ _ _ (by omega))).put (by unfold maxLen; omega) ha hb
  have hs1 : w1.heap[sb]? = some (.cells #[bv, .map (some w.heap.size)] 28 (0, 0)) := by
    rw [ht.grown.block sb (by simp; omega) (by simp; omega), Below.heap_alloc _ _ _ (by omega)]; exact hs0
  have hk1 : KeptBut (fun k => k = sb) w w1 := by
    have := (hk0.alloc (.cells #[] 57))
    refine ⟨ht.grown.os.trans this.os, ht.grown.tape.trans this.tape, ht.grown.output.trans this.output, Nat.le_trans this.size ht.grown.size, fun k hk ho => ?_⟩
    rw [ht.grown.block k (by have := this.size; omega) (by simp; omega)]
    exact this.block k hk ho
  unfold pv at hu
  have R : Hid (w1.heap[sb]? = some (.cells #[bv, .map (some w.heap.size)] 28 (0, 0)) ∧ SetMap w1 w.heap.size 1 1 (putS (fun _ _ => false) a b) ∧ KeptBut (fun k => k = sb) w w1) := ⟨hs1, hm1, hk1⟩
  clear hm0 hset hs0 hm1 ht hs1 hk1 hk0 ha hb
  subst hW
  go_enter Try.func36, Try.ntmps36
  go_wp2
  go_ret
  exact ⟨rfl, R.out⟩
end Go.Proofs.Qxb6601407a
