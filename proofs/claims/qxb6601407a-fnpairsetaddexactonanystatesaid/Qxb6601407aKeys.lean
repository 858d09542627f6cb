import Derived.Test.Qxb6601407aRows
import Derived.WalkKit
import Derived.DeepKeys4
import Derived.Maps.OwnSet
namespace Go.Proofs.Qxb6601407a
open Go.RowKit Go.Maps
set_option linter.unusedVariables false

theorem Try.laidOut : laidOutB Try.prog = true := by kernel_rfl
theorem Try.row30 : (30 : TypeId) < Try.prog.types.size := of_decide_eq_true (by kernel_rfl)
theorem Try.cells30 : Try.prog.cellsOf 30 = 2 := by kernel_rfl
theorem Try.cells3 : Try.prog.cellsOf 3 = 1 := by kernel_rfl
theorem Try.wide30 : (match Try.prog.underlying 30 with | some (.array _ _) | some (.struct _) => true | _ => false) = true := by rw [Try.underlying30]
theorem Try.keyType30 : Try.prog.keyType 30 = true := by kernel_rfl
theorem Try.law30 : Keyed Try.prog 30 := Keyed.of_law (deep_law_laid Try.laidOut (m := 2) (by omega) Try.row30 (by kernel_rfl) Try.wide30)
theorem Try.types2 : ∃ m, Try.prog.types.size = m + 1 := ⟨Try.prog.types.size - 1, by have h : (30 : Nat) < Try.prog.types.size := Try.row30; omega⟩

/-- A pair as a value. -/
def pv (a b : Int) : Value := .agg #[.int .i64 a, .int .i64 b]

def okI (a : Int) : Prop := (Lit.int .i64 a).wf = true

theorem key_ok {a b : Int} (ha : okI a) (hb : okI b) : ∃ l, keyOf Try.prog 30 (pv a b) = some l := by
  obtain ⟨m, hm⟩ := Try.types2
  unfold okI at ha hb
  refine ⟨.string (keyBytes [.int .i64 a, .int .i64 b]), ?_⟩
  unfold keyOf pv
  have hf : (Value.agg #[.int .i64 a, .int .i64 b]).formed Try.prog 30 = true := by simp [Value.formed, Try.underlying30, Try.cells30]
  simp only [Try.underlying30, Try.keyType30, hf, Bool.and_self, if_true]
  rw [hm]
  simp [Program.keyLits, Try.underlying30, Try.underlying3, Try.cells30, Try.cells3, Value.cells, ha, hb, List.range_succ]

theorem key_inj {a b c d : Int} {l : Lit} (h1 : keyOf Try.prog 30 (pv a b) = some l) (h2 : keyOf Try.prog 30 (pv c d) = some l) : a = c ∧ b = d := by
  have := Try.law30.inj h1 h2
  simpa [pv] using this

/-- A SET OF PAIRS IN A MAP: block mb is a map[[2]int]struct{} of sz entries (at most n) that holds just the pairs of S. -/
def SetMap (w : World) (mb n sz : Nat) (S : Int → Int → Bool) : Prop :=
  ∃ D : DataW Unit, w.ownsMap Try.prog 30 unitElem mb n D ∧ Maps.size D = sz ∧ ∀ a b l, keyOf Try.prog 30 (pv a b) = some l → Maps.has D l = S a b

def putS (S : Int → Int → Bool) (a b : Int) : Int → Int → Bool := fun x y => S x y || (decide (x = a) && decide (y = b))

theorem Try.zero57 (w : World) : (zeroValue 57).run Try.prog w = .ok (.agg #[]) w := by kernel_rfl

theorem SetMap.made (w : World) : SetMap (w.alloc (.map #[] 0)) w.heap.size 0 0 (fun _ _ => false) :=
  ⟨_, World.ownsMap_made w _ _ _, rfl, fun a b l _ => rfl⟩

theorem SetMap.look {w : World} {mb n sz : Nat} {S : Int → Int → Bool} (h : SetMap w mb n sz S) {a b : Int} (ha : okI a) (hb : okI b) :
    (Instr.lookup 26 (.map (some mb)) (pv a b) true).run Try.prog w = .ok (.tuple #[.agg #[], .bool (S a b)]) w := by
  obtain ⟨D, h1, h2, h3⟩ := h
  obtain ⟨l, hl⟩ := key_ok ha hb
  obtain ⟨v, ps, hr, hv⟩ := h1.look_ok Try.law30 Try.underlying26 (Try.zero57 w) unitElem_mk hl
  obtain ⟨rfl, _⟩ := unitElem_inv hv
  rw [hr, h3 a b l hl]

theorem SetMap.put {w : World} {mb n sz : Nat} {S : Int → Int → Bool} (h : SetMap w mb n sz S) (hn : n < maxLen) {a b : Int} (ha : okI a) (hb : okI b) :
    ∃ w', (Instr.mapUpdate 26 (.map (some mb)) (pv a b) (.agg #[])).run Try.prog w = .ok () w' ∧ SetMap w' mb (n + 1) (if S a b then sz else sz + 1) (putS S a b) ∧ w.mapTurned w' mb := by
  obtain ⟨D, h1, h2, h3⟩ := h
  obtain ⟨l, hl⟩ := key_ok ha hb
  obtain ⟨w', hr, ho, ht⟩ := h1.store Try.law30 Try.underlying26 hn hl unitElem_mk
  have tidy := h1.tidy Try.law30
  refine ⟨w', hr, ⟨_, ho, ?_, ?_⟩, ht⟩
  · rw [size_put tidy, h3 a b l hl, h2]
  · intro x y l' hl'
    unfold putS
    by_cases he : x = a ∧ y = b
    · obtain ⟨rfl, rfl⟩ := he
      rw [hl] at hl'
      cases hl'
      rw [has_put_same h1.isMap (Try.law30.key hl)]
      simp
    · have hne : l' ≠ l := fun e => he (by subst e; exact key_inj hl' hl)
      rw [has_put_other hne, h3 x y l' hl']
      have : (decide (x = a) && decide (y = b)) = false := by simpa using he
      rw [this]; simp

theorem SetMap.kept {w w' : World} {mb n sz : Nat} {S : Int → Int → Bool} (h : SetMap w mb n sz S) (hk : w'.heap[mb]? = w.heap[mb]?) : SetMap w' mb n sz S := by
  obtain ⟨D, ⟨es, cl, hb, r⟩, h2⟩ := h
  exact ⟨D, ⟨es, cl, hk.trans hb, r⟩, h2⟩

theorem SetMap.block {w : World} {mb n sz : Nat} {S : Int → Int → Bool} (h : SetMap w mb n sz S) : ∃ es cl, w.heap[mb]? = some (.map es cl) := by
  obtain ⟨D, ⟨es, cl, hb, r⟩, h2⟩ := h
  exact ⟨es, cl, hb⟩

theorem SetMap.len {w : World} {mb n sz : Nat} {S : Int → Int → Bool} (h : SetMap w mb n sz S) (ty : TypeId) : (Builtin.len_ #[26] ty #[.map (some mb)]).run Try.prog w = .ok (.int .i64 sz) w := by
  obtain ⟨D, h1, h2, h3⟩ := h
  rw [h1.len Try.underlying26, h2]

/-- THE OTHER KIND OF SET: a map[[2]int]bool in which only 'true' was stored. -/
def SeenMap (w : World) (mb n : Nat) (S : Int → Int → Bool) : Prop :=
  ∃ D : DataW Unit, w.ownsMap Try.prog 30 (plainElem Try.prog 4) mb n D ∧ ∀ a b l, keyOf Try.prog 30 (pv a b) = some l → D.atKey l (.lit (.bool false)) = .lit (.bool (S a b))

theorem Try.zero4 (w : World) : (zeroValue 4).run Try.prog w = .ok (.bool false) w := by kernel_rfl

theorem plainElem_bool_inv {H : Type} {P : Program} {e : TypeId} (he : P.underlying e = some .bool) {v : Value} {z : DataW H × List MemPlace} (h : plainElem P e v = some z) : ∃ x, v = .bool x ∧ z = (.lit (.bool x), []) := by
  unfold plainElem at h
  rw [he] at h
  cases v <;> simp at h
  exact ⟨_, rfl, h.symm⟩

theorem SeenMap.made (w : World) : SeenMap (w.alloc (.map #[] 0)) w.heap.size 0 (fun _ _ => false) :=
  ⟨_, World.ownsMap_made w _ _ _, fun a b l _ => rfl⟩

theorem SeenMap.look {w : World} {mb n : Nat} {S : Int → Int → Bool} (h : SeenMap w mb n S) {a b : Int} (ha : okI a) (hb : okI b) :
    (Instr.lookup 29 (.map (some mb)) (pv a b) false).run Try.prog w = .ok (.bool (S a b)) w := by
  obtain ⟨D, h1, h3⟩ := h
  obtain ⟨l, hl⟩ := key_ok ha hb
  obtain ⟨v, ps, hr, hv⟩ := h1.lookup Try.law30 Try.underlying29 (Try.zero4 w) (plainElem_bool Try.underlying4 false) hl
  obtain ⟨x, rfl, hx⟩ := plainElem_bool_inv Try.underlying4 hv
  rw [h3 a b l hl] at hx
  simp at hx
  rw [hr, hx.1]

theorem SeenMap.put {w : World} {mb n : Nat} {S : Int → Int → Bool} (h : SeenMap w mb n S) (hn : n < maxLen) {a b : Int} (ha : okI a) (hb : okI b) :
    ∃ w', (Instr.mapUpdate 29 (.map (some mb)) (pv a b) (.bool true)).run Try.prog w = .ok () w' ∧ SeenMap w' mb (n + 1) (putS S a b) ∧ w.mapTurned w' mb := by
  obtain ⟨D, h1, h3⟩ := h
  obtain ⟨l, hl⟩ := key_ok ha hb
  obtain ⟨w', hr, ho, ht⟩ := h1.store Try.law30 Try.underlying29 hn hl (plainElem_bool Try.underlying4 true)
  refine ⟨w', hr, ⟨_, ho, ?_⟩, ht⟩
  intro x y l' hl'
  unfold putS
  by_cases he : x = a ∧ y = b
  · obtain ⟨rfl, rfl⟩ := he
    rw [hl] at hl'
    cases hl'
    rw [atKey_put_same h1.isMap (Try.law30.key hl)]
    simp
  · have hne : l' ≠ l := fun e => he (by subst e; exact key_inj hl' hl)
    rw [atKey_put_other hne, h3 x y l' hl']
    have : (decide (x = a) && decide (y = b)) = false := by simpa using he
    rw [this]; simp

theorem SeenMap.kept {w w' : World} {mb n : Nat} {S : Int → Int → Bool} (h : SeenMap w mb n S) (hk : w'.heap[mb]? = w.heap[mb]?) : SeenMap w' mb n S := by
  obtain ⟨D, ⟨es, cl, hb, r⟩, h2⟩ := h
  exact ⟨D, ⟨es, cl, hk.trans hb, r⟩, h2⟩
theorem SeenMap.block {w : World} {mb n : Nat} {S : Int → Int → Bool} (h : SeenMap w mb n S) : ∃ es cl, w.heap[mb]? = some (.map es cl) := by
  obtain ⟨D, ⟨es, cl, hb, r⟩, h2⟩ := h
  exact ⟨es, cl, hb⟩
end Go.Proofs.Qxb6601407a
