import Derived.Test.Qxb6601699aWalksA
import Derived.Test.Qxb6601699aGrow
import Derived.Deep.RegionLaw
namespace Go.Proofs.Qxb6601699a
open Go.RowKit
set_option linter.unusedVariables false

/-- The reader's cells. -/
def rdr (v : Value) (st : Int) : Array Value := #[.int .i64 0, .int .i64 0, .int .i64 0, v, .int .i64 st, .bool false, .int .i64 0, .int .i64 0, .int .i64 0, .int .i64 0, .slice none 0 0, .slice none 0 0]

/-- The reader at R holds the bytes hs (and those ahead of start) at the head of its buffer at G. -/
structure St (w0 : World) (base R G h cap : Nat) (st : Int) (hs : List Int) (w : World) : Prop where
  rd : w.heap[R]? = some (.cells (rdr (.slice (some ⟨G, 0, none⟩) h cap) st) 47 (0, 0))
  buf : ∃ zs, w.heap[G]? = some (.cells (byts (hs ++ zs)) 5 (0, 0)) ∧ hs.length + zs.length = cap
  len : hs.length = h
  baseR : base ≤ R
  baseG : base ≤ G
  ne : R ≠ G
  below : Below base w0 w

/-- What is read of a reader. -/
def Reads (w : World) (R G h cap : Nat) (st : Int) : Prop :=
  w.cell? ⟨R, 3, none⟩ = some (.slice (some ⟨G, 0, none⟩) h cap) ∧ w.cell? ⟨R, 4, none⟩ = some (.int .i64 st) ∧ w.frozen? ⟨R, 3, none⟩ = false ∧ w.frozen? ⟨R, 4, none⟩ = false ∧ h ≤ cap

theorem St.reads {w0 w : World} {base R G h cap : Nat} {st : Int} {hs : List Int} (hS : St w0 base R G h cap st hs w) : Reads w R G h cap st := by
  obtain ⟨zs, _, hz⟩ := hS.buf
  have := hS.len
  exact ⟨by rw [cells_cell hS.rd]; rfl, by rw [cells_cell hS.rd]; rfl, cells_frozen hS.rd, cells_frozen hS.rd, by omega⟩

theorem St.drewN {w0 w : World} {base R G h cap : Nat} {st : Int} {hs : List Int} (hS : St w0 base R G h cap st hs w) (n : Nat) : St w0 base R G h cap st hs (w.drewN n) :=
  ⟨hS.rd, hS.buf, hS.len, hS.baseR, hS.baseG, hS.ne, hS.below.trans ⟨rfl, rfl, rfl, Nat.le_refl _, fun _ _ => rfl⟩⟩

/-- Space moves the bytes to the front. -/
theorem splice_front (xs zs : List Int) (st : Nat) (h : st ≤ xs.length) : splice (xs ++ zs) 0 (xs.drop st) = xs.drop st ++ (xs ++ zs).drop (xs.length - st) := by
  simp [splice]

/-- copy as one step of a region that draws, the world behind it written out. -/
theorem step_copy_row {P : Program} {ops : Array Oper} {o : Oper} {a : Act} {w : World} {K : Act → World → Prop} {Q : Exit → Act → World → Prop} {E : Prop} (hgd : o.guard = none) (d s : Operand) (dT sT : TypeId)
    (ho : o.op = .call { callee := .builtin .copy, args := #[d, s], argTypes := #[dT, sT] }) (elem : TypeId) (hu : P.underlying dT = some (.slice elem)) (hsz : (P.info? elem).map (·.size) = some 1)
    (dp sp : Option Addr) (dLen dCap sLen sCap : Nat) (hd : a.eval d = .slice dp dLen dCap) (hs : a.eval s = .slice sp sLen sCap)
    (g off : Nat) (cur : List Value) (t : TypeId) (hg : w.heap[g]? = some (.cells cur.toArray t (0, 0))) (cs : List Value) (hn : cs.length = Nat.min sLen dLen)
    (hpos : 0 < cs.length → dp = some ⟨g, off, none⟩ ∧ ∃ ad, sp = some ad ∧ ∀ j v, cs[j]? = some v → w.cell? (ad.add j) = some v)
    (hfit : off + cs.length ≤ cur.length) (h1 : ∀ v ∈ cs, v.oneCell' = true)
    (h : K (a.put o.dst (goInt cs.length)) (w.setRow g (splice cur off cs).toArray)) :
    if Region.wanted o (yielded ops a.tmps) = true then Oper.wp P o a w K Q else E := by
  have hw : Region.wanted o (yielded ops a.tmps) = true := by simp [Region.wanted, hgd]
  rw [if_pos hw]
  by_cases h0 : cs.length = 0
  · obtain rfl : cs = [] := List.eq_nil_of_length_eq_zero h0
    have hrun := run_copy_none (P := P) w dT sT o.type elem dp sp dLen dCap sLen sCap hu hsz (by simpa using hn.symm)
    have e : w.setRow g (splice cur off []).toArray = w := by
      have : splice cur off [] = cur := by simp [splice]
      rw [this]; exact setRow_self w g _ t _ hg
    rw [e] at h
    unfold Oper.wp
    simp [execOp, ho, resolve, invoke, builtin, hd, hs, hrun, Result.andThen]
    exact h
  · obtain ⟨rfl, ad, rfl, hsrc⟩ := hpos (by omega)
    have hrun := run_copy_row (P := P) w dT sT o.type elem g off dLen dCap ad sLen sCap cur.toArray t cs hu hsz hg hn hsrc (by simpa using hfit) h1
    unfold Oper.wp
    simp [execOp, ho, resolve, invoke, builtin, hd, hs, hrun, Result.andThen]
    exact h

theorem St.moved {w0 w w1 : World} {base R G n cap st : Nat} {sv : Int} {xs zs : List Int} (h : St w0 base R G n cap sv xs w) (hst : st ≤ n) (hz : xs.length + zs.length = cap)
    (hG : w1.heap[G]? = some (.cells (splice ((xs ++ zs).map (Value.int .u8)) 0 ((xs.drop st).map (Value.int .u8))).toArray 5 (0, 0)))
    (hR : w1.heap[R]? = w.heap[R]?) (hb : Below base w0 w1) :
    St w0 base R G (n - st) cap 0 (xs.drop st) ((w1.setCell ⟨R, 3, none⟩ (.slice (some ⟨G, 0, none⟩) (n - st) cap)).setCell ⟨R, 4, none⟩ (.int .i64 0)) := by
  have hl := h.len
  rw [splice_map, splice_front xs zs st (by omega)] at hG
  rw [h.rd] at hR
  refine ⟨?_, ⟨(xs ++ zs).drop (xs.length - st), ?_, ?_⟩, ?_, h.baseR, h.baseG, h.ne, ?_⟩
  · rw [heap_setCell_same (heap_setCell_same hR _)]; rfl
  · rw [Below.heap_setCell _ _ _ _ (Ne.symm h.ne), Below.heap_setCell _ _ _ _ (Ne.symm h.ne)]; exact hG
  · simp; omega
  · simp; omega
  · exact (hb.setCell h.baseR _).setCell h.baseR _

theorem splice_step (L : List Int) (o : Nat) (y : Int) (ys : List Int) (h : o < L.length) : splice (L.set o y) (o + 1) ys = splice L o (y :: ys) := by
  have e1 : (L.set o y).take (o + 1) = L.take o ++ [y] := by
    rw [List.take_succ_eq_append_getElem (by simpa using h), List.take_set_of_le (Nat.le_refl _)]
    simp
  have e2 : (L.set o y).drop (o + 1 + ys.length) = L.drop (o + (y :: ys).length) := by
    rw [List.drop_set_of_lt (by omega)]; congr 1; simp; omega
  simp only [splice, e1, e2]
  simp

theorem setCells_same {t : TypeId} {b : Nat} : ∀ (ys L : List Int) (o : Nat) (w : World), w.heap[b]? = some (.cells (byts L) t (0, 0)) → o + ys.length ≤ L.length → (w.setCells b o (ys.map (Value.int .u8))).heap[b]? = some (.cells (byts (splice L o ys)) t (0, 0)) := by
  intro ys
  induction ys with
  | nil =>
    intro L o w h hl
    have : splice L o ([] : List Int) = L := by simp [splice]
    rw [this]; exact h
  | cons y r ih =>
    intro L o w h hl
    have h1 : (w.setCell ⟨b, o, none⟩ (.int .u8 y)).heap[b]? = some (.cells (byts (L.set o y)) t (0, 0)) := by rw [heap_setCell_same h, byts_set]
    have := ih (L.set o y) (o + 1) _ h1 (by simp at hl ⊢; omega)
    rw [splice_step L o y r (by simp at hl; omega)] at this
    exact this

theorem setCells_other {b k : Nat} (hk : k ≠ b) : ∀ (vs : List Value) (o : Nat) (w : World), (w.setCells b o vs).heap[k]? = w.heap[k]? := by
  intro vs
  induction vs with
  | nil => intro o w; rfl
  | cons v r ih =>
    intro o w
    exact (ih (o + 1) _).trans (Below.heap_setCell _ _ _ _ hk)

theorem setCells_below {B b : Nat} {w0 : World} (hb : B ≤ b) : ∀ (vs : List Value) (o : Nat) (w : World), Below B w0 w → Below B w0 (w.setCells b o vs) := by
  intro vs
  induction vs with
  | nil => intro o w h; exact h
  | cons v r ih =>
    intro o w h
    exact ih (o + 1) _ (h.setCell (p := ⟨b, o, none⟩) hb v)

/-- The reader gets another row. -/
theorem St.refit {w0 w W : World} {base R G h cap g cap' : Nat} {hs zs : List Int} (hS : St w0 base R G h cap 0 hs w) (hR : W.heap[R]? = w.heap[R]?)
    (hg : W.heap[g]? = some (.cells (byts (hs ++ zs)) 5 (0, 0))) (hl : hs.length + zs.length = cap') (hbg : base ≤ g) (hne : R ≠ g) (hb : Below base w0 W) :
    St w0 base R g h cap' 0 hs (W.setCell ⟨R, 3, none⟩ (.slice (some ⟨g, 0, none⟩) h cap')) := by
  rw [hS.rd] at hR
  refine ⟨?_, ⟨zs, ?_, hl⟩, hS.len, hS.baseR, hbg, hne, hb.setCell hS.baseR _⟩
  · rw [heap_setCell_same hR]; rfl
  · rw [Below.heap_setCell _ _ _ _ (Ne.symm hne)]; exact hg

theorem St.ltR {w0 w : World} {base R G h cap : Nat} {st : Int} {hs : List Int} (hS : St w0 base R G h cap st hs w) : R < w.heap.size := (Array.getElem?_eq_some_iff.1 hS.rd).1
theorem St.ltG {w0 w : World} {base R G h cap : Nat} {st : Int} {hs : List Int} (hS : St w0 base R G h cap st hs w) : G < w.heap.size := by
  obtain ⟨zs, h, _⟩ := hS.buf
  exact (Array.getElem?_eq_some_iff.1 h).1

theorem St.regrown {w0 w : World} {base R G h cap cap' : Nat} {hs zs : List Int} (hS : St w0 base R G h cap 0 hs w) (hl : hs.length + zs.length = cap') (hb : base ≤ w.heap.size) :
    St w0 base R w.heap.size h cap' 0 hs (((w.setCell ⟨R, 3, none⟩ (.slice (some ⟨w.heap.size, 0, none⟩) h cap')).alloc (.cells (byts (hs ++ zs)) 5)).drew.drew) := by
  have hz : (w.setCell ⟨R, 3, none⟩ (.slice (some ⟨w.heap.size, 0, none⟩) h cap')).heap.size = w.heap.size := by simp [World.setCell]
  have hR := hS.ltR
  refine ⟨?_, ⟨zs, ?_, hl⟩, hS.len, hS.baseR, hb, by omega, ?_⟩
  · show (World.alloc _ _).heap[R]? = _
    rw [Below.heap_alloc _ _ _ (by omega), heap_setCell_same hS.rd]; rfl
  · show (World.alloc _ _).heap[w.heap.size]? = _
    have := heap_alloc_new (w.setCell ⟨R, 3, none⟩ (.slice (some ⟨w.heap.size, 0, none⟩) h cap')) (.cells (byts (hs ++ zs)) 5)
    rw [hz] at this; exact this
  · exact (((hS.below.setCell hS.baseR _).alloc (by omega) _).drew).drew

theorem splice_zero (hs : List Int) (N h : Nat) (hl : hs.length = h) : splice (List.replicate N (0 : Int)) 0 hs = hs ++ List.replicate (N - h) 0 := by
  simp [splice, hl]

theorem heap_new (w : World) (o : Obj) : (w.alloc o).heap[w.heap.size]? = some o := heap_alloc_new w o
end Go.Proofs.Qxb6601699a
