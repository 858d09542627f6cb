import Derived.Test.Qxb6601699aSpace
namespace Go.Proofs.Qxb6601699a
open Go.RowKit
set_option linter.unusedVariables false

theorem new_any (v : Option Addr) (n c : Nat) (st : Int) (w : World) : Calls Try.prog 15 #[.slice v n c, .int .i64 st] w fun e w' => e = .returned (.pointer (some ⟨w.heap.size, 0, none⟩)) ∧ w' = w.alloc (.cells (rdr (.slice v n c) st) 47) := by
  go_enter Try.func15, Try.ntmps15
  go_wp2
  go_ret
  exact ⟨rfl, rfl⟩

theorem rbuf_any {w0 : World} {base R G h cap : Nat} {st : Int} {hs : List Int} (w : World) (hS : St w0 base R G h cap st hs w) : Calls Try.prog 17 #[.pointer (some ⟨R, 0, none⟩)] w fun e w' => e = .returned (.slice (some ⟨G, 0, none⟩) h cap) ∧ w' = w := by
  obtain ⟨c3, c4, f3, f4, hnc⟩ := hS.reads
  clear hS
  go_enter Try.func17, Try.ntmps17
  go_wp2
  go_ret
  exact ⟨rfl, rfl⟩

theorem rstart_any {w0 : World} {base R G h cap : Nat} {st : Int} {hs : List Int} (w : World) (hS : St w0 base R G h cap st hs w) : Calls Try.prog 18 #[.pointer (some ⟨R, 0, none⟩)] w fun e w' => e = .returned (.int .i64 st) ∧ w' = w := by
  obtain ⟨c3, c4, f3, f4, hnc⟩ := hS.reads
  clear hS
  go_enter Try.func18, Try.ntmps18
  go_wp2
  go_ret
  exact ⟨rfl, rfl⟩

theorem heldBR {w : World} {G : Nat} {hs zs : List Int} (h : w.heap[G]? = some (.cells (byts (hs ++ zs)) 5 (0, 0))) (hb : ∀ x ∈ hs, 0 ≤ x ∧ x ≤ 255) : BR w (some ⟨G, 0, none⟩) hs :=
  ⟨fun _ => ⟨G, 0, rfl, (Array.getElem?_eq_some_iff.1 h).1, fun i x hx => by
    rw [cells_cell h, byts_get, Nat.zero_add, List.getElem?_append_left (List.getElem?_eq_some_iff.1 hx).1, hx]; rfl⟩, hb⟩

/-- The tail of a row that can be read. -/
theorem BR.tail {w : World} {b off : Nat} {xs : List Int} (h : BR w (some ⟨b, off, none⟩) xs) (st : Nat) (hlt : st < xs.length) : BR w (some ⟨b, off + st, none⟩) (xs.drop st) := by
  obtain ⟨b', off', e, hb, hc⟩ := h.1 (by omega)
  simp at e
  obtain ⟨rfl, rfl⟩ := e
  refine ⟨fun _ => ⟨b, off + st, rfl, hb, fun i x hx => ?_⟩, fun x hx => h.2 x (List.mem_of_mem_drop hx)⟩
  rw [List.getElem?_drop] at hx
  rw [Nat.add_assoc]; exact hc _ x hx

/-- The reader as it is made. -/
theorem St.start {w1 w3 : World} {base G n cap : Nat} {st : Int} {xs zs : List Int} (hG : w3.heap[G]? = some (.cells (byts (xs ++ zs)) 5 (0, 0))) (hl : xs.length = n) (hz : xs.length + zs.length = cap) (hbG : base ≤ G) :
    St (w3.alloc (.cells (rdr (.slice (some ⟨G, 0, none⟩) n cap) st) 47)) base w3.heap.size G n cap st xs (w3.alloc (.cells (rdr (.slice (some ⟨G, 0, none⟩) n cap) st) 47)) := by
  have hlt : G < w3.heap.size := (Array.getElem?_eq_some_iff.1 hG).1
  refine ⟨heap_alloc_new _ _, ⟨zs, ?_, hz⟩, hl, by omega, hbG, by omega, Below.refl _ _⟩
  rw [Below.heap_alloc _ _ _ hlt]; exact hG

/-- The room is filled from its front. -/
def Fill (w0 : World) (base G h m : Nat) (hs : List Int) (w : World) : Prop := ∃ zs, w.heap[G]? = some (.cells (byts (hs ++ zs)) 5 (0, 0)) ∧ zs.length = m ∧ Below base w0 w

theorem Fill.cell {w0 w : World} {base G h m k : Nat} {hs : List Int} (hF : Fill w0 base G h m hs w) (hl : hs.length = h) (hk : k < m) : (∃ v, w.cell? ⟨G, h + k, none⟩ = some v) ∧ w.frozen? ⟨G, h + k, none⟩ = false := by
  obtain ⟨zs, hg, hz, _⟩ := hF
  refine ⟨?_, cells_frozen hg⟩
  rw [cells_cell hg, byts_get, List.getElem?_eq_getElem (by simp; omega)]
  exact ⟨_, rfl⟩

theorem Fill.put {w0 w : World} {base G h m k : Nat} {hs : List Int} (hF : Fill w0 base G h m hs w) (hl : hs.length = h) (hbG : base ≤ G) (x : Int) : Fill w0 base G h m hs (w.setCell ⟨G, h + k, none⟩ (.int .u8 x)) := by
  obtain ⟨zs, hg, hz, hb⟩ := hF
  refine ⟨zs.set k x, ?_, by simp [hz], hb.setCell hbG _⟩
  rw [heap_setCell_same hg, byts_set, List.set_append_right _ _ (by omega), hl, Nat.add_sub_cancel_left]
end Go.Proofs.Qxb6601699a
