import Derived.Test.Qxb6601407aPlain
import Derived.Test.Qxb6601407aDoms
namespace Go.Proofs.Qxb6601407a
open Go.RowKit
set_option linter.unusedVariables false

/-- What the map of a pairSet holds of T. -/
def MapIs (w : World) (base n : Nat) (mo : Option Nat) (S : Int → Int → Bool) : Prop :=
  (mo = none ∧ ∀ a b, 64 ≤ b → S a b = false) ∨ ∃ mb sz T, mo = some mb ∧ base ≤ mb ∧ SetMap w mb n sz T ∧ ∀ a b, 64 ≤ b → S a b = T a b

def bitS (rows : List (List Int)) (a b : Int) : Bool := (wordOf rows b.toNat (a / 64).toNat).toNat.testBit (a % 64).toNat

/-- THE pairSet IN BLOCK sb HOLDS JUST THE PAIRS OF S (of those that the laws speak of). -/
def PSt (w : World) (base sb n : Nat) (S : Int → Int → Bool) : Prop :=
  ∃ bv vs rows mo, w.heap[sb]? = some (.cells #[bv, .map mo] 28 (0, 0)) ∧ Bits w base sb bv vs rows ∧ Words rows ∧ rows.length ≤ 64 ∧ base ≤ w.heap.size ∧
    (∀ a b, 0 ≤ b → b < 64 → 0 ≤ a → S a b = bitS rows a b) ∧ MapIs w base n mo S

/-- What 'add' may turn. -/
def ownS (w : World) (base sb : Nat) (k : Nat) : Prop := k = sb ∨ (base ≤ k ∧ ∀ cur fz, w.heap[k]? ≠ some (.cells cur 30 fz))

theorem Bits.kept {w w' : World} {base sb : Nat} {bv : Value} {vs : List Value} {R : List (List Int)} (h : Bits w base sb bv vs R) (hk : ∀ k, k < w.heap.size → base ≤ k → (∃ cur t, w.heap[k]? = some (.cells cur t (0, 0)) ∧ (t = 55 ∨ t = 58)) → w'.heap[k]? = w.heap[k]?) : Bits w' base sb bv vs R := by
  refine ⟨own_kept h.own (fun g hg => ?_), fun i v xs hv hx => (h.row i v xs hv hx).kept (fun g hg => ?_), h.apart⟩
  · obtain ⟨h1, cur, h2⟩ := own_block h.own hg
    exact hk g (Array.getElem?_eq_some_iff.1 h2).1 h1 ⟨cur, 55, h2, .inl rfl⟩
  · have := (h.row i v xs hv hx).block hg
    exact hk g (Array.getElem?_eq_some_iff.1 this.2).1 this.1 ⟨_, 58, this.2, .inr rfl⟩

theorem MapIs.kept {w w' : World} {base n : Nat} {mo : Option Nat} {S : Int → Int → Bool} (h : MapIs w base n mo S) (hk : ∀ k, k < w.heap.size → base ≤ k → (∃ es cl, w.heap[k]? = some (.map es cl)) → w'.heap[k]? = w.heap[k]?) : MapIs w' base n mo S := by
  rcases h with h | ⟨mb, sz, T, h1, h2, h3, h4⟩
  · exact .inl h
  · obtain ⟨es, cl, hb⟩ := h3.block
    exact .inr ⟨mb, sz, T, h1, h2, h3.kept (hk mb (Array.getElem?_eq_some_iff.1 hb).1 h2 ⟨es, cl, hb⟩), h4⟩

theorem MapIs.mono {w : World} {base n n' : Nat} {mo : Option Nat} {S S' : Int → Int → Bool} (h : MapIs w base n mo S) (hn : n ≤ n') (hS : ∀ a b, 64 ≤ b → S' a b = S a b) : MapIs w base n' mo S' := by
  rcases h with h | ⟨mb, sz, T, h1, h2, ⟨D, h3, h3'⟩, h4⟩
  · exact .inl ⟨h.1, fun a b hb => by rw [hS a b hb, h.2 a b hb]⟩
  · exact .inr ⟨mb, sz, T, h1, h2, ⟨D, h3.mono hn, h3'⟩, fun a b hb => by rw [hS a b hb, h4 a b hb]⟩

theorem PSt.kept {w w' : World} {base sb n : Nat} {S : Int → Int → Bool} (h : PSt w base sb n S) (hz : w.heap.size ≤ w'.heap.size) (hk : ∀ k, k < w.heap.size → k = sb ∨ base ≤ k → w'.heap[k]? = w.heap[k]?) : PSt w' base sb n S := by
  obtain ⟨bv, vs, rows, mo, h1, h2, h3, h4, h5, h6, h7⟩ := h
  exact ⟨bv, vs, rows, mo, (hk sb (Array.getElem?_eq_some_iff.1 h1).1 (.inl rfl)).trans h1, h2.kept (fun k hl hb _ => hk k hl (.inr hb)), h3, h4, by omega, h6, h7.kept (fun k hl hb _ => hk k hl (.inr hb))⟩

theorem add_any (base sb n : Nat) (S : Int → Int → Bool) (a b : Int) (w : World) (hd : domB a b = true) (ha : okI a) (hb : okI b) (h : PSt w base sb n S) (hn : n < maxLen) :
    Calls Try.prog 36 #[.pointer (some ⟨sb, 0, none⟩), .int .i64 a, .int .i64 b] w fun e w' => e = .returned (.bool (S a b)) ∧ PSt w' base sb (n + 1) (putS S a b) ∧ KeptBut (ownS w base sb) w w' := by
  obtain ⟨bv, vs, rows, mo, h1, h2, h3, h4, h5, h6, h7⟩ := h
  obtain ⟨hb0, hda⟩ := (domB_iff a b).1 hd
  have hsl : sb < w.heap.size := (Array.getElem?_eq_some_iff.1 h1).1
  by_cases h64 : b < 64
  · obtain ⟨ha0, ha4⟩ := hda h64
    obtain ⟨bn, rfl⟩ : ∃ bn : Nat, b = bn := ⟨b.toNat, by omega⟩
    obtain ⟨wd, hwd⟩ : ∃ wd : Nat, a / 64 = wd := ⟨(a / 64).toNat, by omega⟩
    have hr : (a % 64).toNat < 64 := by omega
    have hbt := wrap_bit (a % 64).toNat hr
    refine (add_bits base sb mo bv vs rows a bn wd _ w (by omega) hwd hbt ha0 ha4 h1 h2 (by omega) h5).mono ?_
    rintro e w' ⟨held, bv', vs', rows', rfl, hadd, g1, g2, g3, g4⟩
    obtain ⟨p1, p2, p3, p4⟩ := addRows_spec h3 hr hadd
    have hwd' : (a / 64).toNat = wd := by omega
    refine ⟨?_, ⟨bv', vs', rows', mo, g1, g2, p2, by omega, g4, ?_, ?_⟩, ?_⟩
    · rw [h6 a bn hb0 h64 ha0, p1]; unfold bitS; rw [hwd']; rfl
    · intro x y hy0 hy hx0
      unfold putS
      rw [h6 x y hy0 hy hx0]
      unfold bitS
      rw [p3]
      congr 1
      rw [Bool.eq_iff_iff]
      simp only [Bool.and_eq_true, decide_eq_true_eq]
      omega
    · refine MapIs.mono (MapIs.kept h7 (fun k hk hbk hm => g3.block k hk ?_)) (Nat.le_succ n) (fun x y hy => ?_)
      · obtain ⟨es, cl, hm⟩ := hm
        rintro (rfl | ⟨_, cur, t, hc, _⟩)
        · rw [hm] at h1; cases h1
        · rw [hm] at hc; cases hc
      · unfold putS
        have : (decide (x = a) && decide (y = (bn : Int))) = false := by simp; omega
        rw [this]; simp
    · refine g3.mono (fun k hk ho => ?_)
      rcases ho with ho | ⟨o1, cur, t, o2, o3⟩
      · exact .inl ho
      · refine .inr ⟨o1, fun cur' fz e => ?_⟩
        rw [o2] at e
        simp at e
        rcases o3 with rfl | rfl <;> simp at e
  · have h64' : 64 ≤ b := by omega
    have hbit : ∀ x y : Int, y < 64 → (decide (x = a) && decide (y = b)) = false := fun x y hy => by simp; omega
    rcases h7 with ⟨rfl, hS⟩ | ⟨mb, sz, T, rfl, hmb, hm, hT⟩
    · refine (add_map_none sb bv a b w h64' ha hb h1).mono ?_
      rintro e w' ⟨rfl, g1, g2, g3⟩
      refine ⟨by rw [hS a b h64'], ⟨bv, vs, rows, _, g1, h2.kept (fun k hk hbk hc => g3.block k hk ?_), h3, h4, Nat.le_trans h5 g3.size, ?_, ?_⟩, ?_⟩
      · rintro rfl
        obtain ⟨cur, t, hc, ht⟩ := hc
        rw [hc] at h1
        rcases ht with rfl | rfl <;> simp at h1
      · intro x y hy0 hy hx0
        unfold putS
        rw [h6 x y hy0 hy hx0, hbit x y hy]; simp
      · obtain ⟨D, g2a, g2b⟩ := g2
        refine .inr ⟨_, 1, _, rfl, h5, ⟨D, g2a.mono (by omega), g2b⟩, fun x y hy => ?_⟩
        unfold putS
        rw [hS x y hy]
      · exact g3.mono (fun k hk ho => .inl ho)
    · refine (add_map_some sb mb n sz bv T a b w h64' ha hb h1 hm hn).mono ?_
      rintro e w' ⟨rfl, g1, g2, g3⟩
      obtain ⟨es, cl, hmbk⟩ := hm.block
      refine ⟨by rw [hT a b h64'], ⟨bv, vs, rows, _, g1, h2.kept (fun k hk hbk hc => g3.block k hk ?_), h3, h4, Nat.le_trans h5 g3.size, ?_, ?_⟩, ?_⟩
      · rintro rfl
        obtain ⟨cur, t, hc, _⟩ := hc
        rw [hmbk] at hc; cases hc
      · intro x y hy0 hy hx0
        unfold putS
        rw [h6 x y hy0 hy hx0, hbit x y hy]; simp
      · refine .inr ⟨mb, _, _, rfl, hmb, g2, fun x y hy => ?_⟩
        unfold putS
        rw [hT x y hy]
      · refine g3.mono (fun k hk ho => .inr ⟨by rw [ho]; exact hmb, fun cur fz e => ?_⟩)
        rw [ho, hmbk] at e; cases e

theorem zadd_any (base sb n : Nat) (S : Int → Int → Bool) (a b : Int) (w : World) (hd : domB a b = true) (ha : okI a) (hb : okI b) (h : PSt w base sb n S) (hn : n < maxLen) :
    Calls Try.prog 13 #[.pointer (some ⟨sb, 0, none⟩), .int .i64 a, .int .i64 b] w fun e w' => e = .returned (.bool (S a b)) ∧ PSt w' base sb (n + 1) (putS S a b) ∧ KeptBut (ownS w base sb) w w' := by
  have H := hide (add_any base sb n S a b w hd ha hb h hn)
  clear hd ha hb h hn
  go_enter Try.func13, Try.ntmps13
  go_wp2_with fail
  refine (H.out).mono ?_
  rintro e w' ⟨rfl, h1, h2⟩
  go_wp2
  go_ret
  exact ⟨rfl, h1, h2⟩
end Go.Proofs.Qxb6601407a
