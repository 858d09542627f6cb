import Derived.Lib.Strings
namespace Go.Proofs.Qxb6601490a.Plain

def B1 : List UInt8 := [10, 9, 9, 87, 73, 84, 72, 32, 110, 101, 119, 108, 121, 95, 101, 110, 100, 101, 100, 32, 65, 83, 32, 40, 10, 9, 9, 9, 85, 80, 68, 65, 84, 69, 32, 115, 101, 115, 115, 105, 111, 110, 115, 32, 83, 69, 84, 32, 101, 110, 100, 101, 100, 95, 97, 116, 32, 61, 32, 110, 111, 119, 40, 41, 10, 9, 9, 9, 87, 72, 69, 82, 69, 32, 40]
def B2 : List UInt8 := [41, 32, 65, 78, 68, 32, 101, 110, 100, 101, 100, 95, 97, 116, 32, 73, 83, 32, 78, 85, 76, 76, 10, 9, 9, 9, 82, 69, 84, 85, 82, 78, 73, 78, 71, 32, 105, 100, 44, 32, 97, 99, 99, 101, 115, 115, 95, 101, 120, 112, 105, 114, 101, 115, 95, 97, 116, 44, 10, 9, 9, 9, 9, 112, 103, 95, 110, 111, 116, 105, 102, 121, 40, 39]
def B3 : List UInt8 := [108, 97, 116, 99, 104, 107, 101, 121, 95, 115, 101, 115, 115, 105, 111, 110, 95, 101, 110, 100, 101, 100]
def B4 : List UInt8 := [39, 44, 32, 105, 100, 58, 58, 116, 101, 120, 116, 32, 124, 124, 32, 39, 32, 39, 32, 124, 124, 32, 99, 101, 105, 108, 40, 101, 120, 116, 114, 97, 99, 116, 40, 101, 112, 111, 99, 104, 32, 70, 82, 79, 77, 32, 97, 99, 99, 101, 115, 115, 95, 101, 120, 112, 105, 114, 101, 115, 95, 97, 116, 41, 41, 58, 58, 98, 105, 103, 105, 110, 116, 41, 10, 9, 9, 41]
def P1 : ByteArray := ⟨#[10, 9, 9, 87, 73, 84, 72, 32, 110, 101, 119, 108, 121, 95, 101, 110, 100, 101, 100, 32, 65, 83, 32, 40, 10, 9, 9, 9, 85, 80, 68, 65, 84, 69, 32, 115, 101, 115, 115, 105, 111, 110, 115, 32, 83, 69, 84, 32, 101, 110, 100, 101, 100, 95, 97, 116, 32, 61, 32, 110, 111, 119, 40, 41, 10, 9, 9, 9, 87, 72, 69, 82, 69, 32, 40]⟩
def P2 : ByteArray := ⟨#[41, 32, 65, 78, 68, 32, 101, 110, 100, 101, 100, 95, 97, 116, 32, 73, 83, 32, 78, 85, 76, 76, 10, 9, 9, 9, 82, 69, 84, 85, 82, 78, 73, 78, 71, 32, 105, 100, 44, 32, 97, 99, 99, 101, 115, 115, 95, 101, 120, 112, 105, 114, 101, 115, 95, 97, 116, 44, 10, 9, 9, 9, 9, 112, 103, 95, 110, 111, 116, 105, 102, 121, 40, 39]⟩
def P3 : ByteArray := ⟨#[108, 97, 116, 99, 104, 107, 101, 121, 95, 115, 101, 115, 115, 105, 111, 110, 95, 101, 110, 100, 101, 100]⟩
def P4 : ByteArray := ⟨#[39, 44, 32, 105, 100, 58, 58, 116, 101, 120, 116, 32, 124, 124, 32, 39, 32, 39, 32, 124, 124, 32, 99, 101, 105, 108, 40, 101, 120, 116, 114, 97, 99, 116, 40, 101, 112, 111, 99, 104, 32, 70, 82, 79, 77, 32, 97, 99, 99, 101, 115, 115, 95, 101, 120, 112, 105, 114, 101, 115, 95, 97, 116, 41, 41, 58, 58, 98, 105, 103, 105, 110, 116, 41, 10, 9, 9, 41]⟩
def es (s : ByteArray) : ByteArray := P1 ++ s ++ P2 ++ P3 ++ P4
def R : ByteArray := ⟨#[41, 32, 65, 78, 68, 32, 101, 110, 100, 101, 100, 95, 97, 116, 32, 73, 83, 32, 78, 85, 76, 76, 10, 9, 9, 9, 82, 69, 84, 85, 82, 78, 73, 78, 71, 32, 105, 100, 44, 32, 97, 99, 99, 101, 115, 115, 95, 101, 120, 112, 105, 114, 101, 115, 95, 97, 116, 44, 10, 9, 9, 9, 9, 112, 103, 95, 110, 111, 116, 105, 102, 121, 40, 39, 108, 97, 116, 99, 104, 107, 101, 121, 95, 115, 101, 115, 115, 105, 111, 110, 95, 101, 110, 100, 101, 100, 39, 44, 32, 105, 100, 58, 58, 116, 101, 120, 116, 32, 124, 124, 32, 39, 32, 39, 32, 124, 124, 32, 99, 101, 105, 108, 40, 101, 120, 116, 114, 97, 99, 116, 40, 101, 112, 111, 99, 104, 32, 70, 82, 79, 77, 32, 97, 99, 99, 101, 115, 115, 95, 101, 120, 112, 105, 114, 101, 115, 95, 97, 116, 41, 41, 58, 58, 98, 105, 103, 105, 110, 116, 41, 10, 9, 9, 41]⟩
def Q : ByteArray := ⟨#[10, 9, 9, 87, 73, 84, 72, 32, 110, 101, 119, 108, 121, 95, 101, 110, 100, 101, 100, 32, 65, 83, 32, 40, 10, 9, 9, 9, 85, 80, 68, 65, 84, 69, 32, 115, 101, 115, 115, 105, 111, 110, 115, 32, 83, 69, 84, 32, 101, 110, 100, 101, 100, 95, 97, 116, 32, 61, 32, 110, 111, 119, 40, 41, 10, 9, 9, 9]⟩

theorem ba_ext {a b : ByteArray} (h : a.data.toList = b.data.toList) : a = b := by
  cases a; cases b; simp at h; simp [h]

theorem es_data (s : ByteArray) : (es s).data.toList = B1 ++ s.data.toList ++ (B2 ++ B3 ++ B4) := by
  have h1 : P1.data.toList = B1 := rfl
  have h2 : P2.data.toList = B2 := rfl
  have h3 : P3.data.toList = B3 := rfl
  have h4 : P4.data.toList = B4 := rfl
  unfold es
  simp only [ByteArray.data_append, Array.toList_append, h1, h2, h3, h4, List.append_assoc]
theorem len1 : B1.length = 75 := rfl
theorem len2 : (B2 ++ B3 ++ B4).length = 174 := by decide +kernel
theorem es_size (s : ByteArray) : (es s).size = s.size + 249 := by
  have h := congrArg List.length (es_data s)
  rw [List.length_append, List.length_append, len1, len2, ← Lib.size_eq, ← Lib.size_eq] at h
  omega

theorem es_eq (a b : ByteArray) : ((es a).toList == (es b).toList) = (a.toList == b.toList) := by
  rw [Lib.toList_data, Lib.toList_data, Lib.toList_data, Lib.toList_data, es_data, es_data, Bool.eq_iff_iff]
  simp only [beq_iff_eq]
  constructor
  · intro h
    have h := List.append_cancel_right h
    exact List.append_cancel_left h
  · intro h; rw [h]

/-! the index of a piece -/
def idxL (sub : List UInt8) : List UInt8 → Nat → Int
  | [], i => if sub.isPrefixOf [] then i else -1
  | x :: r, i => if sub.isPrefixOf (x :: r) then i else idxL sub r (i + 1)

theorem pre_iff (sub l : List UInt8) : sub.isPrefixOf l = (decide (sub.length ≤ l.length) && (l.take sub.length == sub)) := by
  rw [Bool.eq_iff_iff, List.isPrefixOf_iff_prefix]
  constructor
  · rintro ⟨t, rfl⟩; simp
  · intro h
    simp only [Bool.and_eq_true, decide_eq_true_eq, beq_iff_eq] at h
    exact ⟨l.drop sub.length, by conv => lhs; lhs; rw [← h.2]
                                 exact List.take_append_drop _ _⟩

theorem idxL_hit (sub l : List UInt8) (i : Nat) (h : sub.isPrefixOf l = true) : idxL sub l i = i := by
  cases l <;> simp [idxL, h]

theorem hit (s t : ByteArray) (k : Nat) (h1 : k + t.size ≤ s.size) (h2 : ((s.extract k (k + t.size)).toList == t.toList) = true) : idxL t.data.toList (s.data.toList.drop k) k = k := by
  apply idxL_hit
  rw [pre_iff]
  rw [Lib.extract_toList, Lib.toList_data] at h2
  rw [Lib.size_eq, Lib.size_eq] at h1
  rw [show k + t.size - k = t.data.toList.length by rw [Lib.size_eq]; omega] at h2
  simp only [Bool.and_eq_true, decide_eq_true_eq, List.length_drop]
  exact ⟨by omega, h2⟩

theorem miss (s t : ByteArray) (k : Nat) (h1 : k + t.size ≤ s.size) (h2 : ((s.extract k (k + t.size)).toList == t.toList) = false) : idxL t.data.toList (s.data.toList.drop k) k = idxL t.data.toList (s.data.toList.drop (k + 1)) (k + 1) ∧ k < s.size := by
  rw [Lib.extract_toList, Lib.toList_data] at h2
  rw [show k + t.size - k = t.data.toList.length by rw [Lib.size_eq]; omega] at h2
  have hf : t.data.toList.isPrefixOf (s.data.toList.drop k) = false := by rw [pre_iff, h2, Bool.and_false]
  have hk : k < s.size := by
    by_cases h : k < s.size
    · exact h
    · have ht : t.size = 0 := by omega
      rw [Lib.size_eq] at ht
      have ht : t.data.toList = [] := List.length_eq_zero_iff.1 ht
      rw [ht] at h2; simp at h2
  refine ⟨?_, hk⟩
  rw [Lib.size_eq] at hk
  rw [List.drop_eq_getElem_cons hk] at hf ⊢
  rw [idxL, if_neg (by rw [hf]; simp)]

theorem idxL_short (sub : List UInt8) : ∀ (l : List UInt8) (i : Nat), l.length < sub.length → idxL sub l i = -1 := by
  have hp : ∀ l : List UInt8, l.length < sub.length → ¬ sub.isPrefixOf l = true := by
    intro l h hp
    rw [List.isPrefixOf_iff_prefix] at hp
    have := hp.length_le
    omega
  intro l
  induction l with
  | nil => intro i h; rw [idxL, if_neg (hp _ h)]
  | cons x r ih =>
    intro i h
    rw [idxL, if_neg (hp _ h)]
    exact ih _ (by rw [List.length_cons] at h; omega)
theorem out (s t : ByteArray) (k : Nat) (hk : k ≤ s.size) (h1 : s.size < k + t.size) : idxL t.data.toList (s.data.toList.drop k) k = -1 := by
  rw [Lib.size_eq, Lib.size_eq] at h1
  rw [Lib.size_eq] at hk
  exact idxL_short _ _ _ (by rw [List.length_drop]; omega)

theorem pre_app (sub l r : List UInt8) (h : sub.length ≤ l.length) : sub.isPrefixOf (l ++ r) = sub.isPrefixOf l := by
  rw [pre_iff, pre_iff, List.take_append_of_le_length h]
  simp [h]; intro _; omega

theorem idxL_app (sub p r : List UInt8) (i : Nat) (h : idxL sub (p ++ sub) i = i + p.length) : idxL sub (p ++ sub ++ r) i = i + p.length := by
  induction p generalizing i with
  | nil => simp only [List.nil_append, List.length_nil]; rw [idxL_hit _ _ _ (by rw [pre_app _ _ _ (Nat.le_refl _)]; simp)]; simp
  | cons x p ih =>
    rw [List.cons_append, List.cons_append, idxL] at *
    have e := pre_app sub (x :: (p ++ sub)) r (by simp; omega)
    rw [List.cons_append] at e
    rw [e]
    by_cases hp : sub.isPrefixOf (x :: (p ++ sub)) = true
    · rw [if_pos hp] at h ⊢; exact h
    · rw [if_neg hp] at h ⊢
      have := ih (i + 1) (by rw [h]; simp; omega)
      rw [this]; simp; omega

def W1 : ByteArray := ⟨#[87, 72, 69, 82, 69, 32, 40]⟩
def W2 : ByteArray := ⟨#[87, 72, 69, 82, 69, 32, 40, 41]⟩
def idx (s t : ByteArray) : Int := idxL t.data.toList s.data.toList 0

theorem idx_empty : idx (es ⟨#[]⟩) W2 = 68 := by decide +kernel
theorem idx_where (s : ByteArray) : idx (es s) W1 = 68 := by
  unfold idx
  rw [es_data, List.append_assoc]
  have e : B1 = Q.data.toList ++ W1.data.toList := by decide +kernel
  rw [e]
  have := idxL_app W1.data.toList Q.data.toList (s.data.toList ++ (B2 ++ B3 ++ B4)) 0 (by decide +kernel)
  rw [this]; decide +kernel

theorem cut_head (s : ByteArray) : (es s).extract 0 68 = Q := by
  apply ba_ext
  rw [Lib.extract_data, es_data, List.append_assoc]
  have e : B1 = Q.data.toList ++ W1.data.toList := by decide +kernel
  rw [e, List.append_assoc]
  have l : Q.data.toList.length = 68 := by decide +kernel
  simp only [List.drop_zero]
  rw [show (68 - 0 : Nat) = Q.data.toList.length by rw [l], List.take_left]
theorem cut_mid (s : ByteArray) : (es s).extract 75 (75 + s.size) = s := by
  apply ba_ext
  rw [Lib.extract_data, es_data, List.append_assoc, show (75 : Nat) = B1.length by rw [len1], List.drop_left, show B1.length + s.size - B1.length = s.data.toList.length by rw [Lib.size_eq]; omega, List.take_left]
theorem cut_rest (s : ByteArray) : (es s).extract (75 + s.size) (es s).size = R := by
  apply ba_ext
  have hR : R.data.toList = B2 ++ B3 ++ B4 := by decide +kernel
  rw [Lib.extract_data, es_data, hR, show 75 + s.size = (B1 ++ s.data.toList).length by rw [List.length_append, len1, Lib.size_eq], List.drop_left, es_size, List.length_append, len1, ← Lib.size_eq]
  rw [List.take_of_length_le]
  rw [len2]; omega
theorem splice (s : ByteArray) : es s = (es ⟨#[]⟩).extract 0 75 ++ s ++ (es ⟨#[]⟩).extract 75 249 := by
  apply ba_ext
  have h1 : ((es ⟨#[]⟩).extract 0 75).data.toList = B1 := by decide +kernel
  have h2 : ((es ⟨#[]⟩).extract 75 249).data.toList = B2 ++ B3 ++ B4 := by decide +kernel
  rw [es_data, ByteArray.data_append, ByteArray.data_append, Array.toList_append, Array.toList_append, h1, h2]
end Go.Proofs.Qxb6601490a.Plain
