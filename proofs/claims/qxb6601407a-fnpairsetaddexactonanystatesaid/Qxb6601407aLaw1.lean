import Derived.Test.Qxb6601407aAdd
import Derived.Test.Qxb6601407aCopy
namespace Go.Proofs.Qxb6601407a
open Go.RowKit
set_option linter.unusedVariables false

theorem bytes1 (a : Option Addr) (len cap : Nat) (w : World) (h : len ≤ 1048576) : Calls Try.prog 10 #[.slice a len cap] w fun e w' => e = .returned (.bool true) ∧ w' = w := by
  go_enter Try.func10, Try.ntmps10
  go_wp2
  go_ret
  exact ⟨rfl, rfl⟩
theorem bytes1_not (a : Option Addr) (len cap : Nat) (w : World) (h : ¬ len ≤ 1048576) (hc : len ≤ 9223372036854775807) : Calls Try.prog 10 #[.slice a len cap] w fun e w' => e = .returned (.bool false) ∧ w' = w := by
  go_enter Try.func10, Try.ntmps10
  go_wp2
  go_ret
  exact ⟨rfl, rfl⟩

/-- Pairs that came in: what is known of a slice's address. -/
def In (w : World) (a : Addr) (len : Nat) (zs : List (Int × Int)) : Prop := zs.length = len ∧ (0 < len → ∃ b off, a = ⟨b, off, none⟩ ∧ PairsAt w b off len zs ∧ b < w.heap.size)

theorem In.below {w w' : World} {a : Addr} {len : Nat} {zs : List (Int × Int)} (h : In w a len zs) (hb : Below w.heap.size w w') : In w' a len zs :=
  ⟨h.1, fun hl => by
    obtain ⟨b, off, rfl, h1, h2⟩ := h.2 hl
    exact ⟨b, off, rfl, h1.below hb h2, Nat.lt_of_lt_of_le h2 hb.size⟩⟩

theorem doms_any (a : Addr) (len cap : Nat) (zs : List (Int × Int)) (w : World) (hl : len ≤ 1048576) (hz : In w a len zs) :
    Calls Try.prog 11 #[.slice (some a) len cap] w fun e w' => e = .returned (.bool (allDom zs)) ∧ Below w.heap.size w w' := by
  by_cases h0 : 0 < len
  · obtain ⟨b, off, rfl, h1, h2⟩ := hz.2 h0
    exact doms_some b off len cap zs w hl h1 h2
  · obtain rfl : len = 0 := by omega
    have : zs = [] := List.length_eq_zero_iff.1 hz.1
    subst this
    refine (doms_zero (some a) cap w).mono ?_
    rintro e w' ⟨rfl, rfl⟩
    exact ⟨rfl, Below.refl _ _⟩

theorem dom_at {zs : List (Int × Int)} {k : Nat} {x y : Int} (h : zs[k]? = some (x, y)) (hd : allDom zs = true) : domB x y = true := by
  unfold allDom at hd
  rw [List.all_eq_true] at hd
  exact hd _ (List.mem_of_getElem? h)

/-- The loop's relation. -/
def Rel1 (w : World) (cb sb len : Nat) (zs : List (Int × Int)) (k : Nat) (wr : World) : Prop :=
  ∃ S, PSt wr (sb + 2) sb k S ∧ SeenMap wr (sb + 1) k S ∧ Below w.heap.size w wr ∧ Filled wr cb len len zs ∧ sb + 2 ≤ wr.heap.size

theorem PSt.made (w : World) (sb : Nat) (hz : w.heap.size = sb) : PSt ((w.alloc (.cells #[.slice none 0 0, .map none] 28)).alloc (.map #[] 0)) (sb + 2) sb 0 (fun _ _ => false) := by
  refine ⟨.slice none 0 0, [], [], none, ?_, ⟨World.ownsRow_nil _ _ _ _, by simp, by simp⟩, by simp [Words], by simp, by simp [hz], ?_, .inl ⟨rfl, fun _ _ _ => rfl⟩⟩
  · rw [Below.heap_alloc _ _ _ (by simp [hz]), ← hz]; exact heap_alloc_new w _
  · intro a b _ _ _; simp [bitS, wordOf]

theorem step1 {w0 wr w3 : World} {sb cb len k : Nat} {zs : List (Int × Int)} {S : Int → Int → Bool} {x y : Int} (hseen : SeenMap wr (sb + 1) k S) (hfil : Filled wr cb len len zs) (hbel : Below w0.heap.size w0 wr) (hsz : sb + 2 ≤ wr.heap.size) (hcs : cb < sb) (hc0 : w0.heap.size ≤ cb)
    (hw : okI x ∧ okI y) (hps3 : PSt w3 (sb + 2) sb (k + 1) (putS S x y)) (hk3 : KeptBut (ownS (wr.alloc (.cells #[.int .i64 x, .int .i64 y] 30)) (sb + 2) sb) (wr.alloc (.cells #[.int .i64 x, .int .i64 y] 30)) w3) (hn : k < maxLen) :
    w3.cell? ⟨wr.heap.size, 0, none⟩ = some (.int .i64 x) ∧ w3.cell? ⟨wr.heap.size, 1, none⟩ = some (.int .i64 y) ∧
    (Instr.lookup 29 (.map (some (sb + 1))) (.agg #[.int .i64 x, .int .i64 y]) false).run Try.prog w3 = .ok (.bool (S x y)) w3 ∧
    ∃ w4, (Instr.mapUpdate 29 (.map (some (sb + 1))) (.agg #[.int .i64 x, .int .i64 y]) (.bool true)).run Try.prog w3 = .ok () w4 ∧ Rel1 w0 cb sb len zs (k + 1) w4 := by
  have hz : (wr.alloc (.cells #[.int .i64 x, .int .i64 y] 30)).heap.size = wr.heap.size + 1 := by simp
  have hbox : w3.heap[wr.heap.size]? = some (.cells #[.int .i64 x, .int .i64 y] 30 (0, 0)) := by
    rw [hk3.block wr.heap.size (by omega) (fun ho => ?_)]
    · exact heap_alloc_new wr _
    · rcases ho with ho | ⟨_, ho⟩
      · omega
      · exact ho _ _ (heap_alloc_new wr _)
  have hlow : ∀ j, j < sb + 2 → j ≠ sb → w3.heap[j]? = wr.heap[j]? := fun j hj hne => by
    rw [hk3.block j (by omega) (fun ho => ?_), Below.heap_alloc _ _ _ (by omega)]
    rcases ho with ho | ⟨ho, _⟩ <;> omega
  have hseen3 := hseen.kept (w' := w3) (hlow (sb + 1) (by omega) (by omega))
  obtain ⟨w4, hupd, hseen4, hturn⟩ := hseen3.put hn hw.1 hw.2
  refine ⟨by rw [cells_cell hbox]; rfl, by rw [cells_cell hbox]; rfl, hseen3.look hw.1 hw.2, w4, hupd, putS S x y, hps3.kept hturn.grown.size (fun j hj hor => hturn.grown.block j hj (by simp; omega)), hseen4, ?_, ?_, ?_⟩
  · refine (hbel.alloc hbel.size (.cells #[.int .i64 x, .int .i64 y] 30)).trans ⟨hturn.grown.os.trans hk3.os, hturn.grown.tape.trans hk3.tape, hturn.grown.output.trans hk3.output, Nat.le_trans hk3.size hturn.grown.size, fun j hj => ?_⟩
    have := hk3.size
    rw [hturn.grown.block j (by omega) (by simp; omega), hlow j (by omega) (by omega), Below.heap_alloc _ _ _ (by omega)]
  · obtain ⟨cur, c1, c2⟩ := hfil
    have := hk3.size
    exact ⟨cur, by rw [hturn.grown.block cb (by omega) (by simp; omega), hlow cb (by omega) (by omega)]; exact c1, c2⟩
  · have := hk3.size
    have := hturn.grown.size
    omega

set_option maxHeartbeats 1000000 in
theorem law1_some (a : Addr) (len cap : Nat) (zs : List (Int × Int)) (w : World) (hl : len ≤ 65536) (hz : In w a len zs) (hwf : ∀ p ∈ zs, okI p.1 ∧ okI p.2) (hdom : allDom zs = true) :
    Calls Try.prog 3 #[.slice (some a) len cap] w fun e w' => e = .returned (.bool true) ∧ Below w.heap.size w w' := by
  have hmm := @run_makeMap Try.prog
  have HZ := hide hz
  have HW := hide hwf
  have HD := hide hdom
  clear hz hwf
  go_enter Try.func3, Try.ntmps3
  go_wp2_with fail
  refine (bytes1 _ _ _ _ (by omega)).mono ?_
  rintro e w0 ⟨rfl, hw0⟩
  subst hw0
  go_wp2_with fail
  refine (doms_any _ _ _ zs _ (by omega) HZ.out).mono ?_
  rintro e w1 ⟨rfl, hb1⟩
  go_wp2_with fail
  have h1 := HZ.out.below hb1
  refine (copy_some _ _ _ zs _ (by omega) h1.1 h1.2).mono ?_
  rintro e w2 ⟨rfl, hb2, hs2, hf2⟩
  clear h1
  go_wp2_with fail
  have hR : Rel1 w0 w1.heap.size w2.heap.size len zs 0 ((w2.alloc (.cells #[.slice none 0 0, .map none] 28)).alloc (.map #[] 0)) := by
    have hz1 : (w2.alloc (.cells #[.slice none 0 0, .map none] 28)).heap.size = w2.heap.size + 1 := by simp
    have hsm := SeenMap.made (w2.alloc (.cells #[.slice none 0 0, .map none] 28))
    rw [hz1] at hsm
    refine ⟨_, PSt.made w2 _ rfl, hsm, ?_, ?_, by simp⟩
    · have hb12 : Below w0.heap.size w0 w2 := hb1.trans (hb2.mono hb1.size)
      exact (hb12.alloc hb12.size _).alloc (by rw [hz1]; have := hb12.size; omega) _
    · obtain ⟨cur, c1, c2⟩ := hf2
      exact ⟨cur, by rw [Below.heap_alloc _ _ _ (by rw [hz1]; omega), Below.heap_alloc _ _ _ hs2]; exact c1, c2⟩
  have hcs : w1.heap.size < w2.heap.size := hs2
  have hc0 : w0.heap.size ≤ w1.heap.size := hb1.size
  have HZL := hide HZ.out.1
  clear hb1 hb2 hs2 hf2 HZ
  generalize w1.heap.size = cb at hR hcs hc0 ⊢
  generalize w2.heap.size = sb at hR hcs ⊢
  have HR := hide hR
  clear hR hmm
  go_loopw [5] (fun i wr => ∃ k : Nat, k ≤ len ∧ i = .int .i64 k ∧ Rel1 w0 cb sb len zs k wr) (fun i _ => len - (intOf i).toNat)
  case atStart => exact ⟨0, Nat.zero_le _, rfl, HR.out⟩
  case round =>
    obtain ⟨k, hk, rfl, S, hps, hseen, hbel, hfil, hsz⟩ := hrel
    by_cases hlt : k < len
    · obtain ⟨x, y, hxy, hx, hy⟩ := (hfil.pairs HZL.out).at hlt
      rw [Nat.zero_add] at hx hy
      have hdxy := dom_at hxy HD.out
      have hwxy := HW.out _ (List.mem_of_getElem? hxy)
      have HP := hide hps; have HS := hide hseen; have HF := hide hfil; have HDX := hide hdxy; have HWX := hide hwxy
      clear hps hseen hfil hdxy hwxy hxy
      go_wp2_with fail
      have hps' : PSt (wr.alloc (.cells #[.int .i64 x, .int .i64 y] 30)) (sb + 2) sb k S := HP.out.kept (by simp) (fun k hk _ => Below.heap_alloc _ _ _ hk)
      refine (zadd_any (sb + 2) sb k S x y _ HDX.out HWX.out.1 HWX.out.2 hps' (by unfold maxLen; omega)).mono ?_
      clear hps'
      rintro e w3 ⟨rfl, hps3, hk3⟩
      have R := step1 HS.out HF.out hbel hsz hcs hc0 HWX.out hps3 hk3 (by unfold maxLen; omega)
      obtain ⟨cx, cy, hlook, w4, hupd, hrel4⟩ := R
      have HR4 := hide hrel4
      clear hps3 hk3 hrel4
      go_wp2
      go_roundw
      case rel => exact ⟨k + 1, by omega, by go_num, HR4.out⟩
      case measure => simp [intOf]; omega
    · have HP := hide hps; have HS := hide hseen; have HF := hide hfil
      clear hps hseen hfil
      go_wp2
      go_ret
      exact ⟨rfl, hbel⟩
end Go.Proofs.Qxb6601407a
