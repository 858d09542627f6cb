import Derived.Test.Qxb6601407aTail
import Derived.Test.Qxb6601407aLaw1
namespace Go.Proofs.Qxb6601407a
open Go.RowKit
set_option linter.unusedVariables false

/-- What 'add' makes of the rows, told entry by entry. -/
def LowRows (rows : List (List Int)) (b wd : Nat) (bt : Int) (rows' : List (List Int)) : Prop :=
  rows'.length = max rows.length (b + 1) ∧ (∀ k, k < rows'.length → k ≠ b → rows'[k]? = some (rows.getD k [])) ∧
  ∃ ys, rows'[b]? = some ys ∧ (rows.getD b []).length ≤ ys.length ∧ wd < ys.length ∧ ∀ (q : Nat) (y : Int), ys[q]? = some y → y = if q = wd then bits .or .u64 ((rows.getD b []).getD q 0) bt else (rows.getD b []).getD q 0

theorem below_drewN (B : Nat) (w : World) : ∀ n, Below B w (w.drewN n)
  | 0 => Below.refl _ _
  | n + 1 => (below_drewN B w n).drew

/-- A row of rows. -/
theorem RowsR.at {w : World} {ao : Option Addr} {n c : Nat} {vs : List Value} {rows : List (List Int)} (h : RowsR w (.slice ao n c) vs rows) {k : Nat} (hk : k < rows.length) :
    ∃ xs v, rows[k]? = some xs ∧ (∃ b off, ao = some ⟨b, off, none⟩ ∧ w.cell? ⟨b, off + k, none⟩ = some v) ∧ RowR w v xs := by
  obtain ⟨a, cap, e, h2, h3, h4, h5⟩ := h
  simp at e
  obtain ⟨rfl, _, _⟩ := e
  obtain ⟨b, off, e, _, h6⟩ := h4 (by omega)
  have hv : vs[k]? = some (vs[k]'(by omega)) := by simp
  have hx : rows[k]? = some rows[k] := by simp
  exact ⟨_, _, hx, ⟨b, off, e, h6 k _ hv⟩, h5 k _ _ hv hx⟩

theorem rowR_nil (w : World) : RowR w (.slice none 0 0) [] := ⟨none, 0, rfl, by simp, fun _ => ⟨rfl, rfl⟩, fun h => by simp at h⟩

theorem RowR.drewN {w : World} {v : Value} {xs : List Int} (h : RowR w v xs) (q : Nat) : RowR (w.drewN q) v xs := h.below (below_drewN _ _ _)

set_option maxRecDepth 100000 in
set_option maxHeartbeats 4000000 in
theorem tail62_low (w0 W : World) (ao1 ao2 : Option Addr) (n c1 m c2 b wd : Nat) (bt : Int) (vs1 vs2 : List Value) (rows rows' : List (List Int)) (hn : Hid (rows.length = n)) (hm : Hid (rows'.length = m)) (hb64 : b < 64) (hbel : Below w0.heap.size w0 W)
    (hnb : n ≤ 65536) (hmb : m ≤ 65536) (hR1 : Hid (RowsR W (.slice ao1 n c1) vs1 rows)) (hR2 : Hid (RowsR W (.slice ao2 m c2) vs2 rows')) (hL : Hid (LowRows rows b wd bt rows')) (sl1 sl2 sl4 sl5 sl6 sl7 sl8 sl9 sl10 sl11 sl12 sl13 sl14 sl15 sl18 sl19 sl20 sl21 sl24 sl25 sl26 sl27 sl28 sl29 sl30 sl31 sl32 sl33 sl34 sl35 sl36 sl37 sl38 sl39 sl40 sl41 sl42 sl43 sl44 sl45 sl46 sl47 sl48 sl49 sl50 sl51 sl52 sl53 sl54 sl55 sl56 sl57 sl58 sl59 sl60 sl61 sl62 sl63 sl64 sl65 sl66 sl67 sl68 sl69 sl70 sl71 sl72 sl73 sl74 sl75 sl76 sl77 sl78 sl79 sl80 sl81 sl82 sl83 sl84 sl85 sl86 sl87 sl88 sl89 sl90 sl91 sl92 sl93 sl94 sl95 sl96 sl97 sl98 sl99 sl100 sl101 sl102 sl103 sl104 sl105 sl106 sl107 sl108 sl109 sl110 sl111 sl112 sl113 sl114 sl115 sl116 sl117 sl118 sl119 sl120 sl121 sl122 sl123 sl124 sl125 sl126 sl127 sl128 sl129 sl130 sl131 sl132 sl133 sl134 sl135 sl136 sl137 sl138 sl139 sl140 sl141 sl142 sl143 sl144 sl145 sl146 sl147 sl148 sl149 sl150 sl151 sl152 sl153 sl154 sl155 sl156 sl157 sl158 sl159 sl160 sl161 sl162 sl163 sl164 sl165 sl166 sl167 sl168 sl169 sl170 sl171 sl172 sl173 sl174 sl175 sl176 sl177 sl178 sl179 sl180 sl181 sl182 sl183 sl184 sl185 sl186 sl187 sl188 sl189 sl190 sl191 sl192 sl193 sl194 sl195 sl196 sl197 sl198 sl199 sl200 sl201 sl202 sl203 sl204 sl205 sl206 sl207 sl208 sl209 sl210 sl211 sl212 sl213 sl214 sl215 sl216 sl217 sl218 sl219 sl220 sl221 sl222 sl223 sl224 sl225 sl226 sl227 sl228 sl229 sl230 sl231 sl232 sl233 sl234 sl235 sl236 sl237 sl238 sl239 sl240 sl241 sl242 sl243 sl244 sl245 sl246 sl247 sl248 sl249 sl250 sl251 sl252 sl253 sl254 sl255 sl256 sl257 sl258 sl259 sl260 sl261 sl262 sl263 sl264 sl265 sl266 sl267 sl268 sl269 sl270 sl271 sl272 sl273 sl274 sl275 sl276 sl277 sl278 sl279 sl280 sl281 : Value) :
    Code.wp Try.prog ((Try.f9.body.bind (restAt 62)).getD .skip) (bodyPost Try.prog Try.f9 fun e w' => e = Ending.returned (Value.bool true) ∧ Below w0.heap.size w0 w') ⟨#[.slice ao1 n c1, sl1, sl2, .int .i64 (b : Int), sl4, sl5, sl6, sl7, sl8, sl9, sl10, sl11, sl12, sl13, sl14, sl15, .int .i64 (wd : Int), .int .u64 bt, sl18, sl19, sl20, sl21, .slice ao2 m c2, .int .i64 (m : Int), sl24, sl25, sl26, sl27, sl28, sl29, sl30, sl31, sl32, sl33, sl34, sl35, sl36, sl37, sl38, sl39, sl40, sl41, sl42, sl43, sl44, sl45, sl46, sl47, sl48, sl49, sl50, sl51, sl52, sl53, sl54, sl55, sl56, sl57, sl58, sl59, sl60, sl61, sl62, sl63, sl64, sl65, sl66, sl67, sl68, sl69, sl70, sl71, sl72, sl73, sl74, sl75, sl76, sl77, sl78, sl79, sl80, sl81, sl82, sl83, sl84, sl85, sl86, sl87, sl88, sl89, sl90, sl91, sl92, sl93, sl94, sl95, sl96, sl97, sl98, sl99, sl100, sl101, sl102, sl103, sl104, sl105, sl106, sl107, sl108, sl109, sl110, sl111, sl112, sl113, sl114, sl115, sl116, sl117, sl118, sl119, sl120, sl121, sl122, sl123, sl124, sl125, sl126, sl127, sl128, sl129, sl130, sl131, sl132, sl133, sl134, sl135, sl136, sl137, sl138, sl139, sl140, sl141, sl142, sl143, sl144, sl145, sl146, sl147, sl148, sl149, sl150, sl151, sl152, sl153, sl154, sl155, sl156, sl157, sl158, sl159, sl160, sl161, sl162, sl163, sl164, sl165, sl166, sl167, sl168, sl169, sl170, sl171, sl172, sl173, sl174, sl175, sl176, sl177, sl178, sl179, sl180, sl181, sl182, sl183, sl184, sl185, sl186, sl187, sl188, sl189, sl190, sl191, sl192, sl193, sl194, sl195, sl196, sl197, sl198, sl199, sl200, sl201, sl202, sl203, sl204, sl205, sl206, sl207, sl208, sl209, sl210, sl211, sl212, sl213, sl214, sl215, sl216, sl217, sl218, sl219, sl220, sl221, sl222, sl223, sl224, sl225, sl226, sl227, sl228, sl229, sl230, sl231, sl232, sl233, sl234, sl235, sl236, sl237, sl238, sl239, sl240, sl241, sl242, sl243, sl244, sl245, sl246, sl247, sl248, sl249, sl250, sl251, sl252, sl253, sl254, sl255, sl256, sl257, sl258, sl259, sl260, sl261, sl262, sl263, sl264, sl265, sl266, sl267, sl268, sl269, sl270, sl271, sl272, sl273, sl274, sl275, sl276, sl277, sl278, sl279, sl280, sl281], []⟩ W := by
  conv => arg 2; whnf

  go_wp2
  go_loopw [24] (fun i wr => ∃ k : Nat, k ≤ m ∧ i = .int .i64 k ∧ ∃ q, wr = W.drewN q) (fun i _ => m - (intOf i).toNat)
  case atStart => exact ⟨0, Nat.zero_le _, rfl, 0, rfl⟩
  case round =>
    obtain ⟨k, hk, rfl, q, rfl⟩ := hrel
    by_cases hlt : k < m
    · obtain ⟨r1, v1, hv1, ⟨b2, off2, rfl, cv2⟩, hr1⟩ := hR2.out.at (k := k) (by rw [hm.out]; exact hlt)
      obtain ⟨va2, vc2, hvf, hvm, hvn, hvc⟩ := id hr1
      subst hvf
      unfold maxLen at hvm
      have HV := hide hv1
      have HR := hide hr1
      have HVC := hide hvc
      clear hv1 hr1 hvn hvc
      by_cases hkb : k = b
      · subst hkb
        obtain ⟨ys, hys0, hys1, hys2, hys3⟩ := hL.out.2.2
        obtain rfl : ys = r1 := by rw [HV.out] at hys0; simpa using hys0.symm
        have HYS := hide hys3
        have hwd : (wd : Int) < (ys.length : Int) := by omega
        clear hys0 hys3
        by_cases hkn : k < n
        · obtain ⟨r2, v2, hv2, ⟨b3, off3, rfl, cv3⟩, hr2⟩ := hR1.out.at (k := k) (by rw [hn.out]; exact hkn)
          obtain ⟨va3, vc3, hvf3, hvm3, _, hoc⟩ := id hr2
          subst hvf3
          unfold maxLen at hvm3
          have hr12 : r2 = rows.getD k [] := by rw [List.getD, hv2]; rfl
          rw [← hr12] at hys1
          have hle : (r2.length : Int) ≤ (ys.length : Int) := by omega
          have HE := hide hr12
          have HOC := hide hoc
          clear hv2 hr2 hr12 hoc

          go_wp2
          go_loop [27] (fun i => ∃ j : Nat, j ≤ ys.length ∧ i = .int .i64 j) (fun i => ys.length - (intOf i).toNat)
          case atStart => exact ⟨0, Nat.zero_le _, rfl⟩
          case round =>
            obtain ⟨j, hj, rfl⟩ := hrel
            by_cases hjl : j < ys.length
            · obtain ⟨rb, roff, rfl, _, hrc⟩ := HVC.out (by omega)
              obtain ⟨y, hy⟩ : ∃ y, ys[j]? = some y := ⟨ys[j], by simp [hjl]⟩
              have cy := hrc j y hy
              have hyv := HYS.out j y hy
              clear hrc hy
              by_cases hjo : j < r2.length
              · obtain ⟨ob, ooff, rfl, _, hoc⟩ := HOC.out (by omega)
                obtain ⟨x, hx⟩ : ∃ x, r2[j]? = some x := ⟨r2[j], by simp [hjo]⟩
                have cx := hoc j x hx
                have hgx : (rows.getD k []).getD j 0 = x := by rw [← HE.out, List.getD, hx]; rfl
                rw [hgx] at hyv
                clear hoc hx hgx
                by_cases hjw : j = wd
                · rw [if_pos hjw] at hyv
                  subst hjw hyv
                  go_wp2
                  go_round
                  case rel => exact ⟨j + 1, by omega, by go_num⟩
                  case measure => simp [intOf]; omega
                · rw [if_neg hjw] at hyv
                  subst hyv
                  go_wp2
                  go_round
                  case rel => exact ⟨j + 1, by omega, by go_num⟩
                  case measure => simp [intOf]; omega
              · have hgx : (rows.getD k []).getD j 0 = 0 := by rw [← HE.out, List.getD, List.getElem?_eq_none (by omega)]; rfl
                rw [hgx] at hyv
                clear hgx
                by_cases hjw : j = wd
                · rw [if_pos hjw] at hyv
                  subst hjw hyv
                  go_wp2
                  go_round
                  case rel => exact ⟨j + 1, by omega, by go_num⟩
                  case measure => simp [intOf]; omega
                · rw [if_neg hjw] at hyv
                  subst hyv
                  go_wp2
                  go_round
                  case rel => exact ⟨j + 1, by omega, by go_num⟩
                  case measure => simp [intOf]; omega
            · go_wp2
              go_roundw
              case rel => exact ⟨k + 1, by omega, by go_num, _, rfl⟩
              case measure => simp [intOf]; omega
        · have hr10 : [] = rows.getD k [] := by rw [List.getD, List.getElem?_eq_none (by rw [hn.out]; omega)]; rfl
          have HE := hide hr10
          clear hr10

          go_wp2
          go_loop [27] (fun i => ∃ j : Nat, j ≤ ys.length ∧ i = .int .i64 j) (fun i => ys.length - (intOf i).toNat)
          case atStart => exact ⟨0, Nat.zero_le _, rfl⟩
          case round =>
            obtain ⟨j, hj, rfl⟩ := hrel
            by_cases hjl : j < ys.length
            · obtain ⟨rb, roff, rfl, _, hrc⟩ := HVC.out (by omega)
              obtain ⟨y, hy⟩ : ∃ y, ys[j]? = some y := ⟨ys[j], by simp [hjl]⟩
              have cy := hrc j y hy
              have hyv := HYS.out j y hy
              clear hrc hy
              have hgx : (rows.getD k []).getD j 0 = 0 := by rw [← HE.out]; rfl
              rw [hgx] at hyv
              clear hgx
              by_cases hjw : j = wd
              · rw [if_pos hjw] at hyv
                subst hjw hyv
                go_wp2
                go_round
                case rel => exact ⟨j + 1, by omega, by go_num⟩
                case measure => simp [intOf]; omega
              · rw [if_neg hjw] at hyv
                subst hyv
                go_wp2
                go_round
                case rel => exact ⟨j + 1, by omega, by go_num⟩
                case measure => simp [intOf]; omega
            · go_wp2
              go_roundw
              case rel => exact ⟨k + 1, by omega, by go_num, _, rfl⟩
              case measure => simp [intOf]; omega
      · have hkb' : ((k : Int) != (b : Int)) = true := by simp; omega
        have hrx : r1 = rows.getD k [] := by have := hL.out.2.1 k (by rw [hm.out]; exact hlt) hkb; rw [HV.out] at this; simpa using this
        have HRX := hide hrx
        clear hrx hkb
        by_cases hkn : k < n
        · obtain ⟨r2, v2, hv2, ⟨b3, off3, rfl, cv3⟩, hr2⟩ := hR1.out.at (k := k) (by rw [hn.out]; exact hkn)
          obtain ⟨va3, vc3, hvf3, _⟩ := id hr2
          subst hvf3
          have hr12 : r1 = r2 := by rw [HRX.out, List.getD, hv2]; rfl
          have HR2 := hide hr2
          have HE := hide hr12
          clear hv2 hr2 hr12
          go_wp2_with fail
          refine (eq_same _ _ r1 _ (HR.out.drewN q) (by rw [HE.out]; exact HR2.out.drewN q)).mono ?_
          rintro e w5 ⟨rfl, q2, rfl⟩
          go_wp2
          go_roundw
          case rel => exact ⟨k + 1, by omega, by go_num, _, rfl⟩
          case measure => simp [intOf]; omega
        · have hr10 : r1 = [] := by rw [HRX.out, List.getD, List.getElem?_eq_none (by rw [hn.out]; omega)]; rfl
          have HE := hide hr10
          clear hr10
          go_wp2_with fail
          refine (eq_same _ _ r1 _ (HR.out.drewN q) (by rw [HE.out]; exact rowR_nil _)).mono ?_
          rintro e w5 ⟨rfl, q2, rfl⟩
          go_wp2
          go_roundw
          case rel => exact ⟨k + 1, by omega, by go_num, _, rfl⟩
          case measure => simp [intOf]; omega
    · go_wp2
      go_ret
      exact ⟨rfl, hbel.trans (below_drewN _ _ _)⟩

end Go.Proofs.Qxb6601407a
