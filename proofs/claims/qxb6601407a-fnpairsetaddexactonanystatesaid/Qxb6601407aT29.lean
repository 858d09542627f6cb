import Derived.Test.Qxb6601407aT40
namespace Go.Proofs.Qxb6601407a
open Go.RowKit
set_option linter.unusedVariables false

theorem wordOf_row {rows : List (List Int)} {b wd : Nat} {r : List Int} (h : rows[b]? = some r) : wordOf rows b wd = r.getD wd 0 := by
  have e : rows.getD b [] = r := by rw [List.getD, h]; rfl
  unfold wordOf; rw [e]
theorem wordOf_none {rows : List (List Int)} {b wd : Nat} (h : rows[b]? = none) : wordOf rows b wd = 0 := by
  have e : rows.getD b [] = [] := by rw [List.getD, h]; rfl
  unfold wordOf; rw [e]; rfl

set_option maxRecDepth 100000 in
set_option maxHeartbeats 4000000 in
theorem tail29_low (w0 W : World) (ao1 : Option Addr) (n c1 b : Nat) (a : Int) (vs1 : List Value) (rows : List (List Int)) (hb64 : b < 64) (ha0 : 0 ≤ a) (ha4 : a < 4194304) (hn : Hid (rows.length = n)) (hbel : Below w0.heap.size w0 W)
    (hnb : n ≤ 65536) (hls : Hid (∀ xs ∈ rows, xs.length ≤ 1048576)) (hR1 : Hid (RowsR W (.slice ao1 n c1) vs1 rows)) (cv : Option Addr) (len : Nat) (zs : List (Int × Int)) (mo : Option Nat) (N sz : Nat) (S : Int → Int → Bool) (hP : Hid (PairsR W cv len zs)) (hlen : len ≤ 65536) (hwf : Hid (∀ p ∈ zs, okI p.1 ∧ okI p.2)) (hM : Hid (MapO W mo N sz S)) (hS : Hid (HoldsAll S zs)) (hsz : sz ≤ 65536) (hN : N ≤ 65536) (hmo : Hid (∀ mb, mo = some mb → w0.heap.size ≤ mb ∧ mb < W.heap.size)) (sl4 sl5 sl6 sl7 sl8 sl9 sl10 sl12 sl13 sl14 sl15 sl16 sl17 sl18 sl19 sl20 sl21 sl22 sl23 sl24 sl25 sl26 sl27 sl28 sl29 sl30 sl31 sl32 sl33 sl34 sl35 sl36 sl37 sl38 sl39 sl40 sl41 sl42 sl43 sl44 sl45 sl46 sl47 sl48 sl49 sl50 sl51 sl52 sl53 sl54 sl55 sl56 sl57 sl58 sl59 sl60 sl61 sl62 sl63 sl64 sl65 sl66 sl67 sl68 sl69 sl70 sl71 sl72 sl73 sl74 sl75 sl76 sl77 sl78 sl79 sl80 sl81 sl82 sl83 sl84 sl85 sl86 sl87 sl88 sl89 sl90 sl91 sl92 sl93 sl94 sl95 sl96 sl97 sl98 sl99 sl100 sl101 sl102 sl103 sl104 sl105 sl106 sl107 sl108 sl109 sl110 sl111 sl112 sl113 sl114 sl115 sl116 sl117 sl118 sl119 sl120 sl121 sl122 sl123 sl124 sl125 sl126 sl127 sl128 sl129 sl130 sl131 sl132 sl133 sl134 sl135 sl136 sl137 sl138 sl139 sl140 sl141 sl142 sl143 sl144 sl145 sl146 sl147 sl148 sl149 sl150 sl151 sl152 sl153 sl154 sl155 sl156 sl157 sl158 sl159 sl160 sl161 sl162 sl163 sl164 sl165 sl166 sl167 sl168 sl169 sl170 sl171 sl172 sl173 sl174 sl175 sl176 sl177 sl178 sl179 sl180 sl181 sl182 sl183 sl184 sl185 sl186 sl187 sl188 sl189 sl190 sl191 sl192 sl193 sl194 sl195 sl196 sl197 sl198 sl199 sl200 sl201 sl202 sl203 sl204 sl205 sl206 sl207 sl208 sl209 sl210 sl211 sl212 sl213 sl214 sl215 sl216 sl217 sl218 sl219 sl220 sl221 sl222 sl223 sl224 sl225 sl226 sl227 sl228 sl229 sl230 sl231 sl232 sl233 sl234 sl235 sl236 sl237 sl238 sl239 sl240 sl241 sl242 sl243 sl244 sl245 sl246 sl247 sl248 sl249 sl250 sl251 sl252 sl253 sl254 sl255 sl256 sl257 sl258 sl259 sl260 sl261 sl262 sl263 sl264 sl265 sl266 sl267 sl268 sl269 sl270 sl271 sl272 sl273 sl274 sl275 sl276 sl277 sl278 sl279 sl280 sl281 : Value) :
    Code.wp Try.prog ((Try.f9.body.bind (restAt 29)).getD .skip) (bodyPost Try.prog Try.f9 fun e w' => e = Ending.returned (Value.bool true) ∧ Below w0.heap.size w0 w') ⟨#[.slice ao1 n c1, .slice cv len len, .int .i64 a, .int .i64 (b : Int), sl4, sl5, sl6, sl7, sl8, sl9, sl10, .map mo, sl12, sl13, sl14, sl15, sl16, sl17, sl18, sl19, sl20, sl21, sl22, sl23, sl24, sl25, sl26, sl27, sl28, sl29, sl30, sl31, sl32, sl33, sl34, sl35, sl36, sl37, sl38, sl39, sl40, sl41, sl42, sl43, sl44, sl45, sl46, sl47, sl48, sl49, sl50, sl51, sl52, sl53, sl54, sl55, sl56, sl57, sl58, sl59, sl60, sl61, sl62, sl63, sl64, sl65, sl66, sl67, sl68, sl69, sl70, sl71, sl72, sl73, sl74, sl75, sl76, sl77, sl78, sl79, sl80, sl81, sl82, sl83, sl84, sl85, sl86, sl87, sl88, sl89, sl90, sl91, sl92, sl93, sl94, sl95, sl96, sl97, sl98, sl99, sl100, sl101, sl102, sl103, sl104, sl105, sl106, sl107, sl108, sl109, sl110, sl111, sl112, sl113, sl114, sl115, sl116, sl117, sl118, sl119, sl120, sl121, sl122, sl123, sl124, sl125, sl126, sl127, sl128, sl129, sl130, sl131, sl132, sl133, sl134, sl135, sl136, sl137, sl138, sl139, sl140, sl141, sl142, sl143, sl144, sl145, sl146, sl147, sl148, sl149, sl150, sl151, sl152, sl153, sl154, sl155, sl156, sl157, sl158, sl159, sl160, sl161, sl162, sl163, sl164, sl165, sl166, sl167, sl168, sl169, sl170, sl171, sl172, sl173, sl174, sl175, sl176, sl177, sl178, sl179, sl180, sl181, sl182, sl183, sl184, sl185, sl186, sl187, sl188, sl189, sl190, sl191, sl192, sl193, sl194, sl195, sl196, sl197, sl198, sl199, sl200, sl201, sl202, sl203, sl204, sl205, sl206, sl207, sl208, sl209, sl210, sl211, sl212, sl213, sl214, sl215, sl216, sl217, sl218, sl219, sl220, sl221, sl222, sl223, sl224, sl225, sl226, sl227, sl228, sl229, sl230, sl231, sl232, sl233, sl234, sl235, sl236, sl237, sl238, sl239, sl240, sl241, sl242, sl243, sl244, sl245, sl246, sl247, sl248, sl249, sl250, sl251, sl252, sl253, sl254, sl255, sl256, sl257, sl258, sl259, sl260, sl261, sl262, sl263, sl264, sl265, sl266, sl267, sl268, sl269, sl270, sl271, sl272, sl273, sl274, sl275, sl276, sl277, sl278, sl279, sl280, sl281], []⟩ W := by
  conv => arg 2; whnf

  have hml : ∀ ty, (Builtin.len_ #[26] ty #[.map mo]).run Try.prog W = .ok (.int .i64 sz) W := hM.out.len
  have HA := hide ((Below.refl W.heap.size W).alloc (Nat.le_refl _) (.cells #[.int .i64 a, .int .i64 (b : Int)] 30))
  obtain ⟨wd, hwd⟩ : ∃ wd : Nat, a / 64 = wd := ⟨(a / 64).toNat, by omega⟩
  have hr : (a % 64).toNat < 64 := by omega
  have hbt0 := wrap_bit (a % 64).toNat hr
  have hz0 : ∀ x : Int, x = 0 → (bits .and .u64 x ((2 ^ (a % 64).toNat : Nat) : Int) != 0) = false := fun x hx => by rw [hx, bit_test 0 _ hr (by omega) (by omega)]; simp
  obtain ⟨bt, hbt1⟩ : ∃ bt : Int, ((2 ^ (a % 64).toNat : Nat) : Int) = bt := ⟨_, rfl⟩
  rw [hbt1] at hbt0 hz0
  have HZ := hide hz0
  have hcv : IntKind.u64.wrap (a % 64) = a % 64 := by rw [IntKind.wrap_u64]; omega
  have hbt := hbt0
  have HBT := hide hbt0
  have HWD := hide hwd
  clear hz0 hbt0 hbt1 hr
  go_upto_if 111 with fail
  go_cut [15, 16, 17] from 29 (fun s15 s16 s17 wc => s15 = .bool (bits .and .u64 (wordOf rows b wd) bt != 0) ∧ s16 = .int .i64 (wd : Int) ∧ s17 = .int .u64 bt ∧ wc = W.alloc (.cells #[.int .i64 a, .int .i64 (b : Int)] 30))
  case first =>
    by_cases hbn : b < n
    · obtain ⟨r1, v1, hv1, ⟨b2, off2, rfl, cv2⟩, hr1⟩ := (hR1.out.below HA.out).at (k := b) (by rw [hn.out]; exact hbn)
      obtain ⟨va2, vc2, hvf, hvm, hvn, hvc⟩ := id hr1
      subst hvf
      unfold maxLen at hvm
      have hwo : ∀ x, r1[wd]? = some x → wordOf rows b wd = x := fun x hx => by rw [wordOf_row hv1, List.getD, hx]; rfl
      have hwo0 : ¬ wd < r1.length → wordOf rows b wd = 0 := fun hx => by rw [wordOf_row hv1, List.getD, List.getElem?_eq_none (by omega)]; rfl
      have hbi : decide ((b : Int) < (n : Int)) = true := by simpa using hbn
      have HVC := hide hvc
      have HWO := hide hwo
      have HWO0 := hide hwo0
      clear hv1 hr1 hvn hvc hwo hwo0
      by_cases hwl : wd < r1.length
      · obtain ⟨rb, roff, rfl, _, hrc⟩ := HVC.out (by omega)
        obtain ⟨x, hx⟩ : ∃ x, r1[wd]? = some x := ⟨r1[wd], by simp [hwl]⟩
        have cx := hrc wd x hx
        have HW := hide (HWO.out x hx)
        have hwi : (wd : Int) < (r1.length : Int) := by omega
        clear hrc hx
        go_wp2
        go_meet
        case rel => exact ⟨by rw [HW.out], (by first | rfl | rw [HWD.out]), rfl, rfl⟩
      · have hwi : (r1.length : Int) ≤ (wd : Int) := by omega
        go_wp2
        go_meet
        case rel => exact ⟨by rw [HZ.out _ (HWO0.out hwl)], (by first | rfl | rw [HWD.out]), rfl, rfl⟩
    · have hbi : decide ((b : Int) < (n : Int)) = false := by simp; omega
      have HW := hide (show wordOf rows b wd = 0 from wordOf_none (List.getElem?_eq_none (by rw [hn.out]; omega)))
      go_wp2
      go_meet
      case rel => exact ⟨by rw [HZ.out _ HW.out], (by first | rfl | rw [HWD.out]), rfl, rfl⟩
  case rest =>
    obtain ⟨rfl, rfl, rfl, hwc⟩ := hcut
    subst hwc
    have hA := HA.out
    have hM2 : MapO (W.alloc (.cells #[.int .i64 a, .int .i64 (b : Int)] 30)) mo N sz S := hM.out.kept (fun mb e => hA.block mb (hmo.out mb e).2)
    have hmo2 : ∀ mb, mo = some mb → w0.heap.size ≤ mb ∧ mb < (W.alloc (.cells #[.int .i64 a, .int .i64 (b : Int)] 30)).heap.size := fun mb e => ⟨(hmo.out mb e).1, Nat.lt_of_lt_of_le (hmo.out mb e).2 hA.size⟩
    refine (‹∀ (a : Act) (w : World), Code.wp Try.prog (Code.seq (Code.region 40 _ _) _) _ a w → _› _ _ ?_)
    exact tail40_low w0 _ ao1 n c1 b wd a bt _ vs1 rows hb64 HWD HBT ha0 ha4 rfl hn (hbel.trans (hA.mono hbel.size)) hnb hls (hR1.out.below hA) cv len zs mo N sz S (hP.out.below hA) hlen hwf hM2 hS hsz hN hmo2 _ _ _ _ _ _ _ _ _ _ _ _ _ _ _ _ _ _ _ _ _ _ _ _ _ _ _ _ _ _ _ _ _ _ _ _ _ _ _ _ _ _ _ _ _ _ _ _ _ _ _ _ _ _ _ _ _ _ _ _ _ _ _ _ _ _ _ _ _ _ _ _ _ _ _ _ _ _ _ _ _ _ _ _ _ _ _ _ _ _ _ _ _ _ _ _ _ _ _ _ _ _ _ _ _ _ _ _ _ _ _ _ _ _ _ _ _ _ _ _ _ _ _ _ _ _ _ _ _ _ _ _ _ _ _ _ _ _ _ _ _ _ _ _ _ _ _ _ _ _ _ _ _ _ _ _ _ _ _ _ _ _ _ _ _ _ _ _ _ _ _ _ _ _ _ _ _ _ _ _ _ _ _ _ _ _ _ _ _ _ _ _ _ _ _ _ _ _ _ _ _ _ _ _ _ _ _ _ _ _ _ _ _ _ _ _ _ _ _ _ _ _ _ _ _ _ _ _ _ _ _ _ _ _ _ _ _ _ _ _ _ _ _ _ _ _ _ _ _ _ _ _ _ _ _ _ _ _ _ _ _ _ _ _ _ _ _ _ _ _ _ _ _


set_option maxRecDepth 100000 in
set_option maxHeartbeats 4000000 in
theorem tail29_high (w0 W : World) (ao1 : Option Addr) (n c1 : Nat) (a b : Int) (vs1 : List Value) (rows : List (List Int)) (hb64 : 64 ≤ b) (hok : Hid (okI a ∧ okI b)) (hn : Hid (rows.length = n)) (hbel : Below w0.heap.size w0 W)
    (hnb : n ≤ 65536) (hls : Hid (∀ xs ∈ rows, xs.length ≤ 1048576)) (hR1 : Hid (RowsR W (.slice ao1 n c1) vs1 rows)) (cv : Option Addr) (len : Nat) (zs : List (Int × Int)) (mo : Option Nat) (N sz : Nat) (S : Int → Int → Bool) (hP : Hid (PairsR W cv len zs)) (hlen : len ≤ 65536) (hwf : Hid (∀ p ∈ zs, okI p.1 ∧ okI p.2)) (hM : Hid (MapO W mo N sz S)) (hS : Hid (HoldsAll S zs)) (hsz : sz ≤ 65536) (hN : N ≤ 65536) (hmo : Hid (∀ mb, mo = some mb → w0.heap.size ≤ mb ∧ mb < W.heap.size)) (sl4 sl5 sl6 sl7 sl8 sl9 sl10 sl12 sl13 sl14 sl15 sl16 sl17 sl18 sl19 sl20 sl21 sl22 sl23 sl24 sl25 sl26 sl27 sl28 sl29 sl30 sl31 sl32 sl33 sl34 sl35 sl36 sl37 sl38 sl39 sl40 sl41 sl42 sl43 sl44 sl45 sl46 sl47 sl48 sl49 sl50 sl51 sl52 sl53 sl54 sl55 sl56 sl57 sl58 sl59 sl60 sl61 sl62 sl63 sl64 sl65 sl66 sl67 sl68 sl69 sl70 sl71 sl72 sl73 sl74 sl75 sl76 sl77 sl78 sl79 sl80 sl81 sl82 sl83 sl84 sl85 sl86 sl87 sl88 sl89 sl90 sl91 sl92 sl93 sl94 sl95 sl96 sl97 sl98 sl99 sl100 sl101 sl102 sl103 sl104 sl105 sl106 sl107 sl108 sl109 sl110 sl111 sl112 sl113 sl114 sl115 sl116 sl117 sl118 sl119 sl120 sl121 sl122 sl123 sl124 sl125 sl126 sl127 sl128 sl129 sl130 sl131 sl132 sl133 sl134 sl135 sl136 sl137 sl138 sl139 sl140 sl141 sl142 sl143 sl144 sl145 sl146 sl147 sl148 sl149 sl150 sl151 sl152 sl153 sl154 sl155 sl156 sl157 sl158 sl159 sl160 sl161 sl162 sl163 sl164 sl165 sl166 sl167 sl168 sl169 sl170 sl171 sl172 sl173 sl174 sl175 sl176 sl177 sl178 sl179 sl180 sl181 sl182 sl183 sl184 sl185 sl186 sl187 sl188 sl189 sl190 sl191 sl192 sl193 sl194 sl195 sl196 sl197 sl198 sl199 sl200 sl201 sl202 sl203 sl204 sl205 sl206 sl207 sl208 sl209 sl210 sl211 sl212 sl213 sl214 sl215 sl216 sl217 sl218 sl219 sl220 sl221 sl222 sl223 sl224 sl225 sl226 sl227 sl228 sl229 sl230 sl231 sl232 sl233 sl234 sl235 sl236 sl237 sl238 sl239 sl240 sl241 sl242 sl243 sl244 sl245 sl246 sl247 sl248 sl249 sl250 sl251 sl252 sl253 sl254 sl255 sl256 sl257 sl258 sl259 sl260 sl261 sl262 sl263 sl264 sl265 sl266 sl267 sl268 sl269 sl270 sl271 sl272 sl273 sl274 sl275 sl276 sl277 sl278 sl279 sl280 sl281 : Value) :
    Code.wp Try.prog ((Try.f9.body.bind (restAt 29)).getD .skip) (bodyPost Try.prog Try.f9 fun e w' => e = Ending.returned (Value.bool true) ∧ Below w0.heap.size w0 w') ⟨#[.slice ao1 n c1, .slice cv len len, .int .i64 a, .int .i64 b, sl4, sl5, sl6, sl7, sl8, sl9, sl10, .map mo, sl12, sl13, sl14, sl15, sl16, sl17, sl18, sl19, sl20, sl21, sl22, sl23, sl24, sl25, sl26, sl27, sl28, sl29, sl30, sl31, sl32, sl33, sl34, sl35, sl36, sl37, sl38, sl39, sl40, sl41, sl42, sl43, sl44, sl45, sl46, sl47, sl48, sl49, sl50, sl51, sl52, sl53, sl54, sl55, sl56, sl57, sl58, sl59, sl60, sl61, sl62, sl63, sl64, sl65, sl66, sl67, sl68, sl69, sl70, sl71, sl72, sl73, sl74, sl75, sl76, sl77, sl78, sl79, sl80, sl81, sl82, sl83, sl84, sl85, sl86, sl87, sl88, sl89, sl90, sl91, sl92, sl93, sl94, sl95, sl96, sl97, sl98, sl99, sl100, sl101, sl102, sl103, sl104, sl105, sl106, sl107, sl108, sl109, sl110, sl111, sl112, sl113, sl114, sl115, sl116, sl117, sl118, sl119, sl120, sl121, sl122, sl123, sl124, sl125, sl126, sl127, sl128, sl129, sl130, sl131, sl132, sl133, sl134, sl135, sl136, sl137, sl138, sl139, sl140, sl141, sl142, sl143, sl144, sl145, sl146, sl147, sl148, sl149, sl150, sl151, sl152, sl153, sl154, sl155, sl156, sl157, sl158, sl159, sl160, sl161, sl162, sl163, sl164, sl165, sl166, sl167, sl168, sl169, sl170, sl171, sl172, sl173, sl174, sl175, sl176, sl177, sl178, sl179, sl180, sl181, sl182, sl183, sl184, sl185, sl186, sl187, sl188, sl189, sl190, sl191, sl192, sl193, sl194, sl195, sl196, sl197, sl198, sl199, sl200, sl201, sl202, sl203, sl204, sl205, sl206, sl207, sl208, sl209, sl210, sl211, sl212, sl213, sl214, sl215, sl216, sl217, sl218, sl219, sl220, sl221, sl222, sl223, sl224, sl225, sl226, sl227, sl228, sl229, sl230, sl231, sl232, sl233, sl234, sl235, sl236, sl237, sl238, sl239, sl240, sl241, sl242, sl243, sl244, sl245, sl246, sl247, sl248, sl249, sl250, sl251, sl252, sl253, sl254, sl255, sl256, sl257, sl258, sl259, sl260, sl261, sl262, sl263, sl264, sl265, sl266, sl267, sl268, sl269, sl270, sl271, sl272, sl273, sl274, sl275, sl276, sl277, sl278, sl279, sl280, sl281], []⟩ W := by
  conv => arg 2; whnf

  have hml : ∀ ty, (Builtin.len_ #[26] ty #[.map mo]).run Try.prog W = .ok (.int .i64 sz) W := hM.out.len
  have HA := hide ((Below.refl W.heap.size W).alloc (Nat.le_refl _) (.cells #[.int .i64 a, .int .i64 b] 30))
  have hM0 : MapO (W.alloc (.cells #[.int .i64 a, .int .i64 b] 30)) mo N sz S := hM.out.kept (fun mb e => HA.out.block mb (hmo.out mb e).2)
  have hlk := hM0.look hok.out.1 hok.out.2
  clear hM0
  go_upto_if 111 with fail
  go_cut [15, 16, 17] from 29 (fun s15 _ _ wc => s15 = .bool (S a b) ∧ wc = W.alloc (.cells #[.int .i64 a, .int .i64 b] 30))
  case first =>
    go_wp2
    go_meet
    case rel => exact ⟨rfl, rfl⟩
  case rest =>
    obtain ⟨rfl, hwc⟩ := hcut
    subst hwc
    have hA := HA.out
    have hM2 : MapO (W.alloc (.cells #[.int .i64 a, .int .i64 b] 30)) mo N sz S := hM.out.kept (fun mb e => hA.block mb (hmo.out mb e).2)
    have hmo2 : ∀ mb, mo = some mb → w0.heap.size ≤ mb ∧ mb < (W.alloc (.cells #[.int .i64 a, .int .i64 b] 30)).heap.size := fun mb e => ⟨(hmo.out mb e).1, Nat.lt_of_lt_of_le (hmo.out mb e).2 hA.size⟩
    refine (‹∀ (a : Act) (w : World), Code.wp Try.prog (Code.seq (Code.region 40 _ _) _) _ a w → _› _ _ ?_)
    exact tail40_high w0 _ ao1 n c1 a b vs1 rows hb64 hok hn (hbel.trans (hA.mono hbel.size)) hnb hls (hR1.out.below hA) cv len zs mo N sz S (hP.out.below hA) hlen hwf hM2 hS hsz hN hmo2 _ _ _ _ _ _ _ _ _ _ _ _ _ _ _ _ _ _ _ _ _ _ _ _ _ _ _ _ _ _ _ _ _ _ _ _ _ _ _ _ _ _ _ _ _ _ _ _ _ _ _ _ _ _ _ _ _ _ _ _ _ _ _ _ _ _ _ _ _ _ _ _ _ _ _ _ _ _ _ _ _ _ _ _ _ _ _ _ _ _ _ _ _ _ _ _ _ _ _ _ _ _ _ _ _ _ _ _ _ _ _ _ _ _ _ _ _ _ _ _ _ _ _ _ _ _ _ _ _ _ _ _ _ _ _ _ _ _ _ _ _ _ _ _ _ _ _ _ _ _ _ _ _ _ _ _ _ _ _ _ _ _ _ _ _ _ _ _ _ _ _ _ _ _ _ _ _ _ _ _ _ _ _ _ _ _ _ _ _ _ _ _ _ _ _ _ _ _ _ _ _ _ _ _ _ _ _ _ _ _ _ _ _ _ _ _ _ _ _ _ _ _ _ _ _ _ _ _ _ _ _ _ _ _ _ _ _ _ _ _ _ _ _ _ _ _ _ _ _ _ _ _ _ _ _ _ _ _ _ _ _ _ _ _ _ _ _ _ _ _ _ _ _ _ _

end Go.Proofs.Qxb6601407a
