import Derived.Test.Qxb6601407aExactP
namespace Go.Proofs.Qxb6601407a
open Go.RowKit
set_option linter.unusedVariables false

theorem put_self (S : Int → Int → Bool) (a b : Int) : putS S a b a b = true := by simp [putS]
theorem holds_put {S : Int → Int → Bool} {zs : List (Int × Int)} {a b : Int} (h : HoldsAll S zs) : HoldsAll (putS S a b) zs := fun p hp => by unfold putS; rw [h p hp]; rfl

theorem high_facts {w0 W w1 w3 : World} {ao2 : Option Addr} {n N sz : Nat} {vs2 : List Value} {rows : List (List Int)} {mo : Option Nat} {S : Int → Int → Bool} (hM : MapO W mo N sz S) (hmo : ∀ mb, mo = some mb → w0.heap.size ≤ mb ∧ mb < W.heap.size) (hbel : Below w0.heap.size w0 W) (hb1 : Below W.heap.size W w1)
    (hB : Bits w1 W.heap.size 0 (.slice ao2 n n) vs2 rows) (hk3 : KeptBut (fun k => k = w1.heap.size ∨ some k = mo) (w1.alloc (.cells #[.slice ao2 n n, .map mo] 28)) w3) :
    Below w0.heap.size w0 w3 ∧ CellsKept W w3 ∧ RowsR w3 (.slice ao2 n n) vs2 rows := by
  have hs0 := hbel.size
  have hs1 := hb1.size
  have hsz : (w1.alloc (.cells #[.slice ao2 n n, .map mo] 28)).heap.size = w1.heap.size + 1 := by simp
  have hk := hk3.size
  have same : ∀ k, k < w1.heap.size → some k ≠ mo → w3.heap[k]? = w1.heap[k]? := fun k hl hne => by
    rw [hk3.block k (by omega) (fun ho => by rcases ho with ho | ho; omega; exact hne ho), Below.heap_alloc _ _ _ hl]
  refine ⟨?_, ⟨by omega, fun k hl hnm => ?_⟩, ?_⟩
  · refine (hbel.trans (hb1.mono hs0)).trans ⟨hk3.os, hk3.tape, hk3.output, by omega, fun k hl => same k (by omega) (fun e => ?_)⟩
    have := (hmo k e.symm).1
    omega
  · rw [same k (by omega) (fun e => ?_), hb1.block k hl]
    rcases hM with ⟨h, _⟩ | ⟨mb, h, hs⟩
    · rw [h] at e; cases e
    · rw [h] at e
      cases e
      obtain ⟨es, cl, hb⟩ := hs.block
      exact hnm es cl hb
  · exact (hB.kept (fun k hl hb _ => same k hl (fun e => by have := (hmo k e.symm).2; omega))).read

set_option maxRecDepth 100000 in
set_option maxHeartbeats 4000000 in
theorem tail40_low (w0 W : World) (ao1 : Option Addr) (n c1 b wd : Nat) (a bt : Int) (hw : Bool) (vs1 : List Value) (rows : List (List Int)) (hb64 : b < 64) (hwd : Hid (a / 64 = wd)) (hbt : Hid (IntKind.u64.wrap (2 ^ (a % 64).toNat) = bt)) (ha0 : 0 ≤ a) (ha4 : a < 4194304) (hhw : Hid (hw = (bits .and .u64 (wordOf rows b wd) bt != 0))) (hn : Hid (rows.length = n)) (hbel : Below w0.heap.size w0 W)
    (hnb : n ≤ 65536) (hls : Hid (∀ xs ∈ rows, xs.length ≤ 1048576)) (hR1 : Hid (RowsR W (.slice ao1 n c1) vs1 rows)) (cv : Option Addr) (len : Nat) (zs : List (Int × Int)) (mo : Option Nat) (N sz : Nat) (S : Int → Int → Bool) (hP : Hid (PairsR W cv len zs)) (hlen : len ≤ 65536) (hwf : Hid (∀ p ∈ zs, okI p.1 ∧ okI p.2)) (hM : Hid (MapO W mo N sz S)) (hS : Hid (HoldsAll S zs)) (hsz : sz ≤ 65536) (hN : N ≤ 65536) (hmo : Hid (∀ mb, mo = some mb → w0.heap.size ≤ mb ∧ mb < W.heap.size)) (sl4 sl5 sl6 sl7 sl8 sl9 sl10 sl12 sl14 sl18 sl19 sl20 sl21 sl22 sl23 sl24 sl25 sl26 sl27 sl28 sl29 sl30 sl31 sl32 sl33 sl34 sl35 sl36 sl37 sl38 sl39 sl40 sl41 sl42 sl43 sl44 sl45 sl46 sl47 sl48 sl49 sl50 sl51 sl52 sl53 sl54 sl55 sl56 sl57 sl58 sl59 sl60 sl61 sl62 sl63 sl64 sl65 sl66 sl67 sl68 sl69 sl70 sl71 sl72 sl73 sl74 sl75 sl76 sl77 sl78 sl79 sl80 sl81 sl82 sl83 sl84 sl85 sl86 sl87 sl88 sl89 sl90 sl91 sl92 sl93 sl94 sl95 sl96 sl97 sl98 sl99 sl100 sl101 sl102 sl103 sl104 sl105 sl106 sl107 sl108 sl109 sl110 sl111 sl112 sl113 sl114 sl115 sl116 sl117 sl118 sl119 sl120 sl121 sl122 sl123 sl124 sl125 sl126 sl127 sl128 sl129 sl130 sl131 sl132 sl133 sl134 sl135 sl136 sl137 sl138 sl139 sl140 sl141 sl142 sl143 sl144 sl145 sl146 sl147 sl148 sl149 sl150 sl151 sl152 sl153 sl154 sl155 sl156 sl157 sl158 sl159 sl160 sl161 sl162 sl163 sl164 sl165 sl166 sl167 sl168 sl169 sl170 sl171 sl172 sl173 sl174 sl175 sl176 sl177 sl178 sl179 sl180 sl181 sl182 sl183 sl184 sl185 sl186 sl187 sl188 sl189 sl190 sl191 sl192 sl193 sl194 sl195 sl196 sl197 sl198 sl199 sl200 sl201 sl202 sl203 sl204 sl205 sl206 sl207 sl208 sl209 sl210 sl211 sl212 sl213 sl214 sl215 sl216 sl217 sl218 sl219 sl220 sl221 sl222 sl223 sl224 sl225 sl226 sl227 sl228 sl229 sl230 sl231 sl232 sl233 sl234 sl235 sl236 sl237 sl238 sl239 sl240 sl241 sl242 sl243 sl244 sl245 sl246 sl247 sl248 sl249 sl250 sl251 sl252 sl253 sl254 sl255 sl256 sl257 sl258 sl259 sl260 sl261 sl262 sl263 sl264 sl265 sl266 sl267 sl268 sl269 sl270 sl271 sl272 sl273 sl274 sl275 sl276 sl277 sl278 sl279 sl280 sl281 : Value) :
    Code.wp Try.prog ((Try.f9.body.bind (restAt 40)).getD .skip) (bodyPost Try.prog Try.f9 fun e w' => e = Ending.returned (Value.bool true) ∧ Below w0.heap.size w0 w') ⟨#[.slice ao1 n c1, .slice cv len len, .int .i64 a, .int .i64 (b : Int), sl4, sl5, sl6, sl7, sl8, sl9, sl10, .map mo, sl12, .int .i64 (sz : Int), sl14, .bool hw, .int .i64 (wd : Int), .int .u64 bt, sl18, sl19, sl20, sl21, sl22, sl23, sl24, sl25, sl26, sl27, sl28, sl29, sl30, sl31, sl32, sl33, sl34, sl35, sl36, sl37, sl38, sl39, sl40, sl41, sl42, sl43, sl44, sl45, sl46, sl47, sl48, sl49, sl50, sl51, sl52, sl53, sl54, sl55, sl56, sl57, sl58, sl59, sl60, sl61, sl62, sl63, sl64, sl65, sl66, sl67, sl68, sl69, sl70, sl71, sl72, sl73, sl74, sl75, sl76, sl77, sl78, sl79, sl80, sl81, sl82, sl83, sl84, sl85, sl86, sl87, sl88, sl89, sl90, sl91, sl92, sl93, sl94, sl95, sl96, sl97, sl98, sl99, sl100, sl101, sl102, sl103, sl104, sl105, sl106, sl107, sl108, sl109, sl110, sl111, sl112, sl113, sl114, sl115, sl116, sl117, sl118, sl119, sl120, sl121, sl122, sl123, sl124, sl125, sl126, sl127, sl128, sl129, sl130, sl131, sl132, sl133, sl134, sl135, sl136, sl137, sl138, sl139, sl140, sl141, sl142, sl143, sl144, sl145, sl146, sl147, sl148, sl149, sl150, sl151, sl152, sl153, sl154, sl155, sl156, sl157, sl158, sl159, sl160, sl161, sl162, sl163, sl164, sl165, sl166, sl167, sl168, sl169, sl170, sl171, sl172, sl173, sl174, sl175, sl176, sl177, sl178, sl179, sl180, sl181, sl182, sl183, sl184, sl185, sl186, sl187, sl188, sl189, sl190, sl191, sl192, sl193, sl194, sl195, sl196, sl197, sl198, sl199, sl200, sl201, sl202, sl203, sl204, sl205, sl206, sl207, sl208, sl209, sl210, sl211, sl212, sl213, sl214, sl215, sl216, sl217, sl218, sl219, sl220, sl221, sl222, sl223, sl224, sl225, sl226, sl227, sl228, sl229, sl230, sl231, sl232, sl233, sl234, sl235, sl236, sl237, sl238, sl239, sl240, sl241, sl242, sl243, sl244, sl245, sl246, sl247, sl248, sl249, sl250, sl251, sl252, sl253, sl254, sl255, sl256, sl257, sl258, sl259, sl260, sl261, sl262, sl263, sl264, sl265, sl266, sl267, sl268, sl269, sl270, sl271, sl272, sl273, sl274, sl275, sl276, sl277, sl278, sl279, sl280, sl281], []⟩ W := by
  conv => arg 2; whnf

  have hrows := rows_any (.slice ao1 n c1) vs1 rows W (by rw [hn.out]; exact hnb) hls.out hR1.out
  rw [hn.out] at hrows
  have HROWS := hide hrows
  clear hrows
  go_wp2_with fail
  refine HROWS.out.mono ?_
  rintro e w1 ⟨ao2, vs2, rfl, hbits1, hb1⟩
  have HB1 := hide hbits1
  clear hbits1 HROWS
  go_wp2_with fail
  refine (new_any (.slice ao2 n n) _ _ _ rfl _ _).mono ?_
  rintro e w2 ⟨rfl, hw2⟩
  subst hw2
  go_wp2_with fail

  have hbitsA : Bits (w1.alloc (.cells #[.slice ao2 n n, .map mo] 28)) W.heap.size w1.heap.size (.slice ao2 n n) vs2 rows := by
    have hk := HB1.out.kept (w' := w1.alloc (.cells #[.slice ao2 n n, .map mo] 28)) (fun k hk _ _ => Below.heap_alloc _ _ _ hk)
    exact ⟨hk.own, hk.row, hk.apart⟩
  have hsz2 : (w1.alloc (.cells #[.slice ao2 n n, .map mo] 28)).heap.size = w1.heap.size + 1 := by simp
  refine (zadd_bits W.heap.size w1.heap.size mo (.slice ao2 n n) vs2 rows a b wd bt _ hb64 hwd.out hbt.out ha0 ha4 (heap_alloc_new w1 _) hbitsA (by rw [hn.out]; exact hnb) (by rw [hsz2]; have := hb1.size; omega)).mono ?_
  rintro e w3 ⟨held, bv', vs', rows', rfl, hadd, hset3, hbits3, hk3, hbase3⟩
  obtain ⟨ao3, cap3, hbv⟩ := own_form hbits3.own
  subst hbv
  have hheld : held = hw := by rw [hhw.out, addRows_held hadd]
  subst hheld
  have hB3 : Below W.heap.size W w3 := ((hb1.alloc hb1.size (.cells #[.slice ao2 n n, .map mo] 28)).trans (hk3.below (B := W.heap.size) (by rw [hsz2]; have := hb1.size; omega) (fun k hk ho => by
    rcases ho with ho | ⟨ho, _⟩
    · have := hb1.size; omega
    · omega)))
  have hM3 : MapO w3 mo N sz S := hM.out.kept (fun mb e => hB3.block mb (hmo.out mb e).2)
  have hlow := lowRows_of hadd
  have hc1 : w3.cell? ⟨w1.heap.size, 1, none⟩ = some (.map mo) := by rw [cells_cell hset3]; rfl
  have HFACT := hide (And.intro hset3 (And.intro hbits3.read (And.intro hB3 (And.intro hM3 hlow))))
  have hml : rows'.length ≤ 65536 := by rw [hlow.1, hn.out]; omega
  clear hset3 hbits3 hk3 hB3 hlow hadd hbitsA HB1 hM3
  go_upto_if 170 with (go_at_call 31; refine (len_any _ mo N sz S _ (by exact hc1) HFACT.out.2.2.2.1).mono ?_; rintro e w4 ⟨rfl, hw4⟩; have hw5 := hw4.symm; subst hw5)
  go_cut [8] from 29 (fun _ wc => wc = w3)
  case first =>
    go_wp2
    go_meet
    case rel => rfl
  case rest =>
    subst hcut
    obtain ⟨hset3, hR3, hB3, hM3, hlow⟩ := HFACT.out
    refine (‹∀ (a : Act) (w : World), Code.wp Try.prog (Code.seq (Code.seq (Code.region 49 _ _) _) _) _ a w → _› _ _ ?_)
    exact tail49_low w0 _ ao1 ao3 n c1 rows'.length cap3 b wd w1.heap.size a bt vs1 vs' rows rows' hn rfl hb64 (hbel.trans (hB3.mono hbel.size)) hnb hml (hR1.out.below hB3) hR3 hlow cv len zs mo N sz S (hP.out.below hB3) hlen hwf hM3 hS hset3 _ _ _ _ _ _ _ _ _ _ _ _ _ _ _ _ _ _ _ _ _ _ _ _ _ _ _ _ _ _ _ _ _ _ _ _ _ _ _ _ _ _ _ _ _ _ _ _ _ _ _ _ _ _ _ _ _ _ _ _ _ _ _ _ _ _ _ _ _ _ _ _ _ _ _ _ _ _ _ _ _ _ _ _ _ _ _ _ _ _ _ _ _ _ _ _ _ _ _ _ _ _ _ _ _ _ _ _ _ _ _ _ _ _ _ _ _ _ _ _ _ _ _ _ _ _ _ _ _ _ _ _ _ _ _ _ _ _ _ _ _ _ _ _ _ _ _ _ _ _ _ _ _ _ _ _ _ _ _ _ _ _ _ _ _ _ _ _ _ _ _ _ _ _ _ _ _ _ _ _ _ _ _ _ _ _ _ _ _ _ _ _ _ _ _ _ _ _ _ _ _ _ _ _ _ _ _ _ _ _ _ _ _ _ _ _ _ _ _ _ _ _ _ _ _ _ _ _ _ _ _ _ _ _ _ _ _ _ _ _ _ _ _ _ _ _ _ _ _ _ _ _ _ _ _ _ _ _ _ _ _ _ _ _ _ _ _ _ _ _ _ _ _ _ _


set_option maxRecDepth 100000 in
set_option maxHeartbeats 4000000 in
theorem tail40_high (w0 W : World) (ao1 : Option Addr) (n c1 : Nat) (a b : Int) (vs1 : List Value) (rows : List (List Int)) (hb64 : 64 ≤ b) (hok : Hid (okI a ∧ okI b)) (hn : Hid (rows.length = n)) (hbel : Below w0.heap.size w0 W)
    (hnb : n ≤ 65536) (hls : Hid (∀ xs ∈ rows, xs.length ≤ 1048576)) (hR1 : Hid (RowsR W (.slice ao1 n c1) vs1 rows)) (cv : Option Addr) (len : Nat) (zs : List (Int × Int)) (mo : Option Nat) (N sz : Nat) (S : Int → Int → Bool) (hP : Hid (PairsR W cv len zs)) (hlen : len ≤ 65536) (hwf : Hid (∀ p ∈ zs, okI p.1 ∧ okI p.2)) (hM : Hid (MapO W mo N sz S)) (hS : Hid (HoldsAll S zs)) (hsz : sz ≤ 65536) (hN : N ≤ 65536) (hmo : Hid (∀ mb, mo = some mb → w0.heap.size ≤ mb ∧ mb < W.heap.size)) (sl4 sl5 sl6 sl7 sl8 sl9 sl10 sl12 sl14 sl16 sl17 sl18 sl19 sl20 sl21 sl22 sl23 sl24 sl25 sl26 sl27 sl28 sl29 sl30 sl31 sl32 sl33 sl34 sl35 sl36 sl37 sl38 sl39 sl40 sl41 sl42 sl43 sl44 sl45 sl46 sl47 sl48 sl49 sl50 sl51 sl52 sl53 sl54 sl55 sl56 sl57 sl58 sl59 sl60 sl61 sl62 sl63 sl64 sl65 sl66 sl67 sl68 sl69 sl70 sl71 sl72 sl73 sl74 sl75 sl76 sl77 sl78 sl79 sl80 sl81 sl82 sl83 sl84 sl85 sl86 sl87 sl88 sl89 sl90 sl91 sl92 sl93 sl94 sl95 sl96 sl97 sl98 sl99 sl100 sl101 sl102 sl103 sl104 sl105 sl106 sl107 sl108 sl109 sl110 sl111 sl112 sl113 sl114 sl115 sl116 sl117 sl118 sl119 sl120 sl121 sl122 sl123 sl124 sl125 sl126 sl127 sl128 sl129 sl130 sl131 sl132 sl133 sl134 sl135 sl136 sl137 sl138 sl139 sl140 sl141 sl142 sl143 sl144 sl145 sl146 sl147 sl148 sl149 sl150 sl151 sl152 sl153 sl154 sl155 sl156 sl157 sl158 sl159 sl160 sl161 sl162 sl163 sl164 sl165 sl166 sl167 sl168 sl169 sl170 sl171 sl172 sl173 sl174 sl175 sl176 sl177 sl178 sl179 sl180 sl181 sl182 sl183 sl184 sl185 sl186 sl187 sl188 sl189 sl190 sl191 sl192 sl193 sl194 sl195 sl196 sl197 sl198 sl199 sl200 sl201 sl202 sl203 sl204 sl205 sl206 sl207 sl208 sl209 sl210 sl211 sl212 sl213 sl214 sl215 sl216 sl217 sl218 sl219 sl220 sl221 sl222 sl223 sl224 sl225 sl226 sl227 sl228 sl229 sl230 sl231 sl232 sl233 sl234 sl235 sl236 sl237 sl238 sl239 sl240 sl241 sl242 sl243 sl244 sl245 sl246 sl247 sl248 sl249 sl250 sl251 sl252 sl253 sl254 sl255 sl256 sl257 sl258 sl259 sl260 sl261 sl262 sl263 sl264 sl265 sl266 sl267 sl268 sl269 sl270 sl271 sl272 sl273 sl274 sl275 sl276 sl277 sl278 sl279 sl280 sl281 : Value) :
    Code.wp Try.prog ((Try.f9.body.bind (restAt 40)).getD .skip) (bodyPost Try.prog Try.f9 fun e w' => e = Ending.returned (Value.bool true) ∧ Below w0.heap.size w0 w') ⟨#[.slice ao1 n c1, .slice cv len len, .int .i64 a, .int .i64 b, sl4, sl5, sl6, sl7, sl8, sl9, sl10, .map mo, sl12, .int .i64 (sz : Int), sl14, .bool (S a b), sl16, sl17, sl18, sl19, sl20, sl21, sl22, sl23, sl24, sl25, sl26, sl27, sl28, sl29, sl30, sl31, sl32, sl33, sl34, sl35, sl36, sl37, sl38, sl39, sl40, sl41, sl42, sl43, sl44, sl45, sl46, sl47, sl48, sl49, sl50, sl51, sl52, sl53, sl54, sl55, sl56, sl57, sl58, sl59, sl60, sl61, sl62, sl63, sl64, sl65, sl66, sl67, sl68, sl69, sl70, sl71, sl72, sl73, sl74, sl75, sl76, sl77, sl78, sl79, sl80, sl81, sl82, sl83, sl84, sl85, sl86, sl87, sl88, sl89, sl90, sl91, sl92, sl93, sl94, sl95, sl96, sl97, sl98, sl99, sl100, sl101, sl102, sl103, sl104, sl105, sl106, sl107, sl108, sl109, sl110, sl111, sl112, sl113, sl114, sl115, sl116, sl117, sl118, sl119, sl120, sl121, sl122, sl123, sl124, sl125, sl126, sl127, sl128, sl129, sl130, sl131, sl132, sl133, sl134, sl135, sl136, sl137, sl138, sl139, sl140, sl141, sl142, sl143, sl144, sl145, sl146, sl147, sl148, sl149, sl150, sl151, sl152, sl153, sl154, sl155, sl156, sl157, sl158, sl159, sl160, sl161, sl162, sl163, sl164, sl165, sl166, sl167, sl168, sl169, sl170, sl171, sl172, sl173, sl174, sl175, sl176, sl177, sl178, sl179, sl180, sl181, sl182, sl183, sl184, sl185, sl186, sl187, sl188, sl189, sl190, sl191, sl192, sl193, sl194, sl195, sl196, sl197, sl198, sl199, sl200, sl201, sl202, sl203, sl204, sl205, sl206, sl207, sl208, sl209, sl210, sl211, sl212, sl213, sl214, sl215, sl216, sl217, sl218, sl219, sl220, sl221, sl222, sl223, sl224, sl225, sl226, sl227, sl228, sl229, sl230, sl231, sl232, sl233, sl234, sl235, sl236, sl237, sl238, sl239, sl240, sl241, sl242, sl243, sl244, sl245, sl246, sl247, sl248, sl249, sl250, sl251, sl252, sl253, sl254, sl255, sl256, sl257, sl258, sl259, sl260, sl261, sl262, sl263, sl264, sl265, sl266, sl267, sl268, sl269, sl270, sl271, sl272, sl273, sl274, sl275, sl276, sl277, sl278, sl279, sl280, sl281], []⟩ W := by
  conv => arg 2; whnf

  have hrows := rows_any (.slice ao1 n c1) vs1 rows W (by rw [hn.out]; exact hnb) hls.out hR1.out
  rw [hn.out] at hrows
  have HROWS := hide hrows
  clear hrows
  go_wp2_with fail
  refine HROWS.out.mono ?_
  rintro e w1 ⟨ao2, vs2, rfl, hbits1, hb1⟩
  have HB1 := hide hbits1
  clear hbits1 HROWS
  go_wp2_with fail
  refine (new_any (.slice ao2 n n) _ _ _ rfl _ _).mono ?_
  rintro e w2 ⟨rfl, hw2⟩
  subst hw2
  go_wp2_with fail

  have hsz2 : (w1.alloc (.cells #[.slice ao2 n n, .map mo] 28)).heap.size = w1.heap.size + 1 := by simp
  have hbA : Below W.heap.size W (w1.alloc (.cells #[.slice ao2 n n, .map mo] 28)) := hb1.alloc hb1.size _
  refine (zadd_high w1.heap.size mo N sz (.slice ao2 n n) S a b _ hb64 hok.out.1 hok.out.2 (heap_alloc_new w1 _) (hM.out.kept (fun mb e => hbA.block mb (hmo.out mb e).2)) (by unfold maxLen; omega)).mono ?_
  rintro e w3 ⟨rfl, mo', hset3, hM3, hk3⟩
  have HFACT := hide (high_facts hM.out hmo.out hbel hb1 HB1.out hk3)
  have hc1 : w3.cell? ⟨w1.heap.size, 1, none⟩ = some (.map mo') := by rw [cells_cell hset3]; rfl
  have HM3 := hide hM3
  have HSET := hide hset3
  clear hset3 hk3 HB1 hM3 hbA
  go_upto_if 164 with fail
  go_cut [15, 19, 20] from 29 (fun _ _ s wc => s = .int .i64 (szPut S sz a b : Nat) ∧ wc = w3)
  case first =>
    cases hSab : S a b with
    | true =>
      go_wp2
      go_meet
      case rel => exact ⟨by unfold szPut; rw [hSab]; rfl, rfl⟩
    | false =>
      go_wp2
      go_meet
      case rel => exact ⟨by unfold szPut; rw [hSab]; simp, rfl⟩
  case rest =>
    obtain ⟨rfl, hwc⟩ := hcut
    subst hwc
    go_upto_if 170 with (go_at_call 31; refine (len_any _ mo' _ _ _ _ (by exact hc1) HM3.out).mono ?_; rintro e w4 ⟨rfl, hw4⟩; have hw5 := hw4.symm; subst hw5)
    go_cut [8] from 29 (fun _ wd => wd = wc)
    case first =>
      go_wp2
      go_meet
      case rel => rfl
    case rest =>
      subst hcut
      obtain ⟨hb3, hck, hR3⟩ := HFACT.out
      refine (‹∀ (a : Act) (w : World), Code.wp Try.prog (Code.seq (Code.seq (Code.region 49 _ _) _) _) _ a w → _› _ _ ?_)
      exact tail49_high w0 _ ao1 ao2 n c1 n w1.heap.size a b vs1 vs2 rows hn hb64 hb3 hnb (hR1.out.cellsKept hck) hR3 hok cv len zs mo' _ _ (putS S a b) (hP.out.cellsKept hck) hlen hwf HM3 (holds_put hS.out) HSET (put_self S a b) _ _ _ _ _ _ _ _ _ _ _ _ _ _ _ _ _ _ _ _ _ _ _ _ _ _ _ _ _ _ _ _ _ _ _ _ _ _ _ _ _ _ _ _ _ _ _ _ _ _ _ _ _ _ _ _ _ _ _ _ _ _ _ _ _ _ _ _ _ _ _ _ _ _ _ _ _ _ _ _ _ _ _ _ _ _ _ _ _ _ _ _ _ _ _ _ _ _ _ _ _ _ _ _ _ _ _ _ _ _ _ _ _ _ _ _ _ _ _ _ _ _ _ _ _ _ _ _ _ _ _ _ _ _ _ _ _ _ _ _ _ _ _ _ _ _ _ _ _ _ _ _ _ _ _ _ _ _ _ _ _ _ _ _ _ _ _ _ _ _ _ _ _ _ _ _ _ _ _ _ _ _ _ _ _ _ _ _ _ _ _ _ _ _ _ _ _ _ _ _ _ _ _ _ _ _ _ _ _ _ _ _ _ _ _ _ _ _ _ _ _ _ _ _ _ _ _ _ _ _ _ _ _ _ _ _ _ _ _ _ _ _ _ _ _ _ _ _ _ _ _ _ _ _ _ _ _ _ _ _ _ _ _ _ _ _ _ _ _ _ _ _ _ _ _ _ _

end Go.Proofs.Qxb6601407a
