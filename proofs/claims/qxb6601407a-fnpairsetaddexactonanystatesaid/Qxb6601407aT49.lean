import Derived.Test.Qxb6601407aT56
import Derived.Test.Qxb6601407aT62H
import Derived.Test.Qxb6601407aExactD
namespace Go.Proofs.Qxb6601407a
open Go.RowKit
set_option linter.unusedVariables false

theorem mapO_lt {w : World} {mo : Option Nat} {n sz : Nat} {S : Int → Int → Bool} (h : MapO w mo n sz S) {mb : Nat} (e : mo = some mb) : mb < w.heap.size := by
  rcases h with ⟨h, _⟩ | ⟨mb', h, hs⟩
  · rw [h] at e; cases e
  · rw [h] at e
    cases e
    obtain ⟨es, cl, hb⟩ := hs.block
    exact (Array.getElem?_eq_some_iff.1 hb).1

set_option maxRecDepth 100000 in
set_option maxHeartbeats 4000000 in
theorem tail49_low (w0 W : World) (ao1 ao2 : Option Addr) (n c1 m c2 b wd sb : Nat) (a bt : Int) (vs1 vs2 : List Value) (rows rows' : List (List Int)) (hn : Hid (rows.length = n)) (hm : Hid (rows'.length = m)) (hb64 : b < 64) (hbel : Below w0.heap.size w0 W)
    (hnb : n ≤ 65536) (hmb : m ≤ 65536) (hR1 : Hid (RowsR W (.slice ao1 n c1) vs1 rows)) (hR2 : Hid (RowsR W (.slice ao2 m c2) vs2 rows')) (hL : Hid (LowRows rows b wd bt rows')) (cv : Option Addr) (len : Nat) (zs : List (Int × Int)) (mo : Option Nat) (N sz : Nat) (S : Int → Int → Bool) (hP : Hid (PairsR W cv len zs)) (hlen : len ≤ 65536) (hwf : Hid (∀ p ∈ zs, okI p.1 ∧ okI p.2)) (hM : Hid (MapO W mo N sz S)) (hS : Hid (HoldsAll S zs)) (hset : Hid (W.heap[sb]? = some (.cells #[.slice ao2 m c2, .map mo] 28 (0, 0)))) (sl4 sl5 sl6 sl7 sl8 sl9 sl10 sl11 sl12 sl13 sl14 sl15 sl19 sl20 sl21 sl22 sl23 sl24 sl25 sl26 sl27 sl28 sl29 sl30 sl31 sl32 sl33 sl34 sl35 sl36 sl37 sl38 sl39 sl40 sl41 sl42 sl43 sl44 sl45 sl46 sl47 sl48 sl49 sl50 sl51 sl52 sl53 sl54 sl55 sl56 sl57 sl58 sl59 sl60 sl61 sl62 sl63 sl64 sl65 sl66 sl67 sl68 sl69 sl70 sl71 sl72 sl73 sl74 sl75 sl76 sl77 sl78 sl79 sl80 sl81 sl82 sl83 sl84 sl85 sl86 sl87 sl88 sl89 sl90 sl91 sl92 sl93 sl94 sl95 sl96 sl97 sl98 sl99 sl100 sl101 sl102 sl103 sl104 sl105 sl106 sl107 sl108 sl109 sl110 sl111 sl112 sl113 sl114 sl115 sl116 sl117 sl118 sl119 sl120 sl121 sl122 sl123 sl124 sl125 sl126 sl127 sl128 sl129 sl130 sl131 sl132 sl133 sl134 sl135 sl136 sl137 sl138 sl139 sl140 sl141 sl142 sl143 sl144 sl145 sl146 sl147 sl148 sl149 sl150 sl151 sl152 sl153 sl154 sl155 sl156 sl157 sl158 sl159 sl160 sl161 sl162 sl163 sl164 sl165 sl166 sl167 sl168 sl169 sl170 sl171 sl172 sl173 sl174 sl175 sl176 sl177 sl178 sl179 sl180 sl181 sl182 sl183 sl184 sl185 sl186 sl187 sl188 sl189 sl190 sl191 sl192 sl193 sl194 sl195 sl196 sl197 sl198 sl199 sl200 sl201 sl202 sl203 sl204 sl205 sl206 sl207 sl208 sl209 sl210 sl211 sl212 sl213 sl214 sl215 sl216 sl217 sl218 sl219 sl220 sl221 sl222 sl223 sl224 sl225 sl226 sl227 sl228 sl229 sl230 sl231 sl232 sl233 sl234 sl235 sl236 sl237 sl238 sl239 sl240 sl241 sl242 sl243 sl244 sl245 sl246 sl247 sl248 sl249 sl250 sl251 sl252 sl253 sl254 sl255 sl256 sl257 sl258 sl259 sl260 sl261 sl262 sl263 sl264 sl265 sl266 sl267 sl268 sl269 sl270 sl271 sl272 sl273 sl274 sl275 sl276 sl277 sl278 sl279 sl280 sl281 : Value) :
    Code.wp Try.prog ((Try.f9.body.bind (restAt 49)).getD .skip) (bodyPost Try.prog Try.f9 fun e w' => e = Ending.returned (Value.bool true) ∧ Below w0.heap.size w0 w') ⟨#[.slice ao1 n c1, .slice cv len len, .int .i64 a, .int .i64 (b : Int), sl4, sl5, sl6, sl7, sl8, sl9, sl10, sl11, sl12, sl13, sl14, sl15, .int .i64 (wd : Int), .int .u64 bt, .pointer (some ⟨sb, 0, none⟩), sl19, sl20, sl21, sl22, sl23, sl24, sl25, sl26, sl27, sl28, sl29, sl30, sl31, sl32, sl33, sl34, sl35, sl36, sl37, sl38, sl39, sl40, sl41, sl42, sl43, sl44, sl45, sl46, sl47, sl48, sl49, sl50, sl51, sl52, sl53, sl54, sl55, sl56, sl57, sl58, sl59, sl60, sl61, sl62, sl63, sl64, sl65, sl66, sl67, sl68, sl69, sl70, sl71, sl72, sl73, sl74, sl75, sl76, sl77, sl78, sl79, sl80, sl81, sl82, sl83, sl84, sl85, sl86, sl87, sl88, sl89, sl90, sl91, sl92, sl93, sl94, sl95, sl96, sl97, sl98, sl99, sl100, sl101, sl102, sl103, sl104, sl105, sl106, sl107, sl108, sl109, sl110, sl111, sl112, sl113, sl114, sl115, sl116, sl117, sl118, sl119, sl120, sl121, sl122, sl123, sl124, sl125, sl126, sl127, sl128, sl129, sl130, sl131, sl132, sl133, sl134, sl135, sl136, sl137, sl138, sl139, sl140, sl141, sl142, sl143, sl144, sl145, sl146, sl147, sl148, sl149, sl150, sl151, sl152, sl153, sl154, sl155, sl156, sl157, sl158, sl159, sl160, sl161, sl162, sl163, sl164, sl165, sl166, sl167, sl168, sl169, sl170, sl171, sl172, sl173, sl174, sl175, sl176, sl177, sl178, sl179, sl180, sl181, sl182, sl183, sl184, sl185, sl186, sl187, sl188, sl189, sl190, sl191, sl192, sl193, sl194, sl195, sl196, sl197, sl198, sl199, sl200, sl201, sl202, sl203, sl204, sl205, sl206, sl207, sl208, sl209, sl210, sl211, sl212, sl213, sl214, sl215, sl216, sl217, sl218, sl219, sl220, sl221, sl222, sl223, sl224, sl225, sl226, sl227, sl228, sl229, sl230, sl231, sl232, sl233, sl234, sl235, sl236, sl237, sl238, sl239, sl240, sl241, sl242, sl243, sl244, sl245, sl246, sl247, sl248, sl249, sl250, sl251, sl252, sl253, sl254, sl255, sl256, sl257, sl258, sl259, sl260, sl261, sl262, sl263, sl264, sl265, sl266, sl267, sl268, sl269, sl270, sl271, sl272, sl273, sl274, sl275, sl276, sl277, sl278, sl279, sl280, sl281], []⟩ W := by
  conv => arg 2; whnf

  go_wp2
  go_loopw [21] (fun i wr => ∃ j : Nat, j ≤ len ∧ i = .int .i64 j ∧ Below W.heap.size W wr) (fun i _ => len - (intOf i).toNat)
  case atStart => exact ⟨0, Nat.zero_le _, rfl, Below.refl _ _⟩
  case round =>
    obtain ⟨j, hj, rfl, hbr⟩ := hrel
    have hsl : sb < W.heap.size := (Array.getElem?_eq_some_iff.1 hset.out).1
    have hc1 : wr.cell? ⟨sb, 1, none⟩ = some (.map mo) := by rw [hbr.cell (p := ⟨sb, 1, none⟩) hsl, cells_cell hset.out]; rfl
    have HMr := hide (hM.out.kept (fun mb e => hbr.block mb (mapO_lt hM.out e)))
    by_cases hlt : j < len
    · obtain ⟨cb, coff, rfl, hpa, hcb⟩ := hP.out.2.2 (by omega)
      obtain ⟨x, y, hxy, hx, hy⟩ := (hpa.below hbr hcb).at hlt
      have hSxy : S x y = true := hS.out _ (List.mem_of_getElem? hxy)
      have hw := hwf.out _ (List.mem_of_getElem? hxy)
      have HO := hide hw
      have hji : (j : Int) < (len : Int) := by omega
      have hj0 : (0 : Int) ≤ (j : Int) := by omega
      have hne1 := World.new_ne wr ⟨cb, coff + j * 2, none⟩ hx
      have hne2 := World.new_ne wr ⟨cb, coff + j * 2 + 1, none⟩ hy
      clear hpa hxy hw
      go_wp2
      go_region_held3 (fun w' => w'.cell? ⟨cb, coff + j * 2, none⟩ = some (.int .i64 x) ∧ w'.cell? ⟨cb, coff + j * 2 + 1, none⟩ = some (.int .i64 y)) (go_keep)
        ((go_at_call 32; refine (has_any _ mo N sz S x y _ HO.out.1 HO.out.2 (by exact hc1) (by exact HMr.out)).mono ?_; rintro e w' ⟨rfl, rfl⟩))
      go_wp2
      go_roundw
      case rel => exact ⟨j + 1, by omega, by go_num, by first | exact (hbr.alloc hbr.size _) | exact (hbr.alloc hbr.size _).drew | exact (hbr.drew.alloc hbr.size _)⟩
      case measure => simp [intOf]; omega
    · go_upto_if 198 with fail
      go_cut [8] from 29 (fun _ wc => wc = wr)
      case first =>
        go_wp2
        go_meet
        case rel => rfl
      case rest =>
        have hc0 : wr.cell? ⟨sb, 0, none⟩ = some (.slice ao2 m c2) := by rw [hbr.cell (p := ⟨sb, 0, none⟩) hsl, cells_cell hset.out]; rfl
        subst hcut
        refine (‹∀ (a : Act) (w : World), Code.wp Try.prog (Code.seq (Code.region 56 _ _) _) _ a w → _› _ _ ?_)
        exact tail56_low w0 _ ao1 ao2 n c1 m c2 b wd sb bt vs1 vs2 rows rows' hn hm hb64 (hbel.trans (hbr.mono hbel.size)) hnb hmb (hR1.out.below hbr) (hR2.out.below hbr) hL hc0 _ _ _ _ _ _ _ _ _ _ _ _ _ _ _ _ _ _ _ _ _ _ _ _ _ _ _ _ _ _ _ _ _ _ _ _ _ _ _ _ _ _ _ _ _ _ _ _ _ _ _ _ _ _ _ _ _ _ _ _ _ _ _ _ _ _ _ _ _ _ _ _ _ _ _ _ _ _ _ _ _ _ _ _ _ _ _ _ _ _ _ _ _ _ _ _ _ _ _ _ _ _ _ _ _ _ _ _ _ _ _ _ _ _ _ _ _ _ _ _ _ _ _ _ _ _ _ _ _ _ _ _ _ _ _ _ _ _ _ _ _ _ _ _ _ _ _ _ _ _ _ _ _ _ _ _ _ _ _ _ _ _ _ _ _ _ _ _ _ _ _ _ _ _ _ _ _ _ _ _ _ _ _ _ _ _ _ _ _ _ _ _ _ _ _ _ _ _ _ _ _ _ _ _ _ _ _ _ _ _ _ _ _ _ _ _ _ _ _ _ _ _ _ _ _ _ _ _ _ _ _ _ _ _ _ _ _ _ _ _ _ _ _ _ _ _ _ _ _ _ _ _ _ _ _ _ _ _ _ _ _ _ _ _ _ _ _ _ _ _ _ _ _ _ _ _ _


set_option maxRecDepth 100000 in
set_option maxHeartbeats 4000000 in
theorem tail49_high (w0 W : World) (ao1 ao2 : Option Addr) (n c1 c2 sb : Nat) (a b : Int) (vs1 vs2 : List Value) (rows : List (List Int)) (hn : Hid (rows.length = n)) (hb64 : 64 ≤ b) (hbel : Below w0.heap.size w0 W)
    (hnb : n ≤ 65536) (hR1 : Hid (RowsR W (.slice ao1 n c1) vs1 rows)) (hR2 : Hid (RowsR W (.slice ao2 n c2) vs2 rows)) (hok : Hid (okI a ∧ okI b)) (cv : Option Addr) (len : Nat) (zs : List (Int × Int)) (mo : Option Nat) (N sz : Nat) (S : Int → Int → Bool) (hP : Hid (PairsR W cv len zs)) (hlen : len ≤ 65536) (hwf : Hid (∀ p ∈ zs, okI p.1 ∧ okI p.2)) (hM : Hid (MapO W mo N sz S)) (hS : Hid (HoldsAll S zs)) (hset : Hid (W.heap[sb]? = some (.cells #[.slice ao2 n c2, .map mo] 28 (0, 0)))) (hSab : S a b = true) (sl4 sl5 sl6 sl7 sl8 sl9 sl10 sl11 sl12 sl13 sl14 sl15 sl16 sl17 sl19 sl20 sl21 sl22 sl23 sl24 sl25 sl26 sl27 sl28 sl29 sl30 sl31 sl32 sl33 sl34 sl35 sl36 sl37 sl38 sl39 sl40 sl41 sl42 sl43 sl44 sl45 sl46 sl47 sl48 sl49 sl50 sl51 sl52 sl53 sl54 sl55 sl56 sl57 sl58 sl59 sl60 sl61 sl62 sl63 sl64 sl65 sl66 sl67 sl68 sl69 sl70 sl71 sl72 sl73 sl74 sl75 sl76 sl77 sl78 sl79 sl80 sl81 sl82 sl83 sl84 sl85 sl86 sl87 sl88 sl89 sl90 sl91 sl92 sl93 sl94 sl95 sl96 sl97 sl98 sl99 sl100 sl101 sl102 sl103 sl104 sl105 sl106 sl107 sl108 sl109 sl110 sl111 sl112 sl113 sl114 sl115 sl116 sl117 sl118 sl119 sl120 sl121 sl122 sl123 sl124 sl125 sl126 sl127 sl128 sl129 sl130 sl131 sl132 sl133 sl134 sl135 sl136 sl137 sl138 sl139 sl140 sl141 sl142 sl143 sl144 sl145 sl146 sl147 sl148 sl149 sl150 sl151 sl152 sl153 sl154 sl155 sl156 sl157 sl158 sl159 sl160 sl161 sl162 sl163 sl164 sl165 sl166 sl167 sl168 sl169 sl170 sl171 sl172 sl173 sl174 sl175 sl176 sl177 sl178 sl179 sl180 sl181 sl182 sl183 sl184 sl185 sl186 sl187 sl188 sl189 sl190 sl191 sl192 sl193 sl194 sl195 sl196 sl197 sl198 sl199 sl200 sl201 sl202 sl203 sl204 sl205 sl206 sl207 sl208 sl209 sl210 sl211 sl212 sl213 sl214 sl215 sl216 sl217 sl218 sl219 sl220 sl221 sl222 sl223 sl224 sl225 sl226 sl227 sl228 sl229 sl230 sl231 sl232 sl233 sl234 sl235 sl236 sl237 sl238 sl239 sl240 sl241 sl242 sl243 sl244 sl245 sl246 sl247 sl248 sl249 sl250 sl251 sl252 sl253 sl254 sl255 sl256 sl257 sl258 sl259 sl260 sl261 sl262 sl263 sl264 sl265 sl266 sl267 sl268 sl269 sl270 sl271 sl272 sl273 sl274 sl275 sl276 sl277 sl278 sl279 sl280 sl281 : Value) :
    Code.wp Try.prog ((Try.f9.body.bind (restAt 49)).getD .skip) (bodyPost Try.prog Try.f9 fun e w' => e = Ending.returned (Value.bool true) ∧ Below w0.heap.size w0 w') ⟨#[.slice ao1 n c1, .slice cv len len, .int .i64 a, .int .i64 b, sl4, sl5, sl6, sl7, sl8, sl9, sl10, sl11, sl12, sl13, sl14, sl15, sl16, sl17, .pointer (some ⟨sb, 0, none⟩), sl19, sl20, sl21, sl22, sl23, sl24, sl25, sl26, sl27, sl28, sl29, sl30, sl31, sl32, sl33, sl34, sl35, sl36, sl37, sl38, sl39, sl40, sl41, sl42, sl43, sl44, sl45, sl46, sl47, sl48, sl49, sl50, sl51, sl52, sl53, sl54, sl55, sl56, sl57, sl58, sl59, sl60, sl61, sl62, sl63, sl64, sl65, sl66, sl67, sl68, sl69, sl70, sl71, sl72, sl73, sl74, sl75, sl76, sl77, sl78, sl79, sl80, sl81, sl82, sl83, sl84, sl85, sl86, sl87, sl88, sl89, sl90, sl91, sl92, sl93, sl94, sl95, sl96, sl97, sl98, sl99, sl100, sl101, sl102, sl103, sl104, sl105, sl106, sl107, sl108, sl109, sl110, sl111, sl112, sl113, sl114, sl115, sl116, sl117, sl118, sl119, sl120, sl121, sl122, sl123, sl124, sl125, sl126, sl127, sl128, sl129, sl130, sl131, sl132, sl133, sl134, sl135, sl136, sl137, sl138, sl139, sl140, sl141, sl142, sl143, sl144, sl145, sl146, sl147, sl148, sl149, sl150, sl151, sl152, sl153, sl154, sl155, sl156, sl157, sl158, sl159, sl160, sl161, sl162, sl163, sl164, sl165, sl166, sl167, sl168, sl169, sl170, sl171, sl172, sl173, sl174, sl175, sl176, sl177, sl178, sl179, sl180, sl181, sl182, sl183, sl184, sl185, sl186, sl187, sl188, sl189, sl190, sl191, sl192, sl193, sl194, sl195, sl196, sl197, sl198, sl199, sl200, sl201, sl202, sl203, sl204, sl205, sl206, sl207, sl208, sl209, sl210, sl211, sl212, sl213, sl214, sl215, sl216, sl217, sl218, sl219, sl220, sl221, sl222, sl223, sl224, sl225, sl226, sl227, sl228, sl229, sl230, sl231, sl232, sl233, sl234, sl235, sl236, sl237, sl238, sl239, sl240, sl241, sl242, sl243, sl244, sl245, sl246, sl247, sl248, sl249, sl250, sl251, sl252, sl253, sl254, sl255, sl256, sl257, sl258, sl259, sl260, sl261, sl262, sl263, sl264, sl265, sl266, sl267, sl268, sl269, sl270, sl271, sl272, sl273, sl274, sl275, sl276, sl277, sl278, sl279, sl280, sl281], []⟩ W := by
  conv => arg 2; whnf

  go_wp2
  go_loopw [21] (fun i wr => ∃ j : Nat, j ≤ len ∧ i = .int .i64 j ∧ Below W.heap.size W wr) (fun i _ => len - (intOf i).toNat)
  case atStart => exact ⟨0, Nat.zero_le _, rfl, Below.refl _ _⟩
  case round =>
    obtain ⟨j, hj, rfl, hbr⟩ := hrel
    have hsl : sb < W.heap.size := (Array.getElem?_eq_some_iff.1 hset.out).1
    have hc1 : wr.cell? ⟨sb, 1, none⟩ = some (.map mo) := by rw [hbr.cell (p := ⟨sb, 1, none⟩) hsl, cells_cell hset.out]; rfl
    have HMr := hide (hM.out.kept (fun mb e => hbr.block mb (mapO_lt hM.out e)))
    by_cases hlt : j < len
    · obtain ⟨cb, coff, rfl, hpa, hcb⟩ := hP.out.2.2 (by omega)
      obtain ⟨x, y, hxy, hx, hy⟩ := (hpa.below hbr hcb).at hlt
      have hSxy : S x y = true := hS.out _ (List.mem_of_getElem? hxy)
      have hw := hwf.out _ (List.mem_of_getElem? hxy)
      have HO := hide hw
      have hji : (j : Int) < (len : Int) := by omega
      have hj0 : (0 : Int) ≤ (j : Int) := by omega
      have hne1 := World.new_ne wr ⟨cb, coff + j * 2, none⟩ hx
      have hne2 := World.new_ne wr ⟨cb, coff + j * 2 + 1, none⟩ hy
      clear hpa hxy hw
      go_wp2
      go_region_held3 (fun w' => w'.cell? ⟨cb, coff + j * 2, none⟩ = some (.int .i64 x) ∧ w'.cell? ⟨cb, coff + j * 2 + 1, none⟩ = some (.int .i64 y)) (go_keep)
        ((go_at_call 32; refine (has_any _ mo N sz S x y _ HO.out.1 HO.out.2 (by exact hc1) (by exact HMr.out)).mono ?_; rintro e w' ⟨rfl, rfl⟩))
      go_wp2
      go_roundw
      case rel => exact ⟨j + 1, by omega, by go_num, by first | exact (hbr.alloc hbr.size _) | exact (hbr.alloc hbr.size _).drew | exact (hbr.drew.alloc hbr.size _)⟩
      case measure => simp [intOf]; omega
    · go_upto_if 198 with (go_at_call 32; refine (has_any _ mo N sz S a b _ hok.out.1 hok.out.2 (by exact hc1) (by exact HMr.out)).mono ?_; rintro e w' ⟨rfl, rfl⟩)
      go_cut [8] from 29 (fun _ wc => wc = wr.alloc (.cells #[] 57))
      case first =>
        go_wp2
        go_meet
        case rel => rfl
      case rest =>
        have hba : Below W.heap.size W (wr.alloc (.cells #[] 57)) := hbr.alloc hbr.size _
        have hc0 : (wr.alloc (.cells #[] 57)).cell? ⟨sb, 0, none⟩ = some (.slice ao2 n c2) := by rw [hba.cell (p := ⟨sb, 0, none⟩) hsl, cells_cell hset.out]; rfl
        subst hcut
        refine (‹∀ (a : Act) (w : World), Code.wp Try.prog (Code.seq (Code.region 56 _ _) _) _ a w → _› _ _ ?_)
        exact tail56_high w0 _ ao1 ao2 n c1 c2 sb b vs1 vs2 rows hn hb64 (hbel.trans (hba.mono hbel.size)) hnb (hR1.out.below hba) (hR2.out.below hba) hc0 _ _ _ _ _ _ _ _ _ _ _ _ _ _ _ _ _ _ _ _ _ _ _ _ _ _ _ _ _ _ _ _ _ _ _ _ _ _ _ _ _ _ _ _ _ _ _ _ _ _ _ _ _ _ _ _ _ _ _ _ _ _ _ _ _ _ _ _ _ _ _ _ _ _ _ _ _ _ _ _ _ _ _ _ _ _ _ _ _ _ _ _ _ _ _ _ _ _ _ _ _ _ _ _ _ _ _ _ _ _ _ _ _ _ _ _ _ _ _ _ _ _ _ _ _ _ _ _ _ _ _ _ _ _ _ _ _ _ _ _ _ _ _ _ _ _ _ _ _ _ _ _ _ _ _ _ _ _ _ _ _ _ _ _ _ _ _ _ _ _ _ _ _ _ _ _ _ _ _ _ _ _ _ _ _ _ _ _ _ _ _ _ _ _ _ _ _ _ _ _ _ _ _ _ _ _ _ _ _ _ _ _ _ _ _ _ _ _ _ _ _ _ _ _ _ _ _ _ _ _ _ _ _ _ _ _ _ _ _ _ _ _ _ _ _ _ _ _ _ _ _ _ _ _ _ _ _ _ _ _ _ _ _ _ _ _ _ _ _ _ _ _ _ _ _ _ _ _ _

end Go.Proofs.Qxb6601407a
