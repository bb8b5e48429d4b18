import Derived.Test.YbulkebqyDoorPartD
import Derived.Test.YbulkebqyDoorBuild
import Derived.Test.YbulkebqyDoorPlace
namespace Go.Proofs.YbulkebqyDoor
open Go.RowKit Go.Deep

set_option maxRecDepth 100000 in
set_option maxHeartbeats 4000000 in
theorem part_C1 (u7 u8 u9 u10 u11 u12 u13 u14 u15 u16 u17 u18 u19 u20 u21 u22 u23 u24 u25 u26 u27 u28 u29 u30 u31 u32 u33 u34 u35 u36 u37 u38 u39 u40 u41 u42 u43 u44 u45 u46 u47 u48 u49 u50 u51 u52 u53 u54 u55 u56 u57 u58 u59 u60 u61 u62 u63 u64 u65 u66 u67 u68 u69 u70 u71 u72 u73 u74 u75 u76 u77 u78 u79 u80 u81 u82 u83 u84 u85 u86 u87 u88 u89 u90 u91 u92 u93 u94 u95 u96 u97 u98 u99 u100 u101 u102 u103 u104 u105 u106 u107 u108 u109 u110 u111 u112 u113 u114 u115 u116 u117 u118 u119 u120 u121 u122 u123 u124 u125 u126 u127 u128 u129 u130 u131 u132 u133 u134 u135 u136 u137 u138 u139 u140 u141 u142 u143 u144 u145 u146 u147 u148 u149 u150 u151 u152 u153 u154 u155 u156 u157 u158 u159 u160 u161 u162 u163 u164 u165 u166 u167 u168 u169 u170 u171 u172 u173 u174 u175 u176 u177 u178 u179 u180 u181 u182 u183 u184 u185 u186 u187 u188 u189 u190 u191 u192 u193 u194 u195 u196 u197 u198 u199 u200 u201 u202 u203 u204 u205 u206 u207 u208 u209 u210 u211 u212 u213 u214 u215 u216 u217 u218 u219 u220 u221 u222 u223 u224 u225 u226 u227 u228 u229 u230 u231 u232 u233 u234 u235 u236 u237 u238 u239 u240 u241 u242 u243 u244 u245 u246 u247 u248 u249 u250 u251 u252 u253 u254 u255 u256 u257 u258 u259 u260 u261 u262 u263 u264 u265 u266 u267 u268 u269 u270 u271 u272 u273 u274 u275 u276 u277 u278 u279 u280 u281 u282 u283 u284 u285 u286 u287 u288 u289 u290 u291 u292 u293 u294 u295 u296 u297 u298 u299 u300 u301 u302 u303 u304 u305 u306 u307 u308 u309 u310 u311 u312 u313 u314 u315 u316 u317 u318 u319 u320 u321 u322 u323 u324 u325 u326 u327 u328 u329 u330 u331 u332 u333 u334 u335 u336 u337 u338 u339 u340 u341 u342 u343 u344 u345 u346 u347 u348 u349 u350 u351 u352 u353 u354 u355 u356 u357 u358 u359 u360 u361 u362 u363 u364 u365 u366 u367 u368 u369 u370 u371 u372 u373 u374 u375 u376 u377 u378 u379 : Value)
    (tx nF : Int) (xb xo n xc bl bc tl tc : Nat) (ba ta : Option Addr) (X : Tx) (bt td : Nat → Int) (tr eo : Bool) (wS w0 : World)
    (htx0 : 0 ≤ tx) (htx1 : tx ≤ 18446744073709551615) (hnF0 : 0 ≤ nF) (hnF1 : nF ≤ 255) (hTx : TxOk w0 xb xo n X) (hb : bl ≤ 1048576) (ht : tl ≤ 1048576) (hbt : ArgRow w0 ba bl (fun j => .int .u64 (bt j))) (htd : ArgRow w0 ta tl (fun j => .int .u64 (td j))) (hK : Keeps (fun _ => False) wS w0) :
    wpStmts Ybad.prog (stmtsFrom Ybad.f3 10) (bodyPost Ybad.prog Ybad.f3 fun e w' => e = Ending.returned (Value.bool true) ∧ Keeps (fun _ => False) wS w') ⟨#[.int .u64 tx, .slice (some ⟨xb, xo, none⟩) n xc, .slice ba bl bc, .slice ta tl tc, .bool tr, .int .u8 nF, .bool eo, u7, u8, u9, u10, u11, u12, u13, u14, u15, u16, u17, u18, u19, u20, u21, u22, u23, u24, u25, u26, u27, u28, u29, u30, u31, u32, u33, u34, u35, u36, u37, u38, u39, u40, u41, u42, u43, u44, u45, u46, u47, u48, u49, u50, u51, u52, u53, u54, u55, u56, u57, u58, u59, u60, u61, u62, u63, u64, u65, u66, u67, u68, u69, u70, u71, u72, u73, u74, u75, u76, u77, u78, u79, u80, u81, u82, u83, u84, u85, u86, u87, u88, u89, u90, u91, u92, u93, u94, u95, u96, u97, u98, u99, u100, u101, u102, u103, u104, u105, u106, u107, u108, u109, u110, u111, u112, u113, u114, u115, u116, u117, u118, u119, u120, u121, u122, u123, u124, u125, u126, u127, u128, u129, u130, u131, u132, u133, u134, u135, u136, u137, u138, u139, u140, u141, u142, u143, u144, u145, u146, u147, u148, u149, u150, u151, u152, u153, u154, u155, u156, u157, u158, u159, u160, u161, u162, u163, u164, u165, u166, u167, u168, u169, u170, u171, u172, u173, u174, u175, u176, u177, u178, u179, u180, u181, u182, u183, u184, u185, u186, u187, u188, u189, u190, u191, u192, u193, u194, u195, u196, u197, u198, u199, u200, u201, u202, u203, u204, u205, u206, u207, u208, u209, u210, u211, u212, u213, u214, u215, u216, u217, u218, u219, u220, u221, u222, u223, u224, u225, u226, u227, u228, u229, u230, u231, u232, u233, u234, u235, u236, u237, u238, u239, u240, u241, u242, u243, u244, u245, u246, u247, u248, u249, u250, u251, u252, u253, u254, u255, u256, u257, u258, u259, u260, u261, u262, u263, u264, u265, u266, u267, u268, u269, u270, u271, u272, u273, u274, u275, u276, u277, u278, u279, u280, u281, u282, u283, u284, u285, u286, u287, u288, u289, u290, u291, u292, u293, u294, u295, u296, u297, u298, u299, u300, u301, u302, u303, u304, u305, u306, u307, u308, u309, u310, u311, u312, u313, u314, u315, u316, u317, u318, u319, u320, u321, u322, u323, u324, u325, u326, u327, u328, u329, u330, u331, u332, u333, u334, u335, u336, u337, u338, u339, u340, u341, u342, u343, u344, u345, u346, u347, u348, u349, u350, u351, u352, u353, u354, u355, u356, u357, u358, u359, u360, u361, u362, u363, u364, u365, u366, u367, u368, u369, u370, u371, u372, u373, u374, u375, u376, u377, u378, u379], []⟩ w0 := by
  have HTx := hid hTx
  have HK := hid hK
  have HBT := hid hbt
  have HTD := hid htd
  have n1 := hTx.n1
  have n2 := hTx.n2
  clear hTx hK hbt htd
  refine wpStmts_k (ss := stmtsFrom Ybad.f3 11) rfl fun K hK => ?_
  have Hk := hid hK
  clear hK
  go_wp2
  refine Hk.out _ _ ?_
  clear Hk K
  refine wpStmts_k (ss := stmtsFrom Ybad.f3 12) rfl fun K hK => ?_
  have Hk := hid hK
  clear hK
  go_wp2_with fail
  refine (norm_any xb xo n xc X w0 HTx.out.is n1 n2 HTx.out.L HTx.out.M HTx.out.Y).mono ?_
  rintro e w1 ⟨rfl, hN, hk1⟩
  have HN := hid hN
  have HK01 := hid hk1
  have HK1 := hid (tr0 HK.out hk1)
  clear hN hk1
  go_wp2
  refine Hk.out _ _ ?_
  clear Hk K
  obtain ⟨nf, hnf⟩ : ∃ nf : Nat, (nf : Int) = nF % 8 := ⟨(nF % 8).toNat, by omega⟩
  have hnf8 : nf ≤ 8 := by omega
  have enf : nF % 8 = (nf : Int) := hnf.symm
  obtain ⟨t, htt⟩ : ∃ t : Nat, (t : Int) = tx % (n : Int) := ⟨(tx % (n : Int)).toNat, by have : 0 ≤ tx % (n : Int) := Int.emod_nonneg _ (by omega); omega⟩
  have htn : t < n := by
    have : tx % (n : Int) < (n : Int) := Int.emod_lt_of_pos _ (by omega)
    omega
  have ett : tx % (n : Int) = (t : Int) := htt.symm
  clear hnf htt
  refine wpStmts_k (ss := stmtsFrom Ybad.f3 13) rfl fun K hK => ?_
  have Hk := hid hK
  clear hK
  go_wp2
  refine Hk.out _ _ ?_
  clear Hk K
  try rw [enf]
  refine wpStmts_k (ss := stmtsFrom Ybad.f3 14) rfl fun K hK => ?_
  have Hk := hid hK
  clear hK
  go_wp2
  refine Hk.out _ _ ?_
  clear Hk K
  try rw [enf]
  try rw [ett]
  clear enf ett
  refine wpStmts_k (ss := stmtsFrom Ybad.f3 15) rfl fun K hK => ?_
  have Hk := hid hK
  clear hK
  go_wp2_with fail
  refine (build_any n nf w0.heap.size (w0.heap.size + 1) (w0.heap.size + 3) (w0.heap.size + 5) (w0.heap.size + 4) (w0.heap.size + 2) n n n n n n bl bc tl tc ba ta (fun i => w0.heap.size + 6 + i) X.L X.L X.kp X.pl X.rd X.wt (fun i j => X.Y i j % n) (fun i => X.mb i % n) bt td tr eo w1
    (Rw.of_row HN.out.kp) (Rw.of_row HN.out.pl) (Rw.of_row HN.out.wt) (Rw.of_row HN.out.sc) (fun i hi => Rw.of_row (HN.out.su i hi)) (Rw.of_row HN.out.mb) (Rw.of_row HN.out.rd) (HBT.out.keeps HK01.out) (HTD.out.keeps HK01.out) n1 n2 hnf8 hb ht HTx.out.L
    (fun i _ => Nat.mod_lt _ (by omega)) (fun i j _ _ => Nat.mod_lt _ (by omega))).mono ?_
  rintro e w2 ⟨h, ov, tv, rfl, hst, hok, hk2, hfr, hhn, hhf, hhs, hhl, hhss, hhK, hhW⟩
  obtain ⟨D, hD⟩ : ∃ D, D = bData n bl tl X.kp X.pl X.rd X.wt (fun i j => X.Y i j % n) (fun i => X.mb i % n) bt td tr := ⟨_, rfl⟩
  rw [← hD] at hst hok
  have HD := hid hD
  have HST := hid hst
  have HOK := hid hok
  have HK2 := hid hk2
  have HFR := hid hfr
  have Hsn := hid hhn
  have Hsf := hid hhf
  have Hss := hid hhs
  have Hsl := hid hhl
  have Hsss := hid hhss
  have HsK := hid hhK
  have HsW := hid hhW
  have q0 : w2.cell? ⟨h.qb, 0, none⟩ = some (.pointer (some ⟨h.pb, 0, none⟩)) := by rw [cell_of_blk hst.blk]; rfl
  have p3 : w2.cell? ⟨h.pb, 3, none⟩ = some (.slice (some ⟨h.bb, 0, none⟩) h.nb h.nb) := by rw [cell_of_blk hst.prec.blk]; rfl
  have hnb : h.nb ≤ 262144 := by
    have := Nat.mul_le_mul hok.K2 hok.W1
    rw [hok.nbe]; omega
  have HTl : Hid (trailLen D.T ≤ 2000000) := by
    show trailLen D.T ≤ 2000000
    rw [hD]
    simp only [bData]
    cases tr <;> simp [trailLen, trList]; omega
  clear hst hok hk2 hfr hhn hhf hhs hhl hhss hhK hhW hD
  go_wp2
  refine Hk.out _ _ ?_
  clear Hk K
  refine wpStmts_k (ss := stmtsFrom Ybad.f3 16) rfl fun K hK => ?_
  have Hk := hid hK
  clear hK
  go_wp2_with fail
  refine (clone7_rw h.bb h.nb h.nb _ w2 (Rw.of_row HST.out.prec.row) (fun _ _ => rfl) (by omega)).mono ?_
  rintro e w3 ⟨gb, cgb, rfl, hgb, hb3, hk3⟩
  have HB3 := hid hb3
  have HK3 := hid hk3
  have st3 := HST.out.keep0 hk3
  have HST3 := hid st3
  have q03 : w3.cell? ⟨h.qb, 0, none⟩ = some (.pointer (some ⟨h.pb, 0, none⟩)) := by rw [cell_of_blk st3.blk]; rfl
  have p43 : w3.cell? ⟨h.pb, 4, none⟩ = some tv := by rw [cell_of_blk st3.prec.blk]; rfl
  clear hb3 hk3 st3 q0 p3
  go_wp2
  refine Hk.out _ _ ?_
  clear Hk K
  refine wpStmts_k (ss := stmtsFrom Ybad.f3 17) rfl fun K hK => ?_
  have Hk := hid hK
  clear hK
  go_wp2_with fail
  refine (clone8_trail tv _ w3 HST3.out.prec.trail (Nat.le_trans HTl.out (by decide))).mono ?_
  rintro e w4 ⟨tv2, rfl, ht4, hn4, hk4⟩
  obtain ⟨ya, yc, rfl⟩ := trail_shape ht4
  obtain ⟨yl, hyl⟩ : ∃ yl, yl = trailLen D.T := ⟨_, rfl⟩
  rw [← hyl] at ht4 hn4 ⊢
  have Hyl := hid hyl
  have HT4 := hid ht4
  have HN4 := hid hn4
  have HK4 := hid hk4
  have HST4 := hid (HST3.out.keep0 hk4)
  have HB4 := hid (HB3.out.keeps hk4 (fun e => e))
  have HNm := hid ((HN.out.keeps HK2.out (fun _ _ e => e)).keeps (tr0 HK3.out hk4) (fun _ _ e => e))
  have HKS4 := hid (tr0 (tr0 HK1.out HK2.out) (tr0 HK3.out hk4))
  clear ht4 hn4 hk4 q03 p43 hyl
  go_wp2
  refine Hk.out _ _ ?_
  clear Hk K
  refine wpStmts_k (ss := stmtsFrom Ybad.f3 18) rfl fun K hK => ?_
  have Hk := hid hK
  clear hK
  by_cases hwt : 0 < X.wt t
  · go_wp2_with fail
    refine (place_no h D eo ov tv w4 HST4.out t _ rfl (by rw [Hsn.out]; exact htn) (by rw [HD.out]; exact hwt)).mono ?_
    rintro e w5 ⟨rfl, hk5⟩
    have HK5 := hid hk5
    clear hk5
    go_wp2
    refine Hk.out _ _ ?_
    exact part_C2n _ _ _ _ _ _ _ _ _ _ _ _ _ _ _ _ _ _ _ _ _ _ _ _ _ _ _ _ _ _ _ _ _ _ _ _ _ _ _ _ _ _ _ _ _ _ _ _ _ _ _ _ _ _ _ _ _ _ _ _ _ _ _ _ _ _ _ _ _ _ _ _ _ _ _ _ _ _ _ _ _ _ _ _ _ _ _ _ _ _ _ _ _ _ _ _ _ _ _ _ _ _ _ _ _ _ _ _ _ _ _ _ _ _ _ _ _ _ _ _ _ _ _ _ _ _ _ _ _ _ _ _ _ _ _ _ _ _ _ _ _ _ _ _ _ _ _ _ _ _ _ _ _ _ _ _ _ _ _ _ _ _ _ _ _ _ _ _ _ _ _ _ _ _ _ _ _ _ _ _ _ _ _ _ _ _ _ _ _ _ _ _ _ _ _ _ _ _ _ _ _ _ _ _ _ _ _ _ _ _ _ _ _ _ _ _ _ _ _ _ _ _ _ _ _ _ _ _ _ _ _ _ _ _ _ _ _ _ _ _ _ _ _ _ _ _ _ _ _ _ _ _ _ _ _ _ _ _ _ _ _ _ _ _ _ _ _ _ _ _ _ _ _ _ _ _ _ _ _ _ _ _ _ _ _ _ _ _ _ _ _ _ _ _ _ _ _ _ _ _ _ _ _ _ _ _ _ _ _ _ _ _ _ _ _ _ _ _ _ _ _ _ _ _ _ _ _ _ _ _ _ _ _ _ _ _ _ _ _ _ _ _ _ _ _ _ _ _ _ _ _ _ _ _ _ _ _ _ _ _ _ _ _ _ n t nf w0.heap.size bl tl gb cgb yl yc w5.heap.size ya X h D bt td tr eo ov tv wS w5 _ n1 n2 htn HTx.out.L HD.out HOK.out Hsn.out Hsf.out Hss.out Hsl.out Hsss.out HTl.out
      (HNm.out.keeps HK5.out (fun _ _ e => e)) (HST4.out.keep0 HK5.out) (tr0 HKS4.out HK5.out) ((Keeps.refl _ _).alloc _) (trailIs_keeps HT4.out HK5.out (fun _ _ e => e)) (HB4.out.keeps HK5.out (fun e => e)) hwt (blk_alloc_new _ _)
  · have Hwt := hid hwt
    clear hwt
    go_wp2_with fail
    refine (place_yes h D eo ov tv w4 HST4.out HOK.out t _ rfl (by rw [Hsn.out]; exact htn) (by rw [HD.out]; exact Int.not_lt.2 Hwt.out) HTl.out (by rw [HD.out, HsK.out]; exact num_lt htn)).mono ?_
    rw [← Hyl.out, Hsf.out]
    rintro e w5 ⟨rfl, ov5, tv5, st5, hk5, hn5⟩
    have HK5 := hid hk5
    have HST5 := hid st5
    have NPl : ∀ j, j < w1.heap.size → ¬ PlS h tv j := fun j hj e => by have := HFR.out.pls j e; omega
    have NP2 : ∀ j, w2.heap.size ≤ j → ¬ PlS h tv j := fun j hj e => by have := HST.out.pls_lt j e; omega
    have HN5' := hid (HN.out.keeps2 HNm.out hk5 NPl)
    have HB5 := hid (HB4.out.keeps hk5 (NP2 gb hgb))
    have HT5 := hid (trailIs_keeps HT4.out hk5 (fun k hk => NP2 k (by have := HN4.out k hk; have := HK3.out.size; omega)))
    have HK05 := hid (HKS4.out.trans hk5 (fun k hk e => by have := HFR.out.pls k e; have := HK1.out.size; omega))
    obtain ⟨oa, oc, hoa⟩ : ∃ oa oc, ov = Value.slice oa 0 oc := open_shape HST4.out.opn
    have HOP := hid HST4.out.opn
    rw [hoa] at HOP ⊢
    clear hk5 st5 hn5 NPl NP2 hoa
    go_wp2
    refine Hk.out _ _ ?_
    exact part_C2y _ _ _ _ _ _ _ _ _ _ _ _ _ _ _ _ _ _ _ _ _ _ _ _ _ _ _ _ _ _ _ _ _ _ _ _ _ _ _ _ _ _ _ _ _ _ _ _ _ _ _ _ _ _ _ _ _ _ _ _ _ _ _ _ _ _ _ _ _ _ _ _ _ _ _ _ _ _ _ _ _ _ _ _ _ _ _ _ _ _ _ _ _ _ _ _ _ _ _ _ _ _ _ _ _ _ _ _ _ _ _ _ _ _ _ _ _ _ _ _ _ _ _ _ _ _ _ _ _ _ _ _ _ _ _ _ _ _ _ _ _ _ _ _ _ _ _ _ _ _ _ _ _ _ _ _ _ _ _ _ _ _ _ _ _ _ _ _ _ _ _ _ _ _ _ _ _ _ _ _ _ _ _ _ _ _ _ _ _ _ _ _ _ _ _ _ _ _ _ _ _ _ _ _ _ _ _ _ _ _ _ _ _ _ _ _ _ _ _ _ _ _ _ _ _ _ _ _ _ _ _ _ _ _ _ _ _ _ _ _ _ _ _ _ _ _ _ _ _ _ _ _ _ _ _ _ _ _ _ _ _ _ _ _ _ _ _ _ _ _ _ _ _ _ _ _ _ _ _ _ _ _ _ _ _ _ _ _ _ _ _ _ _ _ _ _ _ _ _ _ _ _ _ _ _ _ _ _ _ _ _ _ _ _ _ _ _ _ _ _ _ _ _ _ _ _ _ _ _ _ _ _ _ _ _ _ _ _ _ _ _ _ _ _ _ _ _ _ _ _ _ _ _ _ _ _ _ _ _ _ _ _ _ _ n t nf w0.heap.size bl tl gb cgb yl yc w5.heap.size ya X h D bt td tr eo (.slice oa 0 oc) ov5 tv5 wS w5 _ n1 n2 htn HTx.out.L HD.out HOK.out Hsn.out Hsf.out Hss.out Hsl.out Hsss.out HTl.out HsK.out HsW.out
      HN5'.out HST5.out HK05.out ((Keeps.refl _ _).alloc _) HT5.out HB5.out (Int.not_lt.2 Hwt.out) (blk_alloc_new _ _) HOP.out

end Go.Proofs.YbulkebqyDoor
