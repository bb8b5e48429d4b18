import Derived.Test.YbulkebqyDoorUnP
import Derived.Test.YbulkebqyDoorPartB
namespace Go.Proofs.YbulkebqyDoor
open Go.RowKit Go.Deep

/-- The data behind 'place' and 'unplace' are the data before. -/
theorem un_plain {h : Sh} {D : Dt} {n bl tl t : Nat} {X : Tx} {bt td : Nat → Int} {l0 : List (Int × Int)} {ext : List (Nat × Int)} {zs : List (Chg h.nb)} (hD : D = bData n bl tl X.kp X.pl X.rd X.wt (fun i j => X.Y i j % n) (fun i => X.mb i % n) bt td true)
    (hnl : h.nl = nlOf n) (hsl : h.sl = X.L) (n2 : n ≤ 4096) (htn : t < n) (hL : X.L t ≤ 65536) (hwb : ∀ j, 0 ≤ X.wt j ∧ X.wt j ≤ 255) (hwt : X.wt t = 0) (hmb : ∀ i, i < n → X.mb i = i) (hrd : X.rd = fun j => decide (X.wt j = 0)) (hpl : X.pl t = false)
    (e3 : foldB (putSt h D t).1 ext.reverse = D.B) (hz : zs.map (fun x => (x.1.2.1, x.1.2.2)) = ext) :
    (unplaced h (placed h D t) t l0.length (l0 ++ ext.map (fun p => ((p.1 : Int), p.2))) zs).B = D.B ∧ (unplaced h (placed h D t) t l0.length (l0 ++ ext.map (fun p => ((p.1 : Int), p.2))) zs).T = some l0 ∧
      (unplaced h (placed h D t) t l0.length (l0 ++ ext.map (fun p => ((p.1 : Int), p.2))) zs).pl = X.pl ∧ (unplaced h (placed h D t) t l0.length (l0 ++ ext.map (fun p => ((p.1 : Int), p.2))) zs).wt = X.wt ∧
      LevOK n (unplaced h (placed h D t) t l0.length (l0 ++ ext.map (fun p => ((p.1 : Int), p.2))) zs).Wd X.rd := by
  have hlen : zs.length = ext.length := by rw [← hz, List.length_map]
  have key := un_lev n2 (fun i => X.mb i % n) (fun j => X.Y t j % n) X.wt t (X.L t) htn hL hwb hwt (fun i hi => by rw [hmb i hi]; exact Nat.mod_eq_of_lt hi) (fun j _ => Nat.mod_lt _ (by omega))
  refine ⟨?_, ?_, ?_, ?_, ?_⟩
  · have e : (l0 ++ ext.map (fun p => ((p.1 : Int), p.2))).length - l0.length = zs.length := by simp [hlen]
    simp only [unplaced, e, apply_fold, hz, placed]
    exact e3
  · simp [unplaced]
  · funext i
    simp only [unplaced, placed, hD, bData, setP]
    by_cases hi : i = t
    · subst hi; simp [hpl]
    · simp [hi]
  · funext i
    have := key.1 i
    simp only [unplaced, placed, hD, bData, hnl, hsl, hrd]
    exact this
  · have := key.2
    simp only [unplaced, placed, hD, bData, hnl, hsl, hrd]
    exact this

set_option maxRecDepth 100000 in
set_option maxHeartbeats 4000000 in
theorem undo_B (u0 u1 u4 u6 u7 u8 u9 u10 u11 u12 u13 u14 u23 u24 u26 u27 u28 u29 u30 u31 u32 u33 u34 u35 u36 u37 u38 u39 u40 u41 u42 u43 u44 u45 u46 u47 u48 u49 u50 u51 u52 u53 u54 u55 u56 u57 u58 u59 u60 u61 u62 u63 u64 u65 u66 u67 u68 u69 u70 u71 u72 u73 u74 u75 u76 u77 u78 u79 u80 u81 u82 u83 u84 u85 u86 u87 u88 u89 u90 u91 u92 u93 u94 u95 u96 u97 u98 u99 u100 u101 u102 u103 u104 u105 u106 u107 u108 u109 u110 u111 u112 u113 u114 u115 u116 u117 u118 u119 u120 u121 u122 u123 u124 u125 u126 u127 u128 u129 u130 u131 u132 u133 u134 u135 u136 u137 u138 u139 u140 u141 u142 u143 u144 u145 u146 u147 u148 u149 u150 u151 u152 u153 u154 u155 u156 u157 u158 u159 u160 u161 u162 u163 u164 u165 u166 u167 u168 u169 u170 u171 u172 u173 u174 u175 u176 u177 u178 u179 u180 u181 u182 u183 u184 u185 : Value)
    (n t nf Bs bl bc tl tc : Nat) (ba ta : Option Addr) (X : Tx) (bt td : Nat → Int) (eo : Bool) (wS w1 : World)
    (n1 : 1 ≤ n) (n2 : n ≤ 4096) (htn : t < n) (hnf8 : nf ≤ 8) (hXL : ∀ i, i < n → X.L i ≤ 65536) (hb : bl ≤ 1048576) (ht : tl ≤ 1048576) (hbt : ArgRow w1 ba bl (fun j => .int .u64 (bt j))) (htd : ArgRow w1 ta tl (fun j => .int .u64 (td j)))
    (hN : NormIs w1 Bs n X) (hK1 : Keeps (fun _ => False) wS w1) (hwb : ∀ j, 0 ≤ X.wt j ∧ X.wt j ≤ 255) (hwt : X.wt t = 0) (hmb : ∀ i, i < n → X.mb i = i) (hrd : X.rd = fun j => decide (X.wt j = 0)) (hpl : X.pl t = false) :
    wpStmts Ybad.prog (stmtsFrom Ybad.f4 20) (bodyPost Ybad.prog Ybad.f4 fun e w' => e = Ending.returned (Value.bool true) ∧ Keeps (fun _ => False) wS w') ⟨#[u0, u1, .slice ba bl bc, .slice ta tl tc, u4, .bool eo, u6, u7, u8, u9, u10, u11, u12, u13, u14, .int .i64 (n : Int), .slice (some ⟨Bs, 0, none⟩) n n, .slice (some ⟨Bs + 1, 0, none⟩) n n, .slice (some ⟨Bs + 3, 0, none⟩) n n, .slice (some ⟨Bs + 5, 0, none⟩) n n, .slice (some ⟨Bs + 4, 0, none⟩) n n, .slice (some ⟨Bs + 2, 0, none⟩) n n, .int .i64 (t : Int), u23, u24, .int .i64 (nf : Int), u26, u27, u28, u29, u30, u31, u32, u33, u34, u35, u36, u37, u38, u39, u40, u41, u42, u43, u44, u45, u46, u47, u48, u49, u50, u51, u52, u53, u54, u55, u56, u57, u58, u59, u60, u61, u62, u63, u64, u65, u66, u67, u68, u69, u70, u71, u72, u73, u74, u75, u76, u77, u78, u79, u80, u81, u82, u83, u84, u85, u86, u87, u88, u89, u90, u91, u92, u93, u94, u95, u96, u97, u98, u99, u100, u101, u102, u103, u104, u105, u106, u107, u108, u109, u110, u111, u112, u113, u114, u115, u116, u117, u118, u119, u120, u121, u122, u123, u124, u125, u126, u127, u128, u129, u130, u131, u132, u133, u134, u135, u136, u137, u138, u139, u140, u141, u142, u143, u144, u145, u146, u147, u148, u149, u150, u151, u152, u153, u154, u155, u156, u157, u158, u159, u160, u161, u162, u163, u164, u165, u166, u167, u168, u169, u170, u171, u172, u173, u174, u175, u176, u177, u178, u179, u180, u181, u182, u183, u184, u185], []⟩ w1 := by
  have HN := hid hN
  have HK1 := hid hK1
  have HBT := hid hbt
  have HTD := hid htd
  have HXL := hid hXL
  have HWB := hid hwb
  have HWT := hid hwt
  have HMB := hid hmb
  have HRD := hid hrd
  have HPL := hid hpl
  clear hN hK1 hbt htd hXL hwb hwt hmb hrd hpl
  refine wpStmts_k (ss := stmtsFrom Ybad.f4 21) rfl fun K hK => ?_
  have Hk := hid hK
  clear hK
  go_wp2_with fail
  refine (build_any n nf Bs (Bs + 1) (Bs + 3) (Bs + 5) (Bs + 4) (Bs + 2) n n n n n n bl bc tl tc ba ta (fun i => Bs + 6 + i) X.L X.L X.kp X.pl X.rd X.wt (fun i j => X.Y i j % n) (fun i => X.mb i % n) bt td true eo w1
    (Rw.of_row HN.out.kp) (Rw.of_row HN.out.pl) (Rw.of_row HN.out.wt) (Rw.of_row HN.out.sc) (fun i hi => Rw.of_row (HN.out.su i hi)) (Rw.of_row HN.out.mb) (Rw.of_row HN.out.rd) HBT.out HTD.out n1 n2 hnf8 hb ht HXL.out
    (fun i _ => Nat.mod_lt _ (by omega)) (fun i j _ _ => Nat.mod_lt _ (by omega))).mono ?_
  rintro e w2 ⟨h, ov, tv, rfl, hst, hok, hk2, hfr, hhn, hhf, hhs, hhl, hhss, hhK, hhW⟩
  obtain ⟨D, hD⟩ : ∃ D, D = bData n bl tl X.kp X.pl X.rd X.wt (fun i j => X.Y i j % n) (fun i => X.mb i % n) bt td true := ⟨_, rfl⟩
  rw [← hD] at hst hok
  have HD := hid hD
  have HST := hid hst
  have HOK := hid hok
  have HK2 := hid hk2
  have HFR := hid hfr
  have Hsn := hid hhn
  have Hsf := hid hhf
  have Hss := hid hhs
  have Hsl := hid hhl
  have Hsss := hid hhss
  have HsK := hid hhK
  have HsW := hid hhW
  have q0 : w2.cell? ⟨h.qb, 0, none⟩ = some (.pointer (some ⟨h.pb, 0, none⟩)) := by rw [cell_of_blk hst.blk]; rfl
  have p3 : w2.cell? ⟨h.pb, 3, none⟩ = some (.slice (some ⟨h.bb, 0, none⟩) h.nb h.nb) := by rw [cell_of_blk hst.prec.blk]; rfl
  have hnb : h.nb ≤ 262144 := by
    have := Nat.mul_le_mul hok.K2 hok.W1
    rw [hok.nbe]; omega
  have HT0 : Hid (D.T = some (trList td tl)) := hid (by rw [hD]; rfl)
  have HTl : Hid (trailLen D.T ≤ 1048576) := by
    show trailLen D.T ≤ 1048576
    rw [HT0.out]
    simp [trailLen, trList]; omega
  clear hst hok hk2 hfr hhn hhf hhs hhl hhss hhK hhW hD
  go_wp2
  refine Hk.out _ _ ?_
  clear Hk K
  refine wpStmts_k (ss := stmtsFrom Ybad.f4 22) rfl fun K hK => ?_
  have Hk := hid hK
  clear hK
  go_wp2_with fail
  refine (clone7_rw h.bb h.nb h.nb _ w2 (Rw.of_row HST.out.prec.row) (fun _ _ => rfl) (by omega)).mono ?_
  rintro e w3 ⟨gb, cgb, rfl, hgb, hb3, hk3⟩
  have HB3 := hid hb3
  have HK3 := hid hk3
  have st3 := HST.out.keep0 hk3
  have HST3 := hid st3
  have q03 : w3.cell? ⟨h.qb, 0, none⟩ = some (.pointer (some ⟨h.pb, 0, none⟩)) := by rw [cell_of_blk st3.blk]; rfl
  have p43 : w3.cell? ⟨h.pb, 4, none⟩ = some tv := by rw [cell_of_blk st3.prec.blk]; rfl
  clear hb3 hk3 st3 q0 p3
  go_wp2
  refine Hk.out _ _ ?_
  clear Hk K
  refine wpStmts_k (ss := stmtsFrom Ybad.f4 23) rfl fun K hK => ?_
  have Hk := hid hK
  clear hK
  go_wp2_with fail
  refine (clone8_trail tv _ w3 HST3.out.prec.trail (Nat.le_trans HTl.out (by decide))).mono ?_
  rintro e w4 ⟨tv2, rfl, ht4, hn4, hk4⟩
  obtain ⟨ya, yc, rfl⟩ := trail_shape ht4
  obtain ⟨yl, hyl⟩ : ∃ yl, yl = trailLen D.T := ⟨_, rfl⟩
  rw [← hyl] at ht4 hn4 ⊢
  have Hyl := hid hyl
  have HT4 := hid ht4
  have HN4 := hid hn4
  have HK4 := hid hk4
  have HST4 := hid (HST3.out.keep0 hk4)
  have HB4 := hid (HB3.out.keeps hk4 (fun e => e))
  have HNm := hid ((HN.out.keeps HK2.out (fun _ _ e => e)).keeps (tr0 HK3.out hk4) (fun _ _ e => e))
  have HKS4 := hid (tr0 (tr0 HK1.out HK2.out) (tr0 HK3.out hk4))
  clear ht4 hn4 hk4 q03 p43 hyl
  go_wp2
  refine Hk.out _ _ ?_
  clear Hk K
  refine wpStmts_k (ss := stmtsFrom Ybad.f4 24) rfl fun K hK => ?_
  have Hk := hid hK
  clear hK
  go_wp2_with fail
  refine (place_yes h D eo ov tv w4 HST4.out HOK.out t _ rfl (by rw [Hsn.out]; exact htn) (by rw [HD.out]; show ¬ 0 < X.wt t; rw [HWT.out]; omega) (Nat.le_trans HTl.out (by decide)) (by rw [HD.out, HsK.out]; exact num_lt htn)).mono ?_
  rw [← Hyl.out, Hsf.out]
  rintro e w5 ⟨rfl, ov5, tv5, st5, hk5, hn5⟩
  have HK5 := hid hk5
  have HST5 := hid st5
  have NPl : ∀ j, j < w1.heap.size → ¬ PlS h tv j := fun j hj e => by have := HFR.out.pls j e; omega
  have NP2 : ∀ j, w2.heap.size ≤ j → ¬ PlS h tv j := fun j hj e => by have := HST.out.pls_lt j e; omega
  have HN5' := hid (HN.out.keeps2 HNm.out hk5 NPl)
  have HB5 := hid (HB4.out.keeps hk5 (NP2 gb hgb))
  have HT5 := hid (trailIs_keeps HT4.out hk5 (fun k hk => NP2 k (by have := HN4.out k hk; have := HK3.out.size; omega)))
  have HK05 := hid (HKS4.out.trans hk5 (fun k hk e => by have := HFR.out.pls k e; have := HK1.out.size; omega))
  have HTV5 := hid hn5
  obtain ⟨oa, oc, hoa⟩ : ∃ oa oc, ov = Value.slice oa 0 oc := open_shape HST4.out.opn
  have HOP := hid HST4.out.opn
  rw [hoa] at HOP ⊢
  clear hk5 st5 hn5 hoa NPl NP2
  go_wp2
  refine Hk.out _ _ ?_
  clear Hk K
  obtain ⟨w6, hw6⟩ : ∃ w6, (w5.alloc (Obj.cells #[Value.int IntKind.i64 ↑t, Value.int IntKind.i64 ↑yl, Value.int IntKind.i64 ↑nf, Value.slice oa 0 oc] 52)) = w6 := ⟨_, rfl⟩
  rw [hw6]
  have hk6 : Keeps (fun _ => False) w5 w6 := by rw [← hw6]; exact (Keeps.refl _ _).alloc _
  have hub : w6.heap[w5.heap.size]? = some (.cells #[.int .i64 (t : Int), .int .i64 (yl : Int), .int .i64 (nf : Int), .slice oa 0 oc] 52 (0, 0)) := by rw [← hw6]; exact blk_alloc_new _ _
  have a0 : w6.cell? ⟨w5.heap.size, 0, none⟩ = some (.int .i64 (t : Int)) := by rw [cell_of_blk hub]; rfl
  have a1 : w6.cell? ⟨w5.heap.size, 1, none⟩ = some (.int .i64 (yl : Int)) := by rw [cell_of_blk hub]; rfl
  have a2 : w6.cell? ⟨w5.heap.size, 2, none⟩ = some (.int .i64 (nf : Int)) := by rw [cell_of_blk hub]; rfl
  have a3 : w6.cell? ⟨w5.heap.size, 3, none⟩ = some (.slice oa 0 oc) := by rw [cell_of_blk hub]; rfl
  have HK6 := hid hk6
  clear hw6 hk6 hub
  refine wpStmts_k (ss := stmtsFrom Ybad.f4 25) rfl fun K hK => ?_
  have Hk := hid hK
  clear hK
  go_wp2
  refine Hk.out _ _ ?_
  clear Hk K
  refine wpStmts_k (ss := stmtsFrom Ybad.f4 26) rfl fun K hK => ?_
  have Hk := hid hK
  clear hK
  go_wp2
  refine Hk.out _ _ ?_
  clear Hk K
  refine wpStmts_k (ss := stmtsFrom Ybad.f4 27) rfl fun K hK => ?_
  have Hk := hid hK
  clear hK
  go_wp2_with fail
  have hyl' : yl = (trList td tl).length := by rw [Hyl.out, HT0.out]; rfl
  have hnum : D.num t < h.K := by rw [HD.out, HsK.out]; exact num_lt htn
  obtain ⟨ext, x1, x2, x3⟩ := put_undo (h := h) (D := D) (t := t) HT0.out hnum HOK.out.nbe
  obtain ⟨zs, z1, z2⟩ := zs_ex (nb := h.nb) ext 0 x2
  have hzn : zs.length = ext.length := by rw [← z1, List.length_map]
  have hlen : (trList td tl ++ ext.map (fun p => ((p.1 : Int), p.2))).length ≤ 2000000 := by
    have h1 := putSt_len h D t
    rw [x1] at h1
    have h2 := HOK.out.W1
    have h3 := HTl.out
    have h4 : (trList td tl ++ ext.map (fun p => ((p.1 : Int), p.2))).length ≤ trailLen D.T + h.W := h1
    omega
  have U := unplace_st h (placed h D t) eo ov5 (.slice oa 0 oc) tv5 w6 (HST5.out.keep0 HK6.out) (HOK.out.any _ _ _ _ _) t yl (by rw [Hsn.out]; exact htn) HOP.out _ x1 (by rw [hyl']; simp) hlen zs (by rw [hyl']; simp [hzn]) (fun i x hx => by
    refine ⟨by rw [z2 i x hx]; simp, ?_⟩
    have he : ext[i]? = some (x.1.2.1, x.1.2.2) := by rw [← z1, List.getElem?_map, hx]; rfl
    rw [hyl', List.getElem?_append_right (by omega), Nat.add_sub_cancel_left, List.getElem?_map, he]
    rfl)
  rw [Hsf.out] at U
  refine U.mono ?_
  clear U
  rintro e w7 ⟨rfl, tv7, st7, hk7⟩
  have P5 : ∀ j, PlS h tv5 j → PlS h tv j ∨ w4.heap.size ≤ j := by
    rintro j ((e | e | e) | e)
    · exact .inl (.inl (.inl e))
    · exact .inl (.inl (.inr (.inl e)))
    · rcases HTV5.out j e with e | e
      · exact .inl (.inl (.inr (.inr e)))
      · exact .inr e
    · exact .inl (.inr e)
  have z3 := HK3.out.size
  have z4 := HK4.out.size
  have z2' := HK2.out.size
  have NPl : ∀ j, j < w1.heap.size → ¬ PlS h tv5 j := fun j hj e => by
    rcases P5 j e with e | e
    · have := HFR.out.pls j e; omega
    · omega
  have NP2 : ∀ j, w2.heap.size ≤ j → j < w4.heap.size → ¬ PlS h tv5 j := fun j hj hj4 e => by
    rcases P5 j e with e | e
    · have := HST.out.pls_lt j e; omega
    · omega
  have HN7 := hid (HN.out.keeps2 (HN5'.out.keeps HK6.out (fun _ _ e => e)) hk7 NPl)
  have HB7 := hid ((HB5.out.keeps HK6.out (fun e => e)).keeps hk7 (NP2 gb hgb (by have := HB4.out.lt; exact this)))
  have HT7 := hid (trailIs_keeps (trailIs_keeps HT5.out HK6.out (fun _ _ e => e)) hk7 (fun k hk => NP2 k (by have := HN4.out k hk; omega) (by
    have ht := HT4.out
    rw [HT0.out] at ht
    exact (ht.1.lt k hk).2)))
  have HK07 := hid ((tr0 HK05.out HK6.out).trans hk7 (fun k hk e => absurd e (NPl k (by have := HK1.out.size; omega))))
  have upl := un_plain (h := h) (D := D) (t := t) (l0 := trList td tl) (ext := ext) (zs := zs) HD.out Hsl.out Hss.out n2 htn (HXL.out t htn) HWB.out HWT.out HMB.out HRD.out HPL.out x3 z1
  rw [← hyl'] at upl
  have HUP := hid upl
  have HST7 := hid st7
  obtain ⟨oa', oc', hoa', hon, hon'⟩ := open_nil HOP.out
  simp only [Value.slice.injEq, true_and] at hoa'
  obtain ⟨rfl, rfl⟩ := hoa'
  have hnil := fun (w : World) => Lib.run_eql_slice_nil (P := Ybad.prog) w 42 83 oa 0 oc 0 0 Ybad.underlying42
  have q1 : w7.cell? ⟨h.qb, 1, none⟩ = some (.slice oa 0 oc) := by rw [cell_of_blk st7.blk]; rfl
  clear a0 a1 a2 a3 hk7 st7 upl P5 NPl NP2 hlen z2 x2 hnum hyl' hzn
  go_wp2
  refine Hk.out _ _ ?_
  clear Hk K
  refine wpStmts_k (ss := stmtsFrom Ybad.f4 28) rfl fun K hK => ?_
  have Hk := hid hK
  clear hK
  go_wp2
  refine Hk.out _ _ ?_
  clear Hk K
  refine wpStmts_k (ss := stmtsFrom Ybad.f4 29) rfl fun K hK => ?_
  have Hk := hid hK
  clear hK
  go_wp2
  refine Hk.out _ _ ?_
  clear Hk K
  refine wpStmts_k (ss := stmtsFrom Ybad.f4 30) rfl fun K hK => ?_
  have Hk := hid hK
  clear hK
  go_wp2_with fail
  obtain ⟨d, hd⟩ : ∃ d, d = unplaced h (placed h D t) t yl (trList td tl ++ ext.map (fun p => ((p.1 : Int), p.2))) zs := ⟨_, rfl⟩
  have ed : d.mem = (fun i => X.mb i % n) ∧ d.suc = (fun i j => X.Y i j % n) := by rw [hd]; simp only [unplaced, placed]; rw [HD.out]; exact ⟨rfl, rfl⟩
  have okd : Ok h d := by rw [hd]; exact (HOK.out.any _ _ _ _ _)
  have hup := HUP.out
  have hst := HST7.out
  rw [← hd] at hup hst
  obtain ⟨uB, uT, uP, uW, uL⟩ := hup
  have hTb : trailLen d.T ≤ 4000000 := by rw [uT, ← HT0.out]; exact Nat.le_trans HTl.out (by decide)
  have hs := state_any h d eo (.slice oa 0 oc) tv7 (Bs + 1) (Bs + 3) (Bs + 5) (Bs + 4) (Bs + 2) gb n n n n n cgb (.slice ya yl yc) (fun i => Bs + 6 + i) X.L X.rd true w7 hst okd
    (by rw [Hsn.out, uP]; exact Rw.of_row HN7.out.pl) (by rw [Hsn.out, uW]; exact Rw.of_row HN7.out.wt) (by rw [Hsn.out, ed.1]; exact Rw.of_row HN7.out.mb)
    (by rw [Hsn.out, Hss.out]; exact Rw.of_row HN7.out.sc) (by rw [Hsn.out, Hss.out, ed.2]; exact fun i hi => Rw.of_row (HN7.out.su i hi))
    (by rw [Hsn.out]; exact Rw.of_row HN7.out.rd) (by rw [uB]; exact HB7.out) (by rw [uT, ← HT0.out]; exact HT7.out) (by rw [uT]; rfl) hTb (by rw [Hsn.out]; exact Hsl.out) (by rw [Hsn.out]; exact Hsss.out)
    (fun l j hl hj => by rw [Hsn.out]; exact uL.same (levW_ok n X.rd) l j (by rw [Hsl.out] at hl; exact hl) (by rw [Hsss.out] at hj; exact hj))
  rw [Hsn.out, Hsf.out] at hs
  refine hs.mono ?_
  clear hs hst okd ed hd uB uT uP uW uL hTb
  rintro e w8 ⟨rfl, hk8⟩
  have HK8 := hid hk8
  clear hk8
  go_wp2
  refine Hk.out _ _ ?_
  clear Hk K
  refine wpStmts_k (ss := []) rfl fun K hK => ?_
  clear hK
  go_wp2
  go_returns
  exact ⟨rfl, tr0 HK07.out HK8.out⟩
end Go.Proofs.YbulkebqyDoor
