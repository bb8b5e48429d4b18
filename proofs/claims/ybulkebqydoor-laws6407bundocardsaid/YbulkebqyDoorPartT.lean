import Derived.Test.YbulkebqyDoorFlat
namespace Go.Proofs.YbulkebqyDoor
open Go.RowKit Go.Deep

/-- What is known behind a placement by 'place': the plain side. -/
theorem placed_plain {h : Sh} {D : Dt} {n bl tl t : Nat} {X : Tx} {bt td : Nat → Int} {tr : Bool} (hD : D = bData n bl tl X.kp X.pl X.rd X.wt (fun i j => X.Y i j % n) (fun i => X.mb i % n) bt td tr) (hn : h.n = n) (hsl : h.sl = X.L) (hnl : h.nl = nlOf n) (hss : h.ss = ssOf n) (n1 : 1 ≤ n) (n2 : n ≤ 4096) (htn : t < n) :
    (placed h D t).wt = (lawW (fun i => X.mb i % n) (fun j => X.Y t j % n) (X.wt, setP X.rd (X.mb t % n) false) (X.L t)).1 ∧
    ∀ l j, l < h.nl → j < h.ss l → (placed h D t).Wd l j = levW h.n (lawW (fun i => X.mb i % n) (fun j => X.Y t j % n) (X.wt, setP X.rd (X.mb t % n) false) (X.L t)).2 l j := by
  have m1 : ∀ i, i < n → X.mb i % n < n := fun i _ => Nat.mod_lt _ (by omega)
  have ok0 : LevOK n (remW (nlOf n) 0 (X.mb t % n) (levW n X.rd)) (setP X.rd (X.mb t % n) false) := (levW_ok n X.rd).rem (m1 t htn) n2
  have key := rel_law n2 (fun i => X.mb i % n) (fun j => X.Y t j % n) X.wt _ _ ok0 m1 (X.L t) (fun j _ => Nat.mod_lt _ (by omega))
  have e : placed h D t = { D with B := (putSt h D t).1, T := (putSt h D t).2, pl := setP D.pl t true, wt := (relSt (nlOf n) (fun i => X.mb i % n) (fun j => X.Y t j % n) (X.wt, remW (nlOf n) 0 (X.mb t % n) (levW n X.rd)) (X.L t)).1, Wd := (relSt (nlOf n) (fun i => X.mb i % n) (fun j => X.Y t j % n) (X.wt, remW (nlOf n) 0 (X.mb t % n) (levW n X.rd)) (X.L t)).2 } := by
    simp only [placed, hnl, hsl, hD, bData]
  rw [e]
  refine ⟨key.1, fun l j hl hj => ?_⟩
  rw [hnl] at hl
  rw [hss] at hj
  rw [hn]
  exact key.2.same (levW_ok n _) l j hl hj

theorem putSt_iso (h : Sh) (D : Dt) (t : Nat) : (putSt h D t).2.isSome = D.T.isSome := by
  unfold putSt
  split
  · rfl
  · exact joinSt_iso _ _ _ _
theorem putSt_len (h : Sh) (D : Dt) (t : Nat) : trailLen (putSt h D t).2 ≤ trailLen D.T + h.W := by
  unfold putSt
  split
  · exact Nat.le_add_right _ _
  · exact joinSt_len _ _ _ _

set_option maxRecDepth 100000 in
set_option maxHeartbeats 4000000 in
theorem part_C4 (u0 u1 u2 u3 u5 u6 u7 u8 u9 u10 u11 u12 u13 u14 u15 u16 u17 u18 u27 u28 u29 u30 u31 u32 u33 u34 u35 u38 u39 u40 u41 u42 u43 u44 u45 u46 u47 u48 u49 u50 u51 u52 u53 u54 u55 u56 u57 u58 u59 u60 u61 u62 u63 u64 u65 u66 u67 u68 u69 u70 u71 u72 u73 u74 u75 u76 u77 u78 u79 u80 u81 u82 u83 u84 u85 u86 u87 u88 u89 u90 u91 u92 u93 u94 u95 u96 u97 u98 u99 u100 u101 u102 u103 u104 u105 u106 u107 u108 u109 u110 u111 u112 u113 u114 u115 u116 u117 u118 u119 u120 u121 u122 u123 u124 u125 u126 u127 u128 u129 u130 u131 u132 u133 u134 u135 u136 u137 u138 u139 u140 u141 u142 u143 u144 u145 u146 u147 u148 u149 u150 u151 u152 u153 u154 u155 u156 u157 u158 u159 u160 u161 u162 u163 u164 u165 u166 u167 u168 u169 u170 u171 u172 u173 u174 u175 u176 u177 u178 u179 u180 u181 u182 u183 u184 u185 u186 u187 u188 u189 u190 u191 u192 u193 u194 u195 u196 u197 u198 u199 u200 u201 u202 u203 u204 u205 u206 u207 u208 u209 u210 u211 u212 u213 u214 u215 u216 u217 u218 u219 u220 u221 u222 u223 u224 u225 u226 u227 u228 u229 u230 u231 u232 u233 u234 u235 u236 u237 u238 u239 u240 u241 u242 u243 u244 u245 u246 u247 u248 u249 u250 u251 u252 u253 u254 u255 u256 u257 u258 u259 u260 u261 u262 u263 u264 u265 u266 u267 u268 u269 u270 u271 u272 u273 u274 u275 u276 u277 u278 u279 u280 u281 u282 u283 u284 u285 u286 u287 u288 u289 u290 u291 u292 u293 u294 u295 u296 u297 u298 u299 u300 u301 u302 u303 u304 u305 u306 u307 u308 u309 u310 u311 u312 u313 u314 u315 u316 u317 u318 u319 u320 u321 u322 u323 u324 u325 u326 u327 u328 u329 u330 u331 u332 u333 u334 u335 u336 u337 u338 u339 u340 u341 u342 u343 u344 u345 u346 u347 u348 u349 u350 u351 u352 u353 u354 u355 u356 u357 u358 u359 u360 u361 u362 u363 u364 u365 u366 u367 u368 u369 u370 u371 u372 u373 u374 u375 u376 u377 u378 u379 : Value)
    (n t nf Bs bl tl ge cge el ec : Nat) (ea : Option Addr) (X : Tx) (h : Sh) (D : Dt) (bt td : Nat → Int) (tr eo : Bool) (ov5 tv5 : Value) (wS w5 w9 : World)
    (n1 : 1 ≤ n) (n2 : n ≤ 4096) (htn : t < n) (hXL : ∀ i, i < n → X.L i ≤ 65536) (hHD : D = bData n bl tl X.kp X.pl X.rd X.wt (fun i j => X.Y i j % n) (fun i => X.mb i % n) bt td tr) (hok : Ok h D)
    (hshn : h.n = n) (hshf : h.nf = nf) (hshs : h.sl = X.L) (hshl : h.nl = nlOf n) (hshss : h.ss = ssOf n) (hTl : trailLen D.T ≤ 2000000)
    (hN5 : NormIs w5 Bs n X) (hST5 : StIs h (placed h D t) eo ov5 tv5 w5) (hKS5 : Keeps (fun _ => False) wS w5) (hK59 : Keeps (fun _ => False) w5 w9) (hT9 : TrailIs w9 (.slice ea el ec) (putSt h D t).2) (hE9 : Rw w9 ge 37 h.nb (fun j => .int .u64 ((putSt h D t).1 j))) :
    wpStmts Ybad.prog (stmtsFrom Ybad.f3 36) (bodyPost Ybad.prog Ybad.f3 fun e w' => e = Ending.returned (Value.bool true) ∧ Keeps (fun _ => False) wS w') ⟨#[u0, u1, u2, u3, .bool tr, u5, u6, u7, u8, u9, u10, u11, u12, u13, u14, u15, u16, u17, u18, .slice (some ⟨Bs + 1, 0, none⟩) n n, .slice (some ⟨Bs + 3, 0, none⟩) n n, .slice (some ⟨Bs + 5, 0, none⟩) n n, .slice (some ⟨Bs + 4, 0, none⟩) n n, .slice (some ⟨Bs + 2, 0, none⟩) n n, .int .i64 (nf : Int), .int .i64 (t : Int), .pointer (some ⟨h.qb, 0, none⟩), u27, u28, u29, u30, u31, u32, u33, u34, u35, .slice (some ⟨ge, 0, none⟩) h.nb cge, .slice ea el ec, u38, u39, u40, u41, u42, u43, u44, u45, u46, u47, u48, u49, u50, u51, u52, u53, u54, u55, u56, u57, u58, u59, u60, u61, u62, u63, u64, u65, u66, u67, u68, u69, u70, u71, u72, u73, u74, u75, u76, u77, u78, u79, u80, u81, u82, u83, u84, u85, u86, u87, u88, u89, u90, u91, u92, u93, u94, u95, u96, u97, u98, u99, u100, u101, u102, u103, u104, u105, u106, u107, u108, u109, u110, u111, u112, u113, u114, u115, u116, u117, u118, u119, u120, u121, u122, u123, u124, u125, u126, u127, u128, u129, u130, u131, u132, u133, u134, u135, u136, u137, u138, u139, u140, u141, u142, u143, u144, u145, u146, u147, u148, u149, u150, u151, u152, u153, u154, u155, u156, u157, u158, u159, u160, u161, u162, u163, u164, u165, u166, u167, u168, u169, u170, u171, u172, u173, u174, u175, u176, u177, u178, u179, u180, u181, u182, u183, u184, u185, u186, u187, u188, u189, u190, u191, u192, u193, u194, u195, u196, u197, u198, u199, u200, u201, u202, u203, u204, u205, u206, u207, u208, u209, u210, u211, u212, u213, u214, u215, u216, u217, u218, u219, u220, u221, u222, u223, u224, u225, u226, u227, u228, u229, u230, u231, u232, u233, u234, u235, u236, u237, u238, u239, u240, u241, u242, u243, u244, u245, u246, u247, u248, u249, u250, u251, u252, u253, u254, u255, u256, u257, u258, u259, u260, u261, u262, u263, u264, u265, u266, u267, u268, u269, u270, u271, u272, u273, u274, u275, u276, u277, u278, u279, u280, u281, u282, u283, u284, u285, u286, u287, u288, u289, u290, u291, u292, u293, u294, u295, u296, u297, u298, u299, u300, u301, u302, u303, u304, u305, u306, u307, u308, u309, u310, u311, u312, u313, u314, u315, u316, u317, u318, u319, u320, u321, u322, u323, u324, u325, u326, u327, u328, u329, u330, u331, u332, u333, u334, u335, u336, u337, u338, u339, u340, u341, u342, u343, u344, u345, u346, u347, u348, u349, u350, u351, u352, u353, u354, u355, u356, u357, u358, u359, u360, u361, u362, u363, u364, u365, u366, u367, u368, u369, u370, u371, u372, u373, u374, u375, u376, u377, u378, u379], []⟩ w9 := by
  have HD := hid hHD
  have HXL := hid hXL
  have HOK := hid hok
  have HTl := hid hTl
  have HST5 := hid hST5
  have HKS5 := hid hKS5
  have HK59 := hid hK59
  have HT9 := hid hT9
  have HE9 := hid hE9
  have HNr := hid (hN5.keeps hK59 (fun _ _ e => e))
  have HN5 := hid hN5
  have Hsn := hid hshn
  have Hsf := hid hshf
  have Hss := hid hshs
  have Hsl := hid hshl
  have Hsss := hid hshss
  clear hXL hHD hok hTl hN5 hST5 hKS5 hK59 hT9 hE9 hshn hshf hshs hshl hshss
  refine wpStmts_k (ss := stmtsFrom Ybad.f3 37) rfl fun K hK => ?_
  have Hk := hid hK
  clear hK
  go_wp2_with fail
  refine (clone11_rw (Bs + 1) n n _ w9 (Rw.of_row HNr.out.pl) (fun _ _ => rfl) (by omega)).mono ?_
  rintro e w10 ⟨g10, c10, rfl, hg10, hr10, hk10⟩
  have cp10 : ∃ v, w10.cell? ⟨g10, t, none⟩ = some (.bool v) := ⟨_, hr10.cell htn⟩
  obtain ⟨pv, cp10⟩ := cp10
  have fp10 : w10.frozen? ⟨g10, t, none⟩ = false := hr10.frozen t
  have HP10 := hid hr10
  have HK10 := hid hk10
  clear hr10 hk10
  go_wp2
  refine Hk.out _ _ ?_
  clear Hk K
  refine wpStmts_k (ss := stmtsFrom Ybad.f3 38) rfl fun K hK => ?_
  have Hk := hid hK
  clear hK
  go_wp2
  refine Hk.out _ _ ?_
  clear Hk K
  have k11 : Keeps (fun k => k = g10) w10 (w10.setCell ⟨g10, t, none⟩ (.bool true)) := (Keeps.refl _ _).setCell _ _ (fun _ => rfl)
  have HP11 := hid ((HP10.out.set t (.bool true)).congr (g := fun i => .bool (setP X.pl t true i)) fun i _ => by simp only [setP]; split <;> rfl)
  have HK911 := hid ((HK10.out.mono (S' := fun k => w9.heap.size ≤ k) (fun _ _ e => e.elim)).trans (k11.mono (S' := fun k => w9.heap.size ≤ k) (fun k _ e => by omega)) (fun _ _ e => e))
  have hl10 := HP10.out.lt
  obtain ⟨w11, hw11⟩ : ∃ w11, w11 = w10.setCell ⟨g10, t, none⟩ (.bool true) := ⟨_, rfl⟩
  rw [← hw11] at HP11 HK911 ⊢
  have hz11 : w10.heap.size = w11.heap.size := by rw [hw11, nblk_setCell]
  clear k11 cp10 fp10 hw11 HP10 HK10
  refine wpStmts_k (ss := stmtsFrom Ybad.f3 39) rfl fun K hK => ?_
  have Hk := hid hK
  clear hK
  go_wp2_with fail
  refine (clone12_rw (Bs + 3) n n _ w11 (Rw.of_row (HNr.out.keeps HK911.out (fun _ h e => by omega)).wt) (fun _ _ => rfl) (by omega)).mono ?_
  rintro e w12 ⟨g12, c12, rfl, hg12, hr12, hk12⟩
  have HP12 := hid hr12
  have HK12 := hid hk12
  clear hr12 hk12
  have HK912 := hid (HK911.out.trans HK12.out (fun _ _ e => e.elim))
  go_wp2
  refine Hk.out _ _ ?_
  clear Hk K
  refine wpStmts_k (ss := stmtsFrom Ybad.f3 40) rfl fun K hK => ?_
  have Hk := hid hK
  clear hK
  go_wp2_with fail
  refine (clone11_rw (Bs + 2) n n _ w12 (Rw.of_row (HNr.out.keeps HK912.out (fun _ h e => by omega)).rd) (fun _ _ => rfl) (by omega)).mono ?_
  rintro e w13 ⟨g13, c13, rfl, hg13, hr13, hk13⟩
  have HK913 := hid (HK912.out.trans hk13 (fun _ _ e => e.elim))
  have cm13 : w13.cell? ⟨Bs + 4, t, none⟩ = some (.int .i64 ((X.mb t % n : Nat) : Int)) := (HNr.out.keeps HK913.out (fun _ h e => by omega)).mb.cell htn
  have hmt : X.mb t % n < n := Nat.mod_lt _ (by omega)
  obtain ⟨mt, hmt0⟩ : ∃ mt, mt = X.mb t % n := ⟨_, rfl⟩
  rw [← hmt0] at cm13 hmt
  have cr13 : ∃ v, w13.cell? ⟨g13, mt, none⟩ = some (.bool v) := ⟨_, hr13.cell hmt⟩
  obtain ⟨rv, cr13⟩ := cr13
  have fr13 : w13.frozen? ⟨g13, mt, none⟩ = false := hr13.frozen _
  have HP13 := hid hr13
  have HK13 := hid hk13
  have Hmt := hid hmt0
  clear hr13 hk13 hmt0
  go_wp2
  refine Hk.out _ _ ?_
  clear Hk K
  refine wpStmts_k (ss := stmtsFrom Ybad.f3 41) rfl fun K hK => ?_
  have Hk := hid hK
  clear hK
  go_wp2
  refine Hk.out _ _ ?_
  clear Hk K
  have k14 : Keeps (fun k => k = g13) w13 (w13.setCell ⟨g13, mt, none⟩ (.bool false)) := (Keeps.refl _ _).setCell _ _ (fun _ => rfl)
  have HP14 := hid ((HP13.out.set mt (.bool false)).congr (g := fun i => .bool (setP X.rd (X.mb t % n) false i)) fun i _ => by rw [← Hmt.out]; simp only [setP]; split <;> rfl)
  have z9 := HK911.out.size
  have z12 := HK12.out.size
  have z13 := HK13.out.size
  have lg12 := HP12.out.lt
  have HK914 := hid (HK913.out.trans (k14.mono (S' := fun k => w9.heap.size ≤ k) (fun k _ e => by omega)) (fun _ _ e => e))
  have HW14 := hid ((HP12.out.keeps HK13.out (fun e => e)).keeps k14 (fun e => by omega))
  have HP14' := hid (((HP11.out.keeps HK12.out (fun e => e)).keeps HK13.out (fun e => e)).keeps k14 (fun e => by omega))
  obtain ⟨w14, hw14⟩ : ∃ w14, w14 = w13.setCell ⟨g13, mt, none⟩ (.bool false) := ⟨_, rfl⟩
  rw [← hw14] at HP14 HK914 HW14 HP14' ⊢
  have hz14 : w13.heap.size = w14.heap.size := by rw [hw14, nblk_setCell]
  have HK49 := hid (HNr.out.keeps HK914.out (fun _ h e => by omega))
  clear k14 cm13 cr13 fr13 hw14 HP11 HP12 HP13 HK913 HK12 HK13 HK912 HK911
  refine wpStmts_k (ss := stmtsFrom Ybad.f3 42) rfl fun K hK => ?_
  have Hk := hid hK
  clear hK
  go_wp2
  refine Hk.out _ _ ?_
  clear Hk K
  refine wpStmts_k (ss := stmtsFrom Ybad.f3 43) rfl fun K hK => ?_
  have Hk := hid hK
  clear hK
  refine part_L5 _ _ _ _ _ _ _ _ _ _ _ _ _ _ _ _ _ _ _ _ _ _ _ _ _ _ _ _ _ _ _ _ _ _ _ _ _ _ _ _ _ _ _ _ _ _ _ _ _ _ _ _ _ _ _ _ _ _ _ _ _ _ _ _ _ _ _ _ _ _ _ _ _ _ _ _ _ _ _ _ _ _ _ _ _ _ _ _ _ _ _ _ _ _ _ _ _ _ _ _ _ _ _ _ _ _ _ _ _ _ _ _ _ _ _ _ _ _ _ _ _ _ _ _ _ _ _ _ _ _ _ _ _ _ _ _ _ _ _ _ _ _ _ _ _ _ _ _ _ _ _ _ _ _ _ _ _ _ _ _ _ _ _ _ _ _ _ _ _ _ _ _ _ _ _ _ _ _ _ _ _ _ _ _ _ _ _ _ _ _ _ _ _ _ _ _ _ _ _ _ _ _ _ _ _ _ _ _ _ _ _ _ _ _ _ _ _ _ _ _ _ _ _ _ _ _ _ _ _ _ _ _ _ _ _ _ _ _ _ _ _ _ _ _ _ _ _ _ _ _ _ _ _ _ _ _ _ _ _ _ _ _ _ _ _ _ _ _ _ _ _ _ _ _ _ _ _ _ _ _ _ _ _ _ _ _ _ _ _ _ _ _ _ _ _ _ _ _ _ _ _ _ _ _ _ _ _ _ _ _ _ _ _ _ _ _ _ _ _ _ _ _ _ _ _ _ _ _ _ _ _ _ _ _ _ _ _ _ _ _ _ _ _ _ _ _ _ _ _ _ _ _ _ _ _ _ _ _ _ _ _ _ _ _ _ _ _ _ _ _ _ _ _ _ _ _ n (Bs + 5) (Bs + 4) t g12 c12 g13 c13 (Bs + 6 + t) (X.L t) (X.L t) w9.heap.size (fun j => X.Y t j % n) (fun i => X.mb i % n) X.wt (setP X.rd (X.mb t % n) false) w14 htn (HXL.out t htn) (fun j _ => Nat.mod_lt _ (by omega)) (fun i _ => Nat.mod_lt _ (by omega))
    (HK49.out.sc.cell htn) HNr.out.sc.lt (Rw.of_row (HK49.out.su t htn)) (HNr.out.su t htn).lt (Rw.of_row HK49.out.mb) HNr.out.mb.lt HW14.out (by omega) HP14.out (by omega) ?_
  rintro x47 x48 x336 x337 x338 x339 x340 x341 x342 x343 x344 x345 x346 x347 x348 x349 x350 x351 x352 x353 x354 x355 x356 x357 x358 x359 x360 x361 x362 x363 x364 x365 x366 x367 x368 w15 ⟨hW15, hR15, hK15⟩
  have HW15 := hid hW15
  have HR15 := hid hR15
  have HK915 := hid (HK914.out.trans hK15 (fun k _ e => by omega))
  have HK1415 := hid hK15
  have HK5f := hid (HK59.out.trans HK915.out (fun k hk e => by have := HK59.out.size; omega))
  clear hW15 hR15 hK15
  refine Hk.out _ _ ?_
  clear Hk K
  refine wpStmts_k (ss := stmtsFrom Ybad.f3 44) rfl fun K hK => ?_
  have Hk := hid hK
  clear hK
  go_wp2_with fail
  have pp := placed_plain (h := h) (D := D) (t := t) HD.out Hsn.out Hss.out Hsl.out Hsss.out n1 n2 htn
  have NN := HN5.out.keeps HK5f.out (fun _ _ e => e)
  have hT15 : TrailIs w15 (.slice ea el ec) (putSt h D t).2 := trailIs_keeps HT9.out HK915.out (fun k hk e => by
    have ht := HT9.out
    cases hq : (putSt h D t).2 with
    | none => rw [hq] at ht; have : Value.slice ea el ec = .slice none 0 0 := ht; rw [this] at hk; simp [Value.ownBlock] at hk
    | some l => rw [hq] at ht; have := (ht.1.lt k hk).2; omega)
  have hs := state_any h (placed h D t) eo ov5 tv5 g10 g12 (Bs + 5) (Bs + 4) g13 ge c10 c12 n n c13 cge (.slice ea el ec) (fun i => Bs + 6 + i) X.L (lawW (fun i => X.mb i % n) (fun j => X.Y t j % n) (X.wt, setP X.rd (X.mb t % n) false) (X.L t)).2 tr w15 (HST5.out.keep0 HK5f.out) (HOK.out.any _ _ _ _ _)
    ?_ ?_ ?_ ?_ ?_ ?_ ?_ hT15 ?_ ?_ ?_ ?_ pp.2
  · rw [Hsn.out, Hsf.out] at hs
    refine hs.mono ?_
    clear hs NN pp hT15
    rintro e w16 ⟨rfl, hk16⟩
    have HK16 := hid hk16
    clear hk16
    go_wp2
    refine Hk.out _ _ ?_
    clear Hk K
    refine wpStmts_k (ss := []) rfl fun K hK => ?_
    clear hK
    go_wp2
    go_returns
    exact ⟨rfl, tr0 (tr0 HKS5.out HK5f.out) HK16.out⟩
  · rw [Hsn.out]
    refine (HP14'.out.keeps HK1415.out (fun e => by omega)).congr fun i _ => ?_
    rw [HD.out]
    rfl
  · rw [Hsn.out, pp.1]; exact HW15.out
  · rw [Hsn.out, HD.out]; exact Rw.of_row NN.mb
  · rw [Hsn.out, Hss.out]; exact Rw.of_row NN.sc
  · rw [Hsn.out, Hss.out, HD.out]; exact fun i hi => Rw.of_row (NN.su i hi)
  · rw [Hsn.out]; exact HR15.out
  · exact HE9.out.keeps HK915.out (fun e => by have := HE9.out.lt; omega)
  · show tr = (putSt h D t).2.isSome
    rw [putSt_iso, HD.out]
    simp only [bData]
    cases tr <;> rfl
  · show trailLen (putSt h D t).2 ≤ 4000000
    have := putSt_len h D t
    have := HOK.out.W1
    have := HTl.out
    omega
  · rw [Hsn.out]; exact Hsl.out
  · rw [Hsn.out]; exact Hsss.out
end Go.Proofs.YbulkebqyDoor
