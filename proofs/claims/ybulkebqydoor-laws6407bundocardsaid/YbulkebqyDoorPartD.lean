import Derived.Test.YbulkebqyDoorPartC
namespace Go.Proofs.YbulkebqyDoor
open Go.RowKit Go.Deep

theorem open_nil {eo : Bool} {ov : Value} (h : OpenIs eo ov) : ∃ a c, ov = .slice a 0 c ∧ ¬ a.isNone = eo ∧ (!a.isNone == !eo) = false := by
  rcases h with ⟨rfl, a, c, rfl⟩ | ⟨rfl, rfl⟩
  · exact ⟨_, _, rfl, by simp, rfl⟩
  · exact ⟨_, _, rfl, by simp, rfl⟩

set_option maxRecDepth 100000 in
set_option maxHeartbeats 4000000 in
theorem part_C2y (u0 u1 u2 u3 u5 u7 u8 u9 u10 u11 u12 u13 u14 u15 u16 u31 u32 u33 u34 u35 u36 u37 u38 u39 u40 u41 u42 u43 u44 u45 u46 u47 u48 u49 u50 u51 u52 u53 u54 u55 u56 u57 u58 u59 u60 u61 u62 u63 u64 u65 u66 u67 u68 u69 u70 u71 u72 u73 u74 u75 u76 u77 u78 u79 u80 u81 u82 u83 u84 u85 u86 u87 u88 u89 u90 u91 u92 u93 u94 u95 u96 u97 u98 u99 u100 u101 u102 u103 u104 u105 u106 u107 u108 u109 u110 u111 u112 u113 u114 u115 u116 u117 u118 u119 u120 u121 u122 u123 u124 u125 u126 u127 u128 u129 u130 u131 u132 u133 u134 u135 u136 u137 u138 u139 u140 u141 u142 u143 u144 u145 u146 u147 u148 u149 u150 u151 u152 u153 u154 u155 u156 u157 u158 u159 u160 u161 u162 u163 u164 u165 u166 u167 u168 u169 u170 u171 u172 u173 u174 u175 u176 u177 u178 u179 u180 u181 u182 u183 u184 u185 u186 u187 u188 u189 u190 u191 u192 u193 u194 u195 u196 u197 u198 u199 u200 u201 u202 u203 u204 u205 u206 u207 u208 u209 u210 u211 u212 u213 u214 u215 u216 u217 u218 u219 u220 u221 u222 u223 u224 u225 u226 u227 u228 u229 u230 u231 u232 u233 u234 u235 u236 u237 u238 u239 u240 u241 u242 u243 u244 u245 u246 u247 u248 u249 u250 u251 u252 u253 u254 u255 u256 u257 u258 u259 u260 u261 u262 u263 u264 u265 u266 u267 u268 u269 u270 u271 u272 u273 u274 u275 u276 u277 u278 u279 u280 u281 u282 u283 u284 u285 u286 u287 u288 u289 u290 u291 u292 u293 u294 u295 u296 u297 u298 u299 u300 u301 u302 u303 u304 u305 u306 u307 u308 u309 u310 u311 u312 u313 u314 u315 u316 u317 u318 u319 u320 u321 u322 u323 u324 u325 u326 u327 u328 u329 u330 u331 u332 u333 u334 u335 u336 u337 u338 u339 u340 u341 u342 u343 u344 u345 u346 u347 u348 u349 u350 u351 u352 u353 u354 u355 u356 u357 u358 u359 u360 u361 u362 u363 u364 u365 u366 u367 u368 u369 u370 u371 u372 u373 u374 u375 u376 u377 u378 u379 : Value)
    (n t nf Bs bl tl gb cgb yl yc ub : Nat) (ya : Option Addr) (X : Tx) (h : Sh) (D : Dt) (bt td : Nat → Int) (tr eo : Bool) (ov ov5 tv5 : Value) (wS w5 wu : World)
    (n1 : 1 ≤ n) (n2 : n ≤ 4096) (htn : t < n) (hXL : ∀ i, i < n → X.L i ≤ 65536) (hHD : D = bData n bl tl X.kp X.pl X.rd X.wt (fun i j => X.Y i j % n) (fun i => X.mb i % n) bt td tr) (hok : Ok h D)
    (hshn : h.n = n) (hshf : h.nf = nf) (hshs : h.sl = X.L) (hshl : h.nl = nlOf n) (hshss : h.ss = ssOf n) (hTl : trailLen D.T ≤ 2000000)
    (hshK : h.K = (keptL X.kp n).length) (hshW : h.W = ((keptL X.kp n).length + 63) / 64)
    (hN5 : NormIs w5 Bs n X) (hST5 : StIs h (placed h D t) eo ov5 tv5 w5) (hKS5 : Keeps (fun _ => False) wS w5) (hK5u : Keeps (fun _ => False) w5 wu) (hT5 : TrailIs w5 (.slice ya yl yc) D.T) (hB5 : Rw w5 gb 37 h.nb (fun j => .int .u64 (D.B j)))
    (hwt : ¬ 0 < X.wt t) (hu : wu.heap[ub]? = some (.cells #[.int .i64 (t : Int), .int .i64 (yl : Int), .int .i64 (nf : Int), ov] 52 (0, 0))) (hov : OpenIs eo ov) :
    wpStmts Ybad.prog (stmtsFrom Ybad.f3 18) (bodyPost Ybad.prog Ybad.f3 fun e w' => e = Ending.returned (Value.bool true) ∧ Keeps (fun _ => False) wS w') ⟨#[u0, u1, u2, u3, .bool tr, u5, .bool eo, u7, u8, u9, u10, u11, u12, u13, u14, u15, u16, .int .i64 (n : Int), .slice (some ⟨Bs, 0, none⟩) n n, .slice (some ⟨Bs + 1, 0, none⟩) n n, .slice (some ⟨Bs + 3, 0, none⟩) n n, .slice (some ⟨Bs + 5, 0, none⟩) n n, .slice (some ⟨Bs + 4, 0, none⟩) n n, .slice (some ⟨Bs + 2, 0, none⟩) n n, .int .i64 (nf : Int), .int .i64 (t : Int), .pointer (some ⟨h.qb, 0, none⟩), .slice (some ⟨gb, 0, none⟩) h.nb cgb, .slice ya yl yc, .pointer (some ⟨ub, 0, none⟩), .bool true, u31, u32, u33, u34, u35, u36, u37, u38, u39, u40, u41, u42, u43, u44, u45, u46, u47, u48, u49, u50, u51, u52, u53, u54, u55, u56, u57, u58, u59, u60, u61, u62, u63, u64, u65, u66, u67, u68, u69, u70, u71, u72, u73, u74, u75, u76, u77, u78, u79, u80, u81, u82, u83, u84, u85, u86, u87, u88, u89, u90, u91, u92, u93, u94, u95, u96, u97, u98, u99, u100, u101, u102, u103, u104, u105, u106, u107, u108, u109, u110, u111, u112, u113, u114, u115, u116, u117, u118, u119, u120, u121, u122, u123, u124, u125, u126, u127, u128, u129, u130, u131, u132, u133, u134, u135, u136, u137, u138, u139, u140, u141, u142, u143, u144, u145, u146, u147, u148, u149, u150, u151, u152, u153, u154, u155, u156, u157, u158, u159, u160, u161, u162, u163, u164, u165, u166, u167, u168, u169, u170, u171, u172, u173, u174, u175, u176, u177, u178, u179, u180, u181, u182, u183, u184, u185, u186, u187, u188, u189, u190, u191, u192, u193, u194, u195, u196, u197, u198, u199, u200, u201, u202, u203, u204, u205, u206, u207, u208, u209, u210, u211, u212, u213, u214, u215, u216, u217, u218, u219, u220, u221, u222, u223, u224, u225, u226, u227, u228, u229, u230, u231, u232, u233, u234, u235, u236, u237, u238, u239, u240, u241, u242, u243, u244, u245, u246, u247, u248, u249, u250, u251, u252, u253, u254, u255, u256, u257, u258, u259, u260, u261, u262, u263, u264, u265, u266, u267, u268, u269, u270, u271, u272, u273, u274, u275, u276, u277, u278, u279, u280, u281, u282, u283, u284, u285, u286, u287, u288, u289, u290, u291, u292, u293, u294, u295, u296, u297, u298, u299, u300, u301, u302, u303, u304, u305, u306, u307, u308, u309, u310, u311, u312, u313, u314, u315, u316, u317, u318, u319, u320, u321, u322, u323, u324, u325, u326, u327, u328, u329, u330, u331, u332, u333, u334, u335, u336, u337, u338, u339, u340, u341, u342, u343, u344, u345, u346, u347, u348, u349, u350, u351, u352, u353, u354, u355, u356, u357, u358, u359, u360, u361, u362, u363, u364, u365, u366, u367, u368, u369, u370, u371, u372, u373, u374, u375, u376, u377, u378, u379], []⟩ wu := by
  have HD := hid hHD
  have HXL := hid hXL
  have HOK := hid hok
  have HTl := hid hTl
  have HST5 := hid hST5
  have HKS5 := hid hKS5
  have HK5u := hid hK5u
  have HT5 := hid hT5
  have HB5 := hid hB5
  have HN5 := hid hN5
  have Hsn := hid hshn
  have Hsf := hid hshf
  have Hss := hid hshs
  have Hsl := hid hshl
  have Hsss := hid hshss
  have HsK := hid hshK
  have HsW := hid hshW
  have stu := hST5.keep0 hK5u
  obtain ⟨oa5, oc5, hoa5, hon5, _⟩ := open_nil stu.opn
  obtain ⟨oa, oc, rfl, hon, hon'⟩ := open_nil hov
  have q1 : wu.cell? ⟨h.qb, 1, none⟩ = some (.slice oa5 0 oc5) := by rw [cell_of_blk stu.blk, hoa5]; rfl
  have hnil := fun (w : World) => Lib.run_eql_slice_nil (P := Ybad.prog) w 42 83 oa 0 oc 0 0 Ybad.underlying42
  have hnil5 := fun (w : World) => Lib.run_eql_slice_nil (P := Ybad.prog) w 42 83 oa5 0 oc5 0 0 Ybad.underlying42
  have cwt : wu.cell? ⟨Bs + 3, t, none⟩ = some (.int .i64 (X.wt t)) := (hN5.keeps hK5u (fun _ _ e => e)).wt.cell htn
  have a0 : wu.cell? ⟨ub, 0, none⟩ = some (.int .i64 (t : Int)) := by rw [cell_of_blk hu]; rfl
  have a1 : wu.cell? ⟨ub, 1, none⟩ = some (.int .i64 (yl : Int)) := by rw [cell_of_blk hu]; rfl
  have a2 : wu.cell? ⟨ub, 2, none⟩ = some (.int .i64 (nf : Int)) := by rw [cell_of_blk hu]; rfl
  have a3 : wu.cell? ⟨ub, 3, none⟩ = some (.slice oa 0 oc) := by rw [cell_of_blk hu]; rfl
  clear hXL hHD hok hTl hN5 hST5 hKS5 hK5u hT5 hB5 hshn hshf hshs hshl hshss hshK hshW stu hu hov hoa5
  refine wpStmts_k (ss := stmtsFrom Ybad.f3 19) rfl fun K hK => ?_
  have Hk := hid hK
  clear hK
  go_wp2
  refine Hk.out _ _ ?_
  clear Hk K
  refine wpStmts_k (ss := stmtsFrom Ybad.f3 20) rfl fun K hK => ?_
  have Hk := hid hK
  clear hK
  go_wp2
  refine Hk.out _ _ ?_
  clear Hk K
  refine wpStmts_k (ss := stmtsFrom Ybad.f3 21) rfl fun K hK => ?_
  have Hk := hid hK
  clear hK
  go_wp2
  refine Hk.out _ _ ?_
  clear Hk K
  refine wpStmts_k (ss := stmtsFrom Ybad.f3 22) rfl fun K hK => ?_
  have Hk := hid hK
  clear hK
  go_wp2
  refine Hk.out _ _ ?_
  clear Hk K
  refine wpStmts_k (ss := stmtsFrom Ybad.f3 23) rfl fun K hK => ?_
  have Hk := hid hK
  clear hK
  go_wp2
  refine Hk.out _ _ ?_
  clear Hk K
  refine wpStmts_k (ss := stmtsFrom Ybad.f3 24) rfl fun K hK => ?_
  have Hk := hid hK
  clear hK
  go_wp2
  refine Hk.out _ _ ?_
  clear Hk K
  refine wpStmts_k (ss := stmtsFrom Ybad.f3 25) rfl fun K hK => ?_
  have Hk := hid hK
  clear hK
  go_wp2
  refine Hk.out _ _ ?_
  clear Hk K
  refine wpStmts_k (ss := stmtsFrom Ybad.f3 26) rfl fun K hK => ?_
  have Hk := hid hK
  clear hK
  go_wp2
  refine Hk.out _ _ ?_
  clear Hk K
  exact part_C3 _ _ _ _ _ _ _ _ _ _ _ _ _ _ _ _ _ _ _ _ _ _ _ _ _ _ _ _ _ _ _ _ _ _ _ _ _ _ _ _ _ _ _ _ _ _ _ _ _ _ _ _ _ _ _ _ _ _ _ _ _ _ _ _ _ _ _ _ _ _ _ _ _ _ _ _ _ _ _ _ _ _ _ _ _ _ _ _ _ _ _ _ _ _ _ _ _ _ _ _ _ _ _ _ _ _ _ _ _ _ _ _ _ _ _ _ _ _ _ _ _ _ _ _ _ _ _ _ _ _ _ _ _ _ _ _ _ _ _ _ _ _ _ _ _ _ _ _ _ _ _ _ _ _ _ _ _ _ _ _ _ _ _ _ _ _ _ _ _ _ _ _ _ _ _ _ _ _ _ _ _ _ _ _ _ _ _ _ _ _ _ _ _ _ _ _ _ _ _ _ _ _ _ _ _ _ _ _ _ _ _ _ _ _ _ _ _ _ _ _ _ _ _ _ _ _ _ _ _ _ _ _ _ _ _ _ _ _ _ _ _ _ _ _ _ _ _ _ _ _ _ _ _ _ _ _ _ _ _ _ _ _ _ _ _ _ _ _ _ _ _ _ _ _ _ _ _ _ _ _ _ _ _ _ _ _ _ _ _ _ _ _ _ _ _ _ _ _ _ _ _ _ _ _ _ _ _ _ _ _ _ _ _ _ _ _ _ _ _ _ _ _ _ _ _ _ _ _ _ _ _ _ _ _ _ _ _ _ _ _ _ _ _ _ _ _ _ _ _ _ _ _ _ _ _ _ _ _ _ _ _ _ _ _ _ _ _ n t nf Bs bl tl gb cgb yl yc ya X h D bt td tr eo ov5 tv5 wS w5 wu n1 n2 htn HXL.out HD.out HOK.out Hsn.out Hsf.out Hss.out Hsl.out Hsss.out HsK.out HsW.out HTl.out HN5.out HST5.out HKS5.out HK5u.out HT5.out HB5.out

set_option maxRecDepth 100000 in
set_option maxHeartbeats 4000000 in
theorem part_C2n (u0 u1 u2 u3 u5 u7 u8 u9 u10 u11 u12 u13 u14 u15 u16 u31 u32 u33 u34 u35 u36 u37 u38 u39 u40 u41 u42 u43 u44 u45 u46 u47 u48 u49 u50 u51 u52 u53 u54 u55 u56 u57 u58 u59 u60 u61 u62 u63 u64 u65 u66 u67 u68 u69 u70 u71 u72 u73 u74 u75 u76 u77 u78 u79 u80 u81 u82 u83 u84 u85 u86 u87 u88 u89 u90 u91 u92 u93 u94 u95 u96 u97 u98 u99 u100 u101 u102 u103 u104 u105 u106 u107 u108 u109 u110 u111 u112 u113 u114 u115 u116 u117 u118 u119 u120 u121 u122 u123 u124 u125 u126 u127 u128 u129 u130 u131 u132 u133 u134 u135 u136 u137 u138 u139 u140 u141 u142 u143 u144 u145 u146 u147 u148 u149 u150 u151 u152 u153 u154 u155 u156 u157 u158 u159 u160 u161 u162 u163 u164 u165 u166 u167 u168 u169 u170 u171 u172 u173 u174 u175 u176 u177 u178 u179 u180 u181 u182 u183 u184 u185 u186 u187 u188 u189 u190 u191 u192 u193 u194 u195 u196 u197 u198 u199 u200 u201 u202 u203 u204 u205 u206 u207 u208 u209 u210 u211 u212 u213 u214 u215 u216 u217 u218 u219 u220 u221 u222 u223 u224 u225 u226 u227 u228 u229 u230 u231 u232 u233 u234 u235 u236 u237 u238 u239 u240 u241 u242 u243 u244 u245 u246 u247 u248 u249 u250 u251 u252 u253 u254 u255 u256 u257 u258 u259 u260 u261 u262 u263 u264 u265 u266 u267 u268 u269 u270 u271 u272 u273 u274 u275 u276 u277 u278 u279 u280 u281 u282 u283 u284 u285 u286 u287 u288 u289 u290 u291 u292 u293 u294 u295 u296 u297 u298 u299 u300 u301 u302 u303 u304 u305 u306 u307 u308 u309 u310 u311 u312 u313 u314 u315 u316 u317 u318 u319 u320 u321 u322 u323 u324 u325 u326 u327 u328 u329 u330 u331 u332 u333 u334 u335 u336 u337 u338 u339 u340 u341 u342 u343 u344 u345 u346 u347 u348 u349 u350 u351 u352 u353 u354 u355 u356 u357 u358 u359 u360 u361 u362 u363 u364 u365 u366 u367 u368 u369 u370 u371 u372 u373 u374 u375 u376 u377 u378 u379 : Value)
    (n t nf Bs bl tl gb cgb yl yc ub : Nat) (ya : Option Addr) (X : Tx) (h : Sh) (D : Dt) (bt td : Nat → Int) (tr eo : Bool) (ov tv : Value) (wS w5 wu : World)
    (_n1 : 1 ≤ n) (_n2 : n ≤ 4096) (htn : t < n) (_hXL : ∀ i, i < n → X.L i ≤ 65536) (hHD : D = bData n bl tl X.kp X.pl X.rd X.wt (fun i j => X.Y i j % n) (fun i => X.mb i % n) bt td tr) (hok : Ok h D)
    (hshn : h.n = n) (hshf : h.nf = nf) (hshs : h.sl = X.L) (hshl : h.nl = nlOf n) (hshss : h.ss = ssOf n) (hTl : trailLen D.T ≤ 2000000)
    (hN5 : NormIs w5 Bs n X) (hST5 : StIs h D eo ov tv w5) (hKS5 : Keeps (fun _ => False) wS w5) (hK5u : Keeps (fun _ => False) w5 wu) (hT5 : TrailIs w5 (.slice ya yl yc) D.T) (hB5 : Rw w5 gb 37 h.nb (fun j => .int .u64 (D.B j)))
    (hwt : 0 < X.wt t) (hu : wu.heap[ub]? = some (.cells #[.int .i64 0, .int .i64 0, .int .i64 0, .slice none 0 0] 52 (0, 0))) :
    wpStmts Ybad.prog (stmtsFrom Ybad.f3 18) (bodyPost Ybad.prog Ybad.f3 fun e w' => e = Ending.returned (Value.bool true) ∧ Keeps (fun _ => False) wS w') ⟨#[u0, u1, u2, u3, .bool tr, u5, .bool eo, u7, u8, u9, u10, u11, u12, u13, u14, u15, u16, .int .i64 (n : Int), .slice (some ⟨Bs, 0, none⟩) n n, .slice (some ⟨Bs + 1, 0, none⟩) n n, .slice (some ⟨Bs + 3, 0, none⟩) n n, .slice (some ⟨Bs + 5, 0, none⟩) n n, .slice (some ⟨Bs + 4, 0, none⟩) n n, .slice (some ⟨Bs + 2, 0, none⟩) n n, .int .i64 (nf : Int), .int .i64 (t : Int), .pointer (some ⟨h.qb, 0, none⟩), .slice (some ⟨gb, 0, none⟩) h.nb cgb, .slice ya yl yc, .pointer (some ⟨ub, 0, none⟩), .bool false, u31, u32, u33, u34, u35, u36, u37, u38, u39, u40, u41, u42, u43, u44, u45, u46, u47, u48, u49, u50, u51, u52, u53, u54, u55, u56, u57, u58, u59, u60, u61, u62, u63, u64, u65, u66, u67, u68, u69, u70, u71, u72, u73, u74, u75, u76, u77, u78, u79, u80, u81, u82, u83, u84, u85, u86, u87, u88, u89, u90, u91, u92, u93, u94, u95, u96, u97, u98, u99, u100, u101, u102, u103, u104, u105, u106, u107, u108, u109, u110, u111, u112, u113, u114, u115, u116, u117, u118, u119, u120, u121, u122, u123, u124, u125, u126, u127, u128, u129, u130, u131, u132, u133, u134, u135, u136, u137, u138, u139, u140, u141, u142, u143, u144, u145, u146, u147, u148, u149, u150, u151, u152, u153, u154, u155, u156, u157, u158, u159, u160, u161, u162, u163, u164, u165, u166, u167, u168, u169, u170, u171, u172, u173, u174, u175, u176, u177, u178, u179, u180, u181, u182, u183, u184, u185, u186, u187, u188, u189, u190, u191, u192, u193, u194, u195, u196, u197, u198, u199, u200, u201, u202, u203, u204, u205, u206, u207, u208, u209, u210, u211, u212, u213, u214, u215, u216, u217, u218, u219, u220, u221, u222, u223, u224, u225, u226, u227, u228, u229, u230, u231, u232, u233, u234, u235, u236, u237, u238, u239, u240, u241, u242, u243, u244, u245, u246, u247, u248, u249, u250, u251, u252, u253, u254, u255, u256, u257, u258, u259, u260, u261, u262, u263, u264, u265, u266, u267, u268, u269, u270, u271, u272, u273, u274, u275, u276, u277, u278, u279, u280, u281, u282, u283, u284, u285, u286, u287, u288, u289, u290, u291, u292, u293, u294, u295, u296, u297, u298, u299, u300, u301, u302, u303, u304, u305, u306, u307, u308, u309, u310, u311, u312, u313, u314, u315, u316, u317, u318, u319, u320, u321, u322, u323, u324, u325, u326, u327, u328, u329, u330, u331, u332, u333, u334, u335, u336, u337, u338, u339, u340, u341, u342, u343, u344, u345, u346, u347, u348, u349, u350, u351, u352, u353, u354, u355, u356, u357, u358, u359, u360, u361, u362, u363, u364, u365, u366, u367, u368, u369, u370, u371, u372, u373, u374, u375, u376, u377, u378, u379], []⟩ wu := by
  have HD := hid hHD
  have HOK := hid hok
  have HTl := hid hTl
  have HST5 := hid hST5
  have HKS5 := hid hKS5
  have HK5u := hid hK5u
  have HT5 := hid hT5
  have HB5 := hid hB5
  have HN5 := hid hN5
  have Hsn := hid hshn
  have Hsf := hid hshf
  have Hss := hid hshs
  have Hsl := hid hshl
  have Hsss := hid hshss
  have stu := hST5.keep0 hK5u
  obtain ⟨oa5, oc5, hoa5, hon5, _⟩ := open_nil stu.opn
  have q1 : wu.cell? ⟨h.qb, 1, none⟩ = some (.slice oa5 0 oc5) := by rw [cell_of_blk stu.blk, hoa5]; rfl
  have hnil5 := fun (w : World) => Lib.run_eql_slice_nil (P := Ybad.prog) w 42 83 oa5 0 oc5 0 0 Ybad.underlying42
  have cwt : wu.cell? ⟨Bs + 3, t, none⟩ = some (.int .i64 (X.wt t)) := (hN5.keeps hK5u (fun _ _ e => e)).wt.cell htn
  have a0 : wu.cell? ⟨ub, 0, none⟩ = some (.int .i64 0) := by rw [cell_of_blk hu]; rfl
  have a1 : wu.cell? ⟨ub, 1, none⟩ = some (.int .i64 0) := by rw [cell_of_blk hu]; rfl
  have a2 : wu.cell? ⟨ub, 2, none⟩ = some (.int .i64 0) := by rw [cell_of_blk hu]; rfl
  have a3 : wu.cell? ⟨ub, 3, none⟩ = some (.slice none 0 0) := by rw [cell_of_blk hu]; rfl
  clear hHD hok hTl hN5 hST5 hKS5 hK5u hT5 hB5 hshn hshf hshs hshl hshss stu hu hoa5
  refine wpStmts_k (ss := stmtsFrom Ybad.f3 19) rfl fun K hK => ?_
  have Hk := hid hK
  clear hK
  go_wp2
  refine Hk.out _ _ ?_
  clear Hk K
  refine wpStmts_k (ss := stmtsFrom Ybad.f3 20) rfl fun K hK => ?_
  have Hk := hid hK
  clear hK
  go_wp2
  refine Hk.out _ _ ?_
  clear Hk K
  refine wpStmts_k (ss := stmtsFrom Ybad.f3 21) rfl fun K hK => ?_
  have Hk := hid hK
  clear hK
  go_wp2
  refine Hk.out _ _ ?_
  clear Hk K
  refine wpStmts_k (ss := stmtsFrom Ybad.f3 22) rfl fun K hK => ?_
  have Hk := hid hK
  clear hK
  go_wp2
  refine Hk.out _ _ ?_
  clear Hk K
  refine wpStmts_k (ss := stmtsFrom Ybad.f3 23) rfl fun K hK => ?_
  have Hk := hid hK
  clear hK
  go_wp2
  refine Hk.out _ _ ?_
  clear Hk K
  refine wpStmts_k (ss := stmtsFrom Ybad.f3 24) rfl fun K hK => ?_
  have Hk := hid hK
  clear hK
  go_wp2_with fail
  have NN := HN5.out.keeps HK5u.out (fun _ _ e => e)
  have hs := state_any h D eo ov tv (Bs + 1) (Bs + 3) (Bs + 5) (Bs + 4) (Bs + 2) gb n n n n n cgb (.slice ya yl yc) (fun i => Bs + 6 + i) X.L X.rd tr wu (HST5.out.keep0 HK5u.out) HOK.out
    (by rw [Hsn.out, HD.out]; exact Rw.of_row NN.pl) (by rw [Hsn.out, HD.out]; exact Rw.of_row NN.wt) (by rw [Hsn.out, HD.out]; exact Rw.of_row NN.mb)
    (by rw [Hsn.out, Hss.out]; exact Rw.of_row NN.sc) (by rw [Hsn.out, Hss.out, HD.out]; exact fun i hi => Rw.of_row (NN.su i hi)) (by rw [Hsn.out]; exact Rw.of_row NN.rd)
    (HB5.out.keeps HK5u.out (fun e => e)) (trailIs_keeps HT5.out HK5u.out (fun _ _ e => e)) (by rw [HD.out]; simp only [bData]; cases tr <;> rfl) (Nat.le_trans HTl.out (by decide))
    (by rw [Hsn.out]; exact Hsl.out) (by rw [Hsn.out]; exact Hsss.out) (by rw [Hsn.out, HD.out]; exact fun _ _ _ _ => rfl)
  rw [Hsn.out, Hsf.out] at hs
  refine hs.mono ?_
  clear hs NN
  rintro e w6 ⟨rfl, hk6⟩
  have HK6 := hid hk6
  clear hk6
  go_wp2
  go_returns
  exact ⟨rfl, tr0 (tr0 HKS5.out HK5u.out) HK6.out⟩

end Go.Proofs.YbulkebqyDoor
