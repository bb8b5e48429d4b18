import Derived.Test.YbulkebqyDoorPartT
namespace Go.Proofs.YbulkebqyDoor
open Go.RowKit Go.Deep

set_option maxRecDepth 100000 in
set_option maxHeartbeats 4000000 in
theorem part_C3 (u0 u1 u2 u3 u5 u6 u7 u8 u9 u10 u11 u12 u13 u14 u15 u16 u29 u30 u31 u32 u33 u34 u35 u36 u37 u38 u39 u40 u41 u42 u43 u44 u45 u46 u47 u48 u49 u50 u51 u52 u53 u54 u55 u56 u57 u58 u59 u60 u61 u62 u63 u64 u65 u66 u67 u68 u69 u70 u71 u72 u73 u74 u75 u76 u77 u78 u79 u80 u81 u82 u83 u84 u85 u86 u87 u88 u89 u90 u91 u92 u93 u94 u95 u96 u97 u98 u99 u100 u101 u102 u103 u104 u105 u106 u107 u108 u109 u110 u111 u112 u113 u114 u115 u116 u117 u118 u119 u120 u121 u122 u123 u124 u125 u126 u127 u128 u129 u130 u131 u132 u133 u134 u135 u136 u137 u138 u139 u140 u141 u142 u143 u144 u145 u146 u147 u148 u149 u150 u151 u152 u153 u154 u155 u156 u157 u158 u159 u160 u161 u162 u163 u164 u165 u166 u167 u168 u169 u170 u171 u172 u173 u174 u175 u176 u177 u178 u179 u180 u181 u182 u183 u184 u185 u186 u187 u188 u189 u190 u191 u192 u193 u194 u195 u196 u197 u198 u199 u200 u201 u202 u203 u204 u205 u206 u207 u208 u209 u210 u211 u212 u213 u214 u215 u216 u217 u218 u219 u220 u221 u222 u223 u224 u225 u226 u227 u228 u229 u230 u231 u232 u233 u234 u235 u236 u237 u238 u239 u240 u241 u242 u243 u244 u245 u246 u247 u248 u249 u250 u251 u252 u253 u254 u255 u256 u257 u258 u259 u260 u261 u262 u263 u264 u265 u266 u267 u268 u269 u270 u271 u272 u273 u274 u275 u276 u277 u278 u279 u280 u281 u282 u283 u284 u285 u286 u287 u288 u289 u290 u291 u292 u293 u294 u295 u296 u297 u298 u299 u300 u301 u302 u303 u304 u305 u306 u307 u308 u309 u310 u311 u312 u313 u314 u315 u316 u317 u318 u319 u320 u321 u322 u323 u324 u325 u326 u327 u328 u329 u330 u331 u332 u333 u334 u335 u336 u337 u338 u339 u340 u341 u342 u343 u344 u345 u346 u347 u348 u349 u350 u351 u352 u353 u354 u355 u356 u357 u358 u359 u360 u361 u362 u363 u364 u365 u366 u367 u368 u369 u370 u371 u372 u373 u374 u375 u376 u377 u378 u379 : Value)
    (n t nf Bs bl tl gb cgb yl yc : Nat) (ya : Option Addr) (X : Tx) (h : Sh) (D : Dt) (bt td : Nat → Int) (tr eo : Bool) (ov5 tv5 : Value) (wS w5 wu : World)
    (n1 : 1 ≤ n) (n2 : n ≤ 4096) (htn : t < n) (hXL : ∀ i, i < n → X.L i ≤ 65536) (hHD : D = bData n bl tl X.kp X.pl X.rd X.wt (fun i j => X.Y i j % n) (fun i => X.mb i % n) bt td tr) (hok : Ok h D)
    (hshn : h.n = n) (hshf : h.nf = nf) (hshs : h.sl = X.L) (hshl : h.nl = nlOf n) (hshss : h.ss = ssOf n) (hshK : h.K = (keptL X.kp n).length) (hshW : h.W = ((keptL X.kp n).length + 63) / 64) (hTl : trailLen D.T ≤ 2000000)
    (hN5 : NormIs w5 Bs n X) (hST5 : StIs h (placed h D t) eo ov5 tv5 w5) (hKS5 : Keeps (fun _ => False) wS w5) (hK5u : Keeps (fun _ => False) w5 wu) (hT5 : TrailIs w5 (.slice ya yl yc) D.T) (hB5 : Rw w5 gb 37 h.nb (fun j => .int .u64 (D.B j))) :
    wpStmts Ybad.prog (stmtsFrom Ybad.f3 26) (bodyPost Ybad.prog Ybad.f3 fun e w' => e = Ending.returned (Value.bool true) ∧ Keeps (fun _ => False) wS w') ⟨#[u0, u1, u2, u3, .bool tr, u5, u6, u7, u8, u9, u10, u11, u12, u13, u14, u15, u16, .int .i64 (n : Int), .slice (some ⟨Bs, 0, none⟩) n n, .slice (some ⟨Bs + 1, 0, none⟩) n n, .slice (some ⟨Bs + 3, 0, none⟩) n n, .slice (some ⟨Bs + 5, 0, none⟩) n n, .slice (some ⟨Bs + 4, 0, none⟩) n n, .slice (some ⟨Bs + 2, 0, none⟩) n n, .int .i64 (nf : Int), .int .i64 (t : Int), .pointer (some ⟨h.qb, 0, none⟩), .slice (some ⟨gb, 0, none⟩) h.nb cgb, .slice ya yl yc, u29, u30, u31, u32, u33, u34, u35, u36, u37, u38, u39, u40, u41, u42, u43, u44, u45, u46, u47, u48, u49, u50, u51, u52, u53, u54, u55, u56, u57, u58, u59, u60, u61, u62, u63, u64, u65, u66, u67, u68, u69, u70, u71, u72, u73, u74, u75, u76, u77, u78, u79, u80, u81, u82, u83, u84, u85, u86, u87, u88, u89, u90, u91, u92, u93, u94, u95, u96, u97, u98, u99, u100, u101, u102, u103, u104, u105, u106, u107, u108, u109, u110, u111, u112, u113, u114, u115, u116, u117, u118, u119, u120, u121, u122, u123, u124, u125, u126, u127, u128, u129, u130, u131, u132, u133, u134, u135, u136, u137, u138, u139, u140, u141, u142, u143, u144, u145, u146, u147, u148, u149, u150, u151, u152, u153, u154, u155, u156, u157, u158, u159, u160, u161, u162, u163, u164, u165, u166, u167, u168, u169, u170, u171, u172, u173, u174, u175, u176, u177, u178, u179, u180, u181, u182, u183, u184, u185, u186, u187, u188, u189, u190, u191, u192, u193, u194, u195, u196, u197, u198, u199, u200, u201, u202, u203, u204, u205, u206, u207, u208, u209, u210, u211, u212, u213, u214, u215, u216, u217, u218, u219, u220, u221, u222, u223, u224, u225, u226, u227, u228, u229, u230, u231, u232, u233, u234, u235, u236, u237, u238, u239, u240, u241, u242, u243, u244, u245, u246, u247, u248, u249, u250, u251, u252, u253, u254, u255, u256, u257, u258, u259, u260, u261, u262, u263, u264, u265, u266, u267, u268, u269, u270, u271, u272, u273, u274, u275, u276, u277, u278, u279, u280, u281, u282, u283, u284, u285, u286, u287, u288, u289, u290, u291, u292, u293, u294, u295, u296, u297, u298, u299, u300, u301, u302, u303, u304, u305, u306, u307, u308, u309, u310, u311, u312, u313, u314, u315, u316, u317, u318, u319, u320, u321, u322, u323, u324, u325, u326, u327, u328, u329, u330, u331, u332, u333, u334, u335, u336, u337, u338, u339, u340, u341, u342, u343, u344, u345, u346, u347, u348, u349, u350, u351, u352, u353, u354, u355, u356, u357, u358, u359, u360, u361, u362, u363, u364, u365, u366, u367, u368, u369, u370, u371, u372, u373, u374, u375, u376, u377, u378, u379], []⟩ wu := by
  have HD := hid hHD
  have HXL := hid hXL
  have HOK := hid hok
  have HTl := hid hTl
  have HST5 := hid hST5
  have HKS5 := hid hKS5
  have HK5u := hid hK5u
  have HT5 := hid hT5
  have HB5 := hid hB5
  have HN5 := hid hN5
  have HNu := hid (hN5.keeps hK5u (fun _ _ e => e))
  have Hsn := hid hshn
  have Hsf := hid hshf
  have Hss := hid hshs
  have Hsl := hid hshl
  have Hsss := hid hshss
  have HsK := hid hshK
  have HsW := hid hshW
  have hnb : h.nb ≤ 262144 := by
    have := Nat.mul_le_mul hok.K2 hok.W1
    rw [hok.nbe]; omega
  have hW64 := hok.W1
  have hKle := hok.K2
  have eW : ((h.K : Int) + 63) / 64 = (h.W : Int) := by rw [hshK, hshW]; omega
  clear hXL hHD hok hTl hN5 hST5 hKS5 hK5u hT5 hB5 hshn hshf hshs hshl hshss hshK hshW
  refine wpStmts_k (ss := stmtsFrom Ybad.f3 27) rfl fun K hK => ?_
  have Hk := hid hK
  clear hK
  go_wp2
  refine Hk.out _ _ ?_
  clear Hk K
  refine wpStmts_k (ss := stmtsFrom Ybad.f3 28) rfl fun K hK => ?_
  have Hk := hid hK
  clear hK
  go_wp2
  refine Hk.out _ _ ?_
  clear Hk K
  refine wpStmts_k (ss := stmtsFrom Ybad.f3 29) rfl fun K hK => ?_
  have Hk := hid hK
  clear hK
  go_wp2
  refine Hk.out _ _ ?_
  clear Hk K
  have hb0 : (wu.alloc (Obj.cells #[] 3)).ownsRow wu.heap.size 3 1 (.slice (some ⟨wu.heap.size, 0, none⟩) 0 0) 0 [] :=
    World.ownsRow_made (base := wu.heap.size) (e := 3) (size := 1) wu #[] 0 (Nat.le_refl _) (by unfold maxLen; omega) (by simp)
  refine wpStmts_k (ss := stmtsFrom Ybad.f3 30) rfl fun K hK => ?_
  have Hk := hid hK
  clear hK
  refine part_K1 _ _ _ _ _ _ _ _ _ _ _ _ _ _ _ _ _ _ _ _ _ _ _ _ _ _ _ _ _ _ _ _ _ _ _ _ _ _ _ _ _ _ _ _ _ _ _ _ _ _ _ _ _ _ _ _ _ _ _ _ _ _ _ _ _ _ _ _ _ _ _ _ _ _ _ _ _ _ _ _ _ _ _ _ _ _ _ _ _ _ _ _ _ _ _ _ _ _ _ _ _ _ _ _ _ _ _ _ _ _ _ _ _ _ _ _ _ _ _ _ _ _ _ _ _ _ _ _ _ _ _ _ _ _ _ _ _ _ _ _ _ _ _ _ _ _ _ _ _ _ _ _ _ _ _ _ _ _ _ _ _ _ _ _ _ _ _ _ _ _ _ _ _ _ _ _ _ _ _ _ _ _ _ _ _ _ _ _ _ _ _ _ _ _ _ _ _ _ _ _ _ _ _ _ _ _ _ _ _ _ _ _ _ _ _ _ _ _ _ _ _ _ _ _ _ _ _ _ _ _ _ _ _ _ _ _ _ _ _ _ _ _ _ _ _ _ _ _ _ _ _ _ _ _ _ _ _ _ _ _ _ _ _ _ _ _ _ _ _ _ _ _ _ _ _ _ _ _ _ _ _ _ _ _ _ _ _ _ _ _ _ _ _ _ _ _ _ _ _ _ _ _ _ _ _ _ _ _ _ _ _ _ _ _ _ _ _ _ _ _ _ _ _ _ _ _ _ _ _ _ _ _ _ _ _ _ _ _ _ _ _ _ _ _ _ _ _ _ _ _ _ _ _ _ _ _ _ _ _ _ _ _ _ _ _ _ _ _ _ _ _ _ _ _ _ _ n t Bs wu.heap.size wu.heap.size X.kp _ htn n2 (Rw.of_row (HNu.out.alloc _).kp) HNu.out.kp.lt (by rw [nblk_alloc]; omega) hb0 ?_
  rintro x33 x230 x231 x232 x233 x234 x235 x236 x237 x238 x239 x240 x241 x242 x243 x244 x245 x246 x247 kv w6 ⟨hO, hne, hK6'⟩
  have hKu6 : Keeps (fun _ => False) wu w6 := ((Keeps.refl _ _).alloc _).trans hK6' (fun k hk e => by omega)
  have hK6 := tr0 HK5u.out hKu6
  clear hb0 hK6' hKu6
  rw [← HsK.out] at hO
  obtain ⟨g, cap, cur, rfl, hg⟩ := owns_shape hO hne
  have hgl := lt_of_blk hg
  have HKI := hid ((owns_rw hO).congr (g := fun i => .int .i64 (keptAt X.kp n i)) fun i hi => by
    rw [HsK.out] at hi
    simp [keptAt, ivals, hi])
  have HK6 := hid hK6
  have HB6 := hid (HB5.out.keeps hK6 (fun e => e))
  have HT6 := hid (trailIs_keeps HT5.out hK6 (fun _ _ e => e))
  clear hO hne hK6 hg
  refine Hk.out _ _ ?_
  clear Hk K
  refine wpStmts_k (ss := stmtsFrom Ybad.f3 31) rfl fun K hK => ?_
  have Hk := hid hK
  clear hK
  go_wp2
  refine Hk.out _ _ ?_
  clear Hk K
  refine wpStmts_k (ss := stmtsFrom Ybad.f3 32) rfl fun K hK => ?_
  have Hk := hid hK
  clear hK
  go_wp2
  refine Hk.out _ _ ?_
  clear Hk K
  refine wpStmts_k (ss := stmtsFrom Ybad.f3 33) rfl fun K hK => ?_
  have Hk := hid hK
  clear hK
  go_wp2_with fail
  refine (clone7_rw gb h.nb cgb _ w6 HB6.out (fun _ _ => rfl) (by omega)).mono ?_
  rintro e w7 ⟨ge, cge, rfl, hge, he7, hk7⟩
  have HE7 := hid he7
  have HK67 := hid hk7
  have HK7 := hid (tr0 HK6.out hk7)
  have HT7 := hid (trailIs_keeps HT6.out hk7 (fun _ _ e => e))
  clear he7 hk7
  go_wp2
  refine Hk.out _ _ ?_
  clear Hk K
  refine wpStmts_k (ss := stmtsFrom Ybad.f3 34) rfl fun K hK => ?_
  have Hk := hid hK
  clear hK
  go_wp2_with fail
  refine (clone8_trail _ D.T w7 HT7.out (Nat.le_trans HTl.out (by decide))).mono ?_
  rintro e w8 ⟨tv8, rfl, ht8, hn8, hk8⟩
  have HT8 := hid ht8
  have HN8 := hid (fun k hk => Nat.le_trans HK67.out.size (hn8 k hk))
  have HE8 := hid (HE7.out.keeps hk8 (fun e => e))
  have HKI8 := hid ((HKI.out.keeps HK67.out (fun e => e)).keeps hk8 (fun e => e))
  have HK68 := hid (tr0 HK67.out hk8)
  have HN8' := hid ((HN5.out.keeps HK7.out (fun _ _ e => e)).keeps hk8 (fun _ _ e => e))
  have lN := hid (fun j (hj : j < w5.heap.size) => Nat.lt_of_lt_of_le hj HK6.out.size)
  clear ht8 hn8 hk8
  go_wp2
  refine Hk.out _ _ ?_
  clear Hk K
  refine wpStmts_k (ss := stmtsFrom Ybad.f3 35) rfl fun K hK => ?_
  have Hk := hid hK
  clear hK
  go_wp2
  refine Hk.out _ _ ?_
  clear Hk K
  try rw [eW]
  refine wpStmts_k (ss := stmtsFrom Ybad.f3 36) rfl fun K hK => ?_
  have Hk := hid hK
  clear hK
  by_cases hneg : numOf X.kp t < 0
  · have hneg' : D.num t < 0 := by rw [HD.out]; exact hneg
    have Hneg := hid hneg'
    obtain ⟨xa, xl, xc, rfl, _⟩ := trail_nil HT8.out
    clear hneg'
    go_wp2
    refine Hk.out _ _ ?_
    clear Hk K
    exact part_C4 _ _ _ _ _ _ _ _ _ _ _ _ _ _ _ _ _ _ _ _ _ _ _ _ _ _ _ _ _ _ _ _ _ _ _ _ _ _ _ _ _ _ _ _ _ _ _ _ _ _ _ _ _ _ _ _ _ _ _ _ _ _ _ _ _ _ _ _ _ _ _ _ _ _ _ _ _ _ _ _ _ _ _ _ _ _ _ _ _ _ _ _ _ _ _ _ _ _ _ _ _ _ _ _ _ _ _ _ _ _ _ _ _ _ _ _ _ _ _ _ _ _ _ _ _ _ _ _ _ _ _ _ _ _ _ _ _ _ _ _ _ _ _ _ _ _ _ _ _ _ _ _ _ _ _ _ _ _ _ _ _ _ _ _ _ _ _ _ _ _ _ _ _ _ _ _ _ _ _ _ _ _ _ _ _ _ _ _ _ _ _ _ _ _ _ _ _ _ _ _ _ _ _ _ _ _ _ _ _ _ _ _ _ _ _ _ _ _ _ _ _ _ _ _ _ _ _ _ _ _ _ _ _ _ _ _ _ _ _ _ _ _ _ _ _ _ _ _ _ _ _ _ _ _ _ _ _ _ _ _ _ _ _ _ _ _ _ _ _ _ _ _ _ _ _ _ _ _ _ _ _ _ _ _ _ _ _ _ _ _ _ _ _ _ _ _ _ _ _ _ _ _ _ _ _ _ _ _ _ _ _ _ _ _ _ _ _ _ _ _ _ _ _ _ _ _ _ _ _ _ _ _ _ _ _ _ _ _ _ _ _ _ _ _ _ _ _ _ _ _ _ _ _ _ _ _ _ _ _ _ _ _ _ _ _ _ _ _ _ n t nf Bs bl tl ge cge xl xc xa X h D bt td tr eo ov5 tv5 wS w5 w8 n1 n2 htn HXL.out HD.out HOK.out Hsn.out Hsf.out Hss.out Hsl.out Hsss.out HTl.out HN5.out HST5.out HKS5.out (tr0 HK6.out HK68.out)
      (by rw [putSt, if_pos Hneg.out]; exact HT8.out) (by rw [putSt, if_pos Hneg.out]; exact HE8.out)
  · have hkt : X.kp t = true := by
      cases hh : X.kp t
      · simp [numOf, hh] at hneg
      · rfl
    obtain ⟨k, hk⟩ : ∃ k, k = (keptL X.kp t).length := ⟨_, rfl⟩
    have enum : numOf X.kp t = (k : Int) := by rw [numOf, if_pos hkt, hk]
    have hkK : k < h.K := by
      have := num_lt (kp := X.kp) htn
      rw [enum, ← HsK.out] at this
      omega
    have hkW : k * h.W + h.W ≤ h.nb := by
      rw [HOK.out.nbe]
      have := Nat.mul_le_mul_right h.W (show k + 1 ≤ h.K from hkK)
      rw [Nat.add_mul, Nat.one_mul] at this
      exact this
    have eput : putSt h D t = joinSt (fun i => lawRest (restP h.K k X.pl (keptAt X.kp n)) i 64) (k * h.W) (D.B, D.T) h.W := by
      have e1 : D.num t = (k : Int) := by rw [HD.out]; exact enum
      have e2 : ¬ D.num t < 0 := by omega
      rw [putSt, if_neg e2, e1, Int.toNat_natCast]
      apply joinSt_congr
      intro i _
      rw [rest_eq, HD.out]
      rfl
    have htr : D.T.isSome = tr := by rw [HD.out]; simp only [bData]; cases tr <;> rfl
    have edec : decide (0 ≤ numOf X.kp t) = true := by simp; omega
    have hkn : ∀ i, i < h.K → keptAt X.kp n i < n := fun i hi => kept_at (by rw [← HsK.out]; exact hi)
    rw [edec, enum]
    refine part_E1 _ _ _ _ _ _ _ _ _ _ _ _ _ _ _ _ _ _ _ _ _ _ _ _ _ _ _ _ _ _ _ _ _ _ _ _ _ _ _ _ _ _ _ _ _ _ _ _ _ _ _ _ _ _ _ _ _ _ _ _ _ _ _ _ _ _ _ _ _ _ _ _ _ _ _ _ _ _ _ _ _ _ _ _ _ _ _ _ _ _ _ _ _ _ _ _ _ _ _ _ _ _ _ _ _ _ _ _ _ _ _ _ _ _ _ _ _ _ _ _ _ _ _ _ _ _ _ _ _ _ _ _ _ _ _ _ _ _ _ _ _ _ _ _ _ _ _ _ _ _ _ _ _ _ _ _ _ _ _ _ _ _ _ _ _ _ _ _ _ _ _ _ _ _ _ _ _ _ _ _ _ _ _ _ _ _ _ _ _ _ _ _ _ _ _ _ _ _ _ _ _ _ _ _ _ _ _ _ _ _ _ _ _ _ _ _ _ _ _ _ _ _ _ _ _ _ _ _ _ _ _ _ _ _ _ _ _ _ _ _ _ _ _ _ _ _ _ _ _ _ _ _ _ _ _ _ _ _ _ _ _ _ _ _ _ _ _ _ _ _ _ _ _ _ _ _ _ _ _ _ _ _ _ _ _ _ _ _ _ _ _ _ _ _ _ _ _ _ _ _ _ _ _ _ _ _ _ _ _ _ _ _ _ _ _ _ _ _ _ _ _ _ _ _ _ _ _ _ _ _ _ _ _ _ _ _ _ _ _ _ _ _ _ _ _ _ _ _ _ _ _ _ _ _ _ _ _ _ _ _ _ _ _ _ _ _ _ _ _ _ _ _ _ n (Bs + 1) g h.K cap k h.W h.nb ge cge (k * h.W) w6.heap.size tr X.pl (keptAt X.kp n) D.B D.T tv8 w8 hKle hW64 hkK rfl hkW hnb (Rw.of_row HN8'.out.pl) (lN.out _ HN5.out.pl.lt) HKI8.out hgl hkn HK68.out.size hge HT8.out HN8.out HE8.out htr HTl.out ?_
    rintro x38 x39 x40 x41 x42 x43 x259 x260 x261 x262 x263 x264 x265 x266 x267 x268 x269 x270 x271 x272 x273 x274 x275 x276 x277 x278 x279 x280 x281 x282 x283 x284 x285 x286 x287 x288 x289 x290 x291 x292 x293 x294 x295 x296 x297 x298 x299 x300 x301 x302 x303 x304 x305 x306 x307 x308 x309 x310 x311 x312 x313 x314 x315 x316 x317 x318 x319 x320 et w9 ⟨hT9, hN9, hE9, hK9⟩
    obtain ⟨xa, xl, xc, rfl, _⟩ := trail_nil hT9
    refine Hk.out _ _ ?_
    clear Hk K
    exact part_C4 _ _ _ _ _ _ _ _ _ _ _ _ _ _ _ _ _ _ _ _ _ _ _ _ _ _ _ _ _ _ _ _ _ _ _ _ _ _ _ _ _ _ _ _ _ _ _ _ _ _ _ _ _ _ _ _ _ _ _ _ _ _ _ _ _ _ _ _ _ _ _ _ _ _ _ _ _ _ _ _ _ _ _ _ _ _ _ _ _ _ _ _ _ _ _ _ _ _ _ _ _ _ _ _ _ _ _ _ _ _ _ _ _ _ _ _ _ _ _ _ _ _ _ _ _ _ _ _ _ _ _ _ _ _ _ _ _ _ _ _ _ _ _ _ _ _ _ _ _ _ _ _ _ _ _ _ _ _ _ _ _ _ _ _ _ _ _ _ _ _ _ _ _ _ _ _ _ _ _ _ _ _ _ _ _ _ _ _ _ _ _ _ _ _ _ _ _ _ _ _ _ _ _ _ _ _ _ _ _ _ _ _ _ _ _ _ _ _ _ _ _ _ _ _ _ _ _ _ _ _ _ _ _ _ _ _ _ _ _ _ _ _ _ _ _ _ _ _ _ _ _ _ _ _ _ _ _ _ _ _ _ _ _ _ _ _ _ _ _ _ _ _ _ _ _ _ _ _ _ _ _ _ _ _ _ _ _ _ _ _ _ _ _ _ _ _ _ _ _ _ _ _ _ _ _ _ _ _ _ _ _ _ _ _ _ _ _ _ _ _ _ _ _ _ _ _ _ _ _ _ _ _ _ _ _ _ _ _ _ _ _ _ _ _ _ _ _ _ _ _ _ _ _ _ _ _ _ _ _ _ _ _ _ _ _ _ _ _ _ n t nf Bs bl tl ge cge xl xc xa X h D bt td tr eo ov5 tv5 wS w5 w9 n1 n2 htn HXL.out HD.out HOK.out Hsn.out Hsf.out Hss.out Hsl.out Hsss.out HTl.out HN5.out HST5.out HKS5.out
      ((tr0 HK6.out HK68.out).trans hK9 (fun k hk e => by have := HK6.out.size; omega)) (by rw [eput]; exact hT9) (by rw [eput]; exact hE9)
end Go.Proofs.YbulkebqyDoor
