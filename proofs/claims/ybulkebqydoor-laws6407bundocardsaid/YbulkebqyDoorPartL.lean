import Derived.Test.YbulkebqyDoorPartE
namespace Go.Proofs.YbulkebqyDoor
open Go.RowKit Go.Deep

set_option maxRecDepth 100000 in
set_option maxHeartbeats 2000000 in
theorem part_L5 (u0 u1 u2 u3 u4 u5 u6 u7 u8 u9 u10 u11 u12 u13 u14 u15 u16 u17 u18 u19 u20 u23 u24 u26 u27 u28 u29 u30 u31 u32 u33 u34 u35 u36 u37 u38 u39 u40 u41 u42 u43 u44 u48 u49 u50 u51 u52 u53 u54 u55 u56 u57 u58 u59 u60 u61 u62 u63 u64 u65 u66 u67 u68 u69 u70 u71 u72 u73 u74 u75 u76 u77 u78 u79 u80 u81 u82 u83 u84 u85 u86 u87 u88 u89 u90 u91 u92 u93 u94 u95 u96 u97 u98 u99 u100 u101 u102 u103 u104 u105 u106 u107 u108 u109 u110 u111 u112 u113 u114 u115 u116 u117 u118 u119 u120 u121 u122 u123 u124 u125 u126 u127 u128 u129 u130 u131 u132 u133 u134 u135 u136 u137 u138 u139 u140 u141 u142 u143 u144 u145 u146 u147 u148 u149 u150 u151 u152 u153 u154 u155 u156 u157 u158 u159 u160 u161 u162 u163 u164 u165 u166 u167 u168 u169 u170 u171 u172 u173 u174 u175 u176 u177 u178 u179 u180 u181 u182 u183 u184 u185 u186 u187 u188 u189 u190 u191 u192 u193 u194 u195 u196 u197 u198 u199 u200 u201 u202 u203 u204 u205 u206 u207 u208 u209 u210 u211 u212 u213 u214 u215 u216 u217 u218 u219 u220 u221 u222 u223 u224 u225 u226 u227 u228 u229 u230 u231 u232 u233 u234 u235 u236 u237 u238 u239 u240 u241 u242 u243 u244 u245 u246 u247 u248 u249 u250 u251 u252 u253 u254 u255 u256 u257 u258 u259 u260 u261 u262 u263 u264 u265 u266 u267 u268 u269 u270 u271 u272 u273 u274 u275 u276 u277 u278 u279 u280 u281 u282 u283 u284 u285 u286 u287 u288 u289 u290 u291 u292 u293 u294 u295 u296 u297 u298 u299 u300 u301 u302 u303 u304 u305 u306 u307 u308 u309 u310 u311 u312 u313 u314 u315 u316 u317 u318 u319 u320 u321 u322 u323 u324 u325 u326 u327 u328 u329 u330 u331 u332 u333 u334 u335 u336 u337 u338 u339 u340 u341 u342 u343 u344 u345 u346 u347 u348 u349 u350 u351 u352 u353 u354 u355 u356 u357 u358 u359 u360 u361 u362 u363 u364 u365 u366 u367 u368 u369 u370 u371 u372 u373 u374 u375 u376 u377 u378 u379 : Value) (K : Act → World → Prop) (Q' : Exit → Act → World → Prop)
    (n spb mpb t gw cw gr cr sa L cs base : Nat) (us mem : Nat → Nat) (wt : Nat → Int) (rd : Nat → Bool) (w : World)
    (htn : t < n) (hL : L ≤ 65536) (hus : ∀ j, j < L → us j < n) (hmem : ∀ i, i < n → mem i < n) (hsp : w.cell? ⟨spb, t, none⟩ = some (.slice (some ⟨sa, 0, none⟩) L cs)) (hspb : spb < base) (hsa : Rw w sa 3 L (fun j => .int .i64 (us j))) (hsab : sa < base) (hmp : Rw w mpb 3 n (fun i => .int .i64 (mem i))) (hmpb : mpb < base)
    (hgw : Rw w gw 3 n (fun i => .int .i64 (wt i))) (hgwb : base ≤ gw) (hgr : Rw w gr 4 n (fun i => .bool (rd i))) (hgrb : base ≤ gr)
    (hK : ∀ (v47 v48 v336 v337 v338 v339 v340 v341 v342 v343 v344 v345 v346 v347 v348 v349 v350 v351 v352 v353 v354 v355 v356 v357 v358 v359 v360 v361 v362 v363 v364 v365 v366 v367 v368 : Value) (w9 : World), Rw w9 gw 3 n (fun i => .int .i64 ((lawW mem us (wt, rd) L).1 i)) ∧ Rw w9 gr 4 n (fun i => .bool ((lawW mem us (wt, rd) L).2 i)) ∧ Keeps (fun k => k = gw ∨ k = gr) w w9 → K ⟨#[u0, u1, u2, u3, u4, u5, u6, u7, u8, u9, u10, u11, u12, u13, u14, u15, u16, u17, u18, u19, u20, .slice (some ⟨spb, 0, none⟩) n n, .slice (some ⟨mpb, 0, none⟩) n n, u23, u24, .int .i64 (t : Int), u26, u27, u28, u29, u30, u31, u32, u33, u34, u35, u36, u37, u38, u39, u40, u41, u42, u43, u44, .slice (some ⟨gw, 0, none⟩) n cw, .slice (some ⟨gr, 0, none⟩) n cr, v47, v48, u49, u50, u51, u52, u53, u54, u55, u56, u57, u58, u59, u60, u61, u62, u63, u64, u65, u66, u67, u68, u69, u70, u71, u72, u73, u74, u75, u76, u77, u78, u79, u80, u81, u82, u83, u84, u85, u86, u87, u88, u89, u90, u91, u92, u93, u94, u95, u96, u97, u98, u99, u100, u101, u102, u103, u104, u105, u106, u107, u108, u109, u110, u111, u112, u113, u114, u115, u116, u117, u118, u119, u120, u121, u122, u123, u124, u125, u126, u127, u128, u129, u130, u131, u132, u133, u134, u135, u136, u137, u138, u139, u140, u141, u142, u143, u144, u145, u146, u147, u148, u149, u150, u151, u152, u153, u154, u155, u156, u157, u158, u159, u160, u161, u162, u163, u164, u165, u166, u167, u168, u169, u170, u171, u172, u173, u174, u175, u176, u177, u178, u179, u180, u181, u182, u183, u184, u185, u186, u187, u188, u189, u190, u191, u192, u193, u194, u195, u196, u197, u198, u199, u200, u201, u202, u203, u204, u205, u206, u207, u208, u209, u210, u211, u212, u213, u214, u215, u216, u217, u218, u219, u220, u221, u222, u223, u224, u225, u226, u227, u228, u229, u230, u231, u232, u233, u234, u235, u236, u237, u238, u239, u240, u241, u242, u243, u244, u245, u246, u247, u248, u249, u250, u251, u252, u253, u254, u255, u256, u257, u258, u259, u260, u261, u262, u263, u264, u265, u266, u267, u268, u269, u270, u271, u272, u273, u274, u275, u276, u277, u278, u279, u280, u281, u282, u283, u284, u285, u286, u287, u288, u289, u290, u291, u292, u293, u294, u295, u296, u297, u298, u299, u300, u301, u302, u303, u304, u305, u306, u307, u308, u309, u310, u311, u312, u313, u314, u315, u316, u317, u318, u319, u320, u321, u322, u323, u324, u325, u326, u327, u328, u329, u330, u331, u332, u333, u334, u335, v336, v337, v338, v339, v340, v341, v342, v343, v344, v345, v346, v347, v348, v349, v350, v351, v352, v353, v354, v355, v356, v357, v358, v359, v360, v361, v362, v363, v364, v365, v366, v367, v368, u369, u370, u371, u372, u373, u374, u375, u376, u377, u378, u379], []⟩ w9) :
    Code.wp Ybad.prog (blockOf Ybad.f3 8) (Exit.then K Q') ⟨#[u0, u1, u2, u3, u4, u5, u6, u7, u8, u9, u10, u11, u12, u13, u14, u15, u16, u17, u18, u19, u20, .slice (some ⟨spb, 0, none⟩) n n, .slice (some ⟨mpb, 0, none⟩) n n, u23, u24, .int .i64 (t : Int), u26, u27, u28, u29, u30, u31, u32, u33, u34, u35, u36, u37, u38, u39, u40, u41, u42, u43, u44, .slice (some ⟨gw, 0, none⟩) n cw, .slice (some ⟨gr, 0, none⟩) n cr, .int .i64 0, u48, u49, u50, u51, u52, u53, u54, u55, u56, u57, u58, u59, u60, u61, u62, u63, u64, u65, u66, u67, u68, u69, u70, u71, u72, u73, u74, u75, u76, u77, u78, u79, u80, u81, u82, u83, u84, u85, u86, u87, u88, u89, u90, u91, u92, u93, u94, u95, u96, u97, u98, u99, u100, u101, u102, u103, u104, u105, u106, u107, u108, u109, u110, u111, u112, u113, u114, u115, u116, u117, u118, u119, u120, u121, u122, u123, u124, u125, u126, u127, u128, u129, u130, u131, u132, u133, u134, u135, u136, u137, u138, u139, u140, u141, u142, u143, u144, u145, u146, u147, u148, u149, u150, u151, u152, u153, u154, u155, u156, u157, u158, u159, u160, u161, u162, u163, u164, u165, u166, u167, u168, u169, u170, u171, u172, u173, u174, u175, u176, u177, u178, u179, u180, u181, u182, u183, u184, u185, u186, u187, u188, u189, u190, u191, u192, u193, u194, u195, u196, u197, u198, u199, u200, u201, u202, u203, u204, u205, u206, u207, u208, u209, u210, u211, u212, u213, u214, u215, u216, u217, u218, u219, u220, u221, u222, u223, u224, u225, u226, u227, u228, u229, u230, u231, u232, u233, u234, u235, u236, u237, u238, u239, u240, u241, u242, u243, u244, u245, u246, u247, u248, u249, u250, u251, u252, u253, u254, u255, u256, u257, u258, u259, u260, u261, u262, u263, u264, u265, u266, u267, u268, u269, u270, u271, u272, u273, u274, u275, u276, u277, u278, u279, u280, u281, u282, u283, u284, u285, u286, u287, u288, u289, u290, u291, u292, u293, u294, u295, u296, u297, u298, u299, u300, u301, u302, u303, u304, u305, u306, u307, u308, u309, u310, u311, u312, u313, u314, u315, u316, u317, u318, u319, u320, u321, u322, u323, u324, u325, u326, u327, u328, u329, u330, u331, u332, u333, u334, u335, u336, u337, u338, u339, u340, u341, u342, u343, u344, u345, u346, u347, u348, u349, u350, u351, u352, u353, u354, u355, u356, u357, u358, u359, u360, u361, u362, u363, u364, u365, u366, u367, u368, u369, u370, u371, u372, u373, u374, u375, u376, u377, u378, u379], []⟩ w := by
  have HKK := hid hK
  have HUS := hid hus
  have HMEM := hid hmem
  have HSP := hid hsp
  have HSA := hid hsa
  have HMP := hid hmp
  have HGW := hid hgw
  have HGR := hid hgr
  clear hK hus hmem hsp hsa hmp hgw hgr
  conv => arg 2; whnf
  go_wp2
  go_loopg [47] L (fun gg i wr => ∃ c : Nat, c + gg = L ∧ i = .int .i64 c ∧ Rw wr gw 3 n (fun i => .int .i64 ((lawW mem us (wt, rd) c).1 i)) ∧ Rw wr gr 4 n (fun i => .bool ((lawW mem us (wt, rd) c).2 i)) ∧ Keeps (fun k => k = gw ∨ k = gr) w wr)
  case atStart => exact ⟨0, by omega, rfl, HGW.out, HGR.out, Keeps.refl _ _⟩
  case round =>
    obtain ⟨c, hc, rfl, hW, hR, hKc⟩ := hrel
    have HW := hid hW
    have HR := hid hR
    have HKc := hid hKc
    have csp : wr.cell? ⟨spb, t, none⟩ = some (.slice (some ⟨sa, 0, none⟩) L cs) := (World.cell?_of_block (w := w) (hKc.block spb (cell_lt HSP.out) (fun e => by omega))).trans HSP.out
    by_cases hlt : c < L
    · have cus : wr.cell? ⟨sa, c, none⟩ = some (.int .i64 (us c)) := (HSA.out.keeps hKc (fun e => by omega)).cell hlt
      have hun := HUS.out c hlt
      obtain ⟨wv, hwv⟩ : ∃ wv, wv = (lawW mem us (wt, rd) c).1 (us c) := ⟨_, rfl⟩
      have cw' : wr.cell? ⟨gw, us c, none⟩ = some (.int .i64 wv) := by rw [hwv]; exact hW.cell hun
      have fw : wr.frozen? ⟨gw, us c, none⟩ = false := hW.frozen _
      have cm : wr.cell? ⟨mpb, us c, none⟩ = some (.int .i64 (mem (us c))) := (HMP.out.keeps hKc (fun e => by omega)).cell hun
      have hmn := HMEM.out _ hun
      obtain ⟨rv, crv⟩ : ∃ rv, wr.cell? ⟨gr, mem (us c), none⟩ = some (.bool rv) := ⟨_, hR.cell hmn⟩
      have fr : wr.frozen? ⟨gr, mem (us c), none⟩ = false := hR.frozen _
      obtain ⟨bw, hbw⟩ := hW.blk
      obtain ⟨br, hbr⟩ := hR.blk
      have nwr : ¬ gr = gw := ne_of_types hbr hbw (by decide)
      have hJ : lawW mem us (wt, rd) (c + 1) = (setI (lawW mem us (wt, rd) c).1 (us c) (wrap64 (wv - 1)), if wrap64 (wv - 1) = 0 then setP (lawW mem us (wt, rd) c).2 (mem (us c)) true else (lawW mem us (wt, rd) c).2) := by
        simp only [lawW, hwv]
      have HJ := hid hJ
      clear hW hR hKc hJ hwv hbw hbr
      by_cases hz : wrap64 (wv - 1) = 0
      · have hb : (wrap64 (wv - 1) == 0) = true := by simp [hz]
        have HZ := hid hz
        clear hz
        go_wp2
        go_roundg (L - (c + 1))
        case measure => omega
        case rel =>
          refine ⟨c + 1, by omega, by go_num, ?_, ?_, (HKc.out.setCell _ _ (fun _ => .inl rfl)).setCell _ _ (fun _ => .inr rfl)⟩
          · rw [HJ.out]
            refine ((HW.out.set (us c) (.int .i64 (wrap64 (wv - 1)))).of_block (blk_setCell_other _ _ _ _ (fun e => nwr e.symm))).congr fun j _ => ?_
            simp only [setI]; split <;> rfl
          · rw [HJ.out]
            simp only [if_pos HZ.out]
            refine ((HR.out.of_block (blk_setCell_other _ _ _ _ nwr)).set (mem (us c)) (.bool true)).congr fun j _ => ?_
            simp only [setP]; split <;> rfl
      · have hb : (wrap64 (wv - 1) == 0) = false := by simp [hz]
        have HZ := hid hz
        clear hz
        go_wp2
        go_roundg (L - (c + 1))
        case measure => omega
        case rel =>
          refine ⟨c + 1, by omega, by go_num, ?_, ?_, HKc.out.setCell _ _ (fun _ => .inl rfl)⟩
          · rw [HJ.out]
            refine (HW.out.set (us c) (.int .i64 (wrap64 (wv - 1)))).congr fun j _ => ?_
            simp only [setI]; split <;> rfl
          · rw [HJ.out]
            simp only [if_neg HZ.out]
            exact HR.out.of_block (blk_setCell_other _ _ _ _ nwr)
    · obtain rfl : c = L := by omega
      clear hW hR hKc
      go_wp2
      exact HKK.out _ _ _ _ _ _ _ _ _ _ _ _ _ _ _ _ _ _ _ _ _ _ _ _ _ _ _ _ _ _ _ _ _ _ _ _ ⟨HW.out, HR.out, HKc.out⟩

end Go.Proofs.YbulkebqyDoor
