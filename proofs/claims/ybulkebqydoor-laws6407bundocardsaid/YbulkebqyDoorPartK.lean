import Derived.Test.YbulkebqyDoorPartA
namespace Go.Proofs.YbulkebqyDoor
open Go.RowKit Go.Deep

/-- The statement of a body that is block k; that is a test of slot k. -/
def findBlock (k : Nat) : Code → Option Code
  | .block i c => if i = k then some (.block i c) else findBlock k c
  | .seq a b => match findBlock k a with
    | some c => some c
    | none => findBlock k b
  | .loop c => findBlock k c
  | .scope c => findBlock k c
  | .cond _ a b => match findBlock k a with
    | some c => some c
    | none => findBlock k b
  | _ => none
def blockOf (f : Func) (k : Nat) : Code := (f.body.bind (findBlock k)).getD .skip
def findCond (k : Nat) : Code → Option Code
  | .block _ c => findCond k c
  | .seq a b => match findCond k a with
    | some c => some c
    | none => findCond k b
  | .loop c => findCond k c
  | .scope c => findCond k c
  | .cond (.tmp j) a b => if j = k then some (.cond (.tmp j) a b) else match findCond k a with
    | some c => some c
    | none => findCond k b
  | .cond _ a b => match findCond k a with
    | some c => some c
    | none => findCond k b
  | _ => none
def condOf (f : Func) (k : Nat) : Code := (f.body.bind (findCond k)).getD .skip

set_option maxRecDepth 100000 in
set_option maxHeartbeats 2000000 in
theorem part_K1 (u0 u1 u2 u3 u4 u5 u6 u7 u8 u9 u10 u11 u12 u13 u14 u15 u16 u19 u20 u21 u22 u23 u24 u26 u27 u28 u29 u30 u34 u35 u36 u37 u38 u39 u40 u41 u42 u43 u44 u45 u46 u47 u48 u49 u50 u51 u52 u53 u54 u55 u56 u57 u58 u59 u60 u61 u62 u63 u64 u65 u66 u67 u68 u69 u70 u71 u72 u73 u74 u75 u76 u77 u78 u79 u80 u81 u82 u83 u84 u85 u86 u87 u88 u89 u90 u91 u92 u93 u94 u95 u96 u97 u98 u99 u100 u101 u102 u103 u104 u105 u106 u107 u108 u109 u110 u111 u112 u113 u114 u115 u116 u117 u118 u119 u120 u121 u122 u123 u124 u125 u126 u127 u128 u129 u130 u131 u132 u133 u134 u135 u136 u137 u138 u139 u140 u141 u142 u143 u144 u145 u146 u147 u148 u149 u150 u151 u152 u153 u154 u155 u156 u157 u158 u159 u160 u161 u162 u163 u164 u165 u166 u167 u168 u169 u170 u171 u172 u173 u174 u175 u176 u177 u178 u179 u180 u181 u182 u183 u184 u185 u186 u187 u188 u189 u190 u191 u192 u193 u194 u195 u196 u197 u198 u199 u200 u201 u202 u203 u204 u205 u206 u207 u208 u209 u210 u211 u212 u213 u214 u215 u216 u217 u218 u219 u220 u221 u222 u223 u224 u225 u226 u227 u228 u229 u230 u231 u232 u233 u234 u235 u236 u237 u238 u239 u240 u241 u242 u243 u244 u245 u246 u247 u248 u249 u250 u251 u252 u253 u254 u255 u256 u257 u258 u259 u260 u261 u262 u263 u264 u265 u266 u267 u268 u269 u270 u271 u272 u273 u274 u275 u276 u277 u278 u279 u280 u281 u282 u283 u284 u285 u286 u287 u288 u289 u290 u291 u292 u293 u294 u295 u296 u297 u298 u299 u300 u301 u302 u303 u304 u305 u306 u307 u308 u309 u310 u311 u312 u313 u314 u315 u316 u317 u318 u319 u320 u321 u322 u323 u324 u325 u326 u327 u328 u329 u330 u331 u332 u333 u334 u335 u336 u337 u338 u339 u340 u341 u342 u343 u344 u345 u346 u347 u348 u349 u350 u351 u352 u353 u354 u355 u356 u357 u358 u359 u360 u361 u362 u363 u364 u365 u366 u367 u368 u369 u370 u371 u372 u373 u374 u375 u376 u377 u378 u379 : Value) (K : Act → World → Prop) (Q' : Exit → Act → World → Prop)
    (n t kb b0 base : Nat) (kp : Nat → Bool) (w : World)
    (htn : t < n) (n2 : n ≤ 4096) (hkb : Rw w kb 4 n (fun i => .bool (kp i))) (hkl : kb < base) (hbw : base ≤ w.heap.size) (hO0 : w.ownsRow base 3 1 (.slice (some ⟨b0, 0, none⟩) 0 0) 0 [])
    (hK : ∀ (v33 v230 v231 v232 v233 v234 v235 v236 v237 v238 v239 v240 v241 v242 v243 v244 v245 v246 v247 kv : Value) (w9 : World), w9.ownsRow base 3 1 kv (keptL kp n).length (ivals (keptL kp n)) ∧ ¬ kv = .slice none 0 0 ∧ Keeps (fun k => base ≤ k) w w9 → K ⟨#[u0, u1, u2, u3, u4, u5, u6, u7, u8, u9, u10, u11, u12, u13, u14, u15, u16, .int .i64 (n : Int), .slice (some ⟨kb, 0, none⟩) n n, u19, u20, u21, u22, u23, u24, .int .i64 (t : Int), u26, u27, u28, u29, u30, kv, .int .i64 (numOf kp t), v33, u34, u35, u36, u37, u38, u39, u40, u41, u42, u43, u44, u45, u46, u47, u48, u49, u50, u51, u52, u53, u54, u55, u56, u57, u58, u59, u60, u61, u62, u63, u64, u65, u66, u67, u68, u69, u70, u71, u72, u73, u74, u75, u76, u77, u78, u79, u80, u81, u82, u83, u84, u85, u86, u87, u88, u89, u90, u91, u92, u93, u94, u95, u96, u97, u98, u99, u100, u101, u102, u103, u104, u105, u106, u107, u108, u109, u110, u111, u112, u113, u114, u115, u116, u117, u118, u119, u120, u121, u122, u123, u124, u125, u126, u127, u128, u129, u130, u131, u132, u133, u134, u135, u136, u137, u138, u139, u140, u141, u142, u143, u144, u145, u146, u147, u148, u149, u150, u151, u152, u153, u154, u155, u156, u157, u158, u159, u160, u161, u162, u163, u164, u165, u166, u167, u168, u169, u170, u171, u172, u173, u174, u175, u176, u177, u178, u179, u180, u181, u182, u183, u184, u185, u186, u187, u188, u189, u190, u191, u192, u193, u194, u195, u196, u197, u198, u199, u200, u201, u202, u203, u204, u205, u206, u207, u208, u209, u210, u211, u212, u213, u214, u215, u216, u217, u218, u219, u220, u221, u222, u223, u224, u225, u226, u227, u228, u229, v230, v231, v232, v233, v234, v235, v236, v237, v238, v239, v240, v241, v242, v243, v244, v245, v246, v247, u248, u249, u250, u251, u252, u253, u254, u255, u256, u257, u258, u259, u260, u261, u262, u263, u264, u265, u266, u267, u268, u269, u270, u271, u272, u273, u274, u275, u276, u277, u278, u279, u280, u281, u282, u283, u284, u285, u286, u287, u288, u289, u290, u291, u292, u293, u294, u295, u296, u297, u298, u299, u300, u301, u302, u303, u304, u305, u306, u307, u308, u309, u310, u311, u312, u313, u314, u315, u316, u317, u318, u319, u320, u321, u322, u323, u324, u325, u326, u327, u328, u329, u330, u331, u332, u333, u334, u335, u336, u337, u338, u339, u340, u341, u342, u343, u344, u345, u346, u347, u348, u349, u350, u351, u352, u353, u354, u355, u356, u357, u358, u359, u360, u361, u362, u363, u364, u365, u366, u367, u368, u369, u370, u371, u372, u373, u374, u375, u376, u377, u378, u379], []⟩ w9) :
    Code.wp Ybad.prog (blockOf Ybad.f3 2) (Exit.then K Q') ⟨#[u0, u1, u2, u3, u4, u5, u6, u7, u8, u9, u10, u11, u12, u13, u14, u15, u16, .int .i64 (n : Int), .slice (some ⟨kb, 0, none⟩) n n, u19, u20, u21, u22, u23, u24, .int .i64 (t : Int), u26, u27, u28, u29, u30, .slice (some ⟨b0, 0, none⟩) 0 0, .int .i64 (-1), .int .i64 0, u34, u35, u36, u37, u38, u39, u40, u41, u42, u43, u44, u45, u46, u47, u48, u49, u50, u51, u52, u53, u54, u55, u56, u57, u58, u59, u60, u61, u62, u63, u64, u65, u66, u67, u68, u69, u70, u71, u72, u73, u74, u75, u76, u77, u78, u79, u80, u81, u82, u83, u84, u85, u86, u87, u88, u89, u90, u91, u92, u93, u94, u95, u96, u97, u98, u99, u100, u101, u102, u103, u104, u105, u106, u107, u108, u109, u110, u111, u112, u113, u114, u115, u116, u117, u118, u119, u120, u121, u122, u123, u124, u125, u126, u127, u128, u129, u130, u131, u132, u133, u134, u135, u136, u137, u138, u139, u140, u141, u142, u143, u144, u145, u146, u147, u148, u149, u150, u151, u152, u153, u154, u155, u156, u157, u158, u159, u160, u161, u162, u163, u164, u165, u166, u167, u168, u169, u170, u171, u172, u173, u174, u175, u176, u177, u178, u179, u180, u181, u182, u183, u184, u185, u186, u187, u188, u189, u190, u191, u192, u193, u194, u195, u196, u197, u198, u199, u200, u201, u202, u203, u204, u205, u206, u207, u208, u209, u210, u211, u212, u213, u214, u215, u216, u217, u218, u219, u220, u221, u222, u223, u224, u225, u226, u227, u228, u229, u230, u231, u232, u233, u234, u235, u236, u237, u238, u239, u240, u241, u242, u243, u244, u245, u246, u247, u248, u249, u250, u251, u252, u253, u254, u255, u256, u257, u258, u259, u260, u261, u262, u263, u264, u265, u266, u267, u268, u269, u270, u271, u272, u273, u274, u275, u276, u277, u278, u279, u280, u281, u282, u283, u284, u285, u286, u287, u288, u289, u290, u291, u292, u293, u294, u295, u296, u297, u298, u299, u300, u301, u302, u303, u304, u305, u306, u307, u308, u309, u310, u311, u312, u313, u314, u315, u316, u317, u318, u319, u320, u321, u322, u323, u324, u325, u326, u327, u328, u329, u330, u331, u332, u333, u334, u335, u336, u337, u338, u339, u340, u341, u342, u343, u344, u345, u346, u347, u348, u349, u350, u351, u352, u353, u354, u355, u356, u357, u358, u359, u360, u361, u362, u363, u364, u365, u366, u367, u368, u369, u370, u371, u372, u373, u374, u375, u376, u377, u378, u379], []⟩ w := by
  have HKK := hid hK
  have HKB := hid hkb
  have HO0 := hid hO0
  clear hK hkb hO0
  obtain ⟨i3, hi3, hy0, hy1, hy2⟩ := info_parts Ybad.info3
  conv => arg 2; whnf
  go_wp2
  go_loopg [31, 32, 33] n (fun g kv k i wr => ∃ c : Nat, c + g = n ∧ i = .int .i64 c ∧ k = .int .i64 (kAt kp t c) ∧ wr.ownsRow base 3 1 kv (keptL kp c).length (ivals (keptL kp c)) ∧ ¬ kv = .slice none 0 0 ∧ Keeps (fun k => base ≤ k) w wr)
  case atStart => exact ⟨0, by omega, rfl, by simp [kAt], HO0.out, by simp, Keeps.refl _ _⟩
  case round =>
    obtain ⟨c, hc, rfl, rfl, hO, hne, hK⟩ := hrel
    have HO := hid hO
    have HKr := hid hK
    obtain ⟨g, cap, cur, rfl, hg⟩ := owns_shape hO hne
    have hkl2 := keptL_len kp c
    have hsz := hK.size
    by_cases hlt : c < n
    · have ck : wr.cell? ⟨kb, c, none⟩ = some (.bool (kp c)) := (HKB.out.keeps hK (fun e => by omega)).cell hlt
      clear hO hne hg hK
      cases hr : kp c with
      | false =>
        rw [hr] at ck
        have HQ := hid hr
        clear hr
        go_wp2
        go_roundg (n - (c + 1))
        case measure => omega
        case rel =>
          refine ⟨c + 1, by omega, by go_num, by rw [kAt_skip (.inr HQ.out)], ?_, by simp, HKr.out⟩
          rw [keptL_no HQ.out]
          exact HO.out
      | true =>
        rw [hr] at ck
        have HQ := hid hr
        clear hr
        by_cases hct : c = t
        · have hb : ((c : Int) == (t : Int)) = true := by simp; omega
          have HC := hid hct
          clear hct
          go_wp2_with (at_builtin; refine wpList_append_own' _ rfl (.tmp 244) (.tmp 246) 30 rfl base 3 i3 (.int .i64 0) 1 8 Ybad.underlying30 hi3 hy0 hy1 hy2 rfl (by decide) (.slice (some ⟨g, 0, none⟩) (keptL kp c).length cap) (keptL kp c).length (ivals (keptL kp c)) rfl (HO.out.alloc _) ⟨wr.heap.size, 0, none⟩ 1 1 [.int .i64 c] rfl rfl (one_new _ _ _) (by simp [Value.oneCell']) (by unfold maxLen; omega) (by omega) (by simp; omega) ?_)
          intro v' w7 hown hgrow hnl hnew
          obtain ⟨g', cap', cur', hv, hg'⟩ := owns_shape hown hnl
          rw [hv] at hown ⊢
          have HO1 := hid hown
          have HG := hid (((Keeps.refl (fun k => k = g) wr).alloc _).grown hgrow (fun k e _ => by simpa [Value.ownBlock] using e.symm))
          have hgw := hid ((HO.out.lt g rfl).1)
          clear hown hgrow hnl hnew hv hg'
          go_wp2
          go_roundg (n - (c + 1))
          case measure => omega
          case rel =>
            refine ⟨c + 1, by omega, by go_num, ?_, ?_, by simp, HKr.out.trans HG.out (fun k hk e => by have := hgw.out; omega)⟩
            · have := HC.out
              subst this
              rw [kAt_hit HQ.out]
            · rw [keptL_yes HQ.out, ivals_snoc, List.length_append]
              exact HO1.out
        · have hb : ((c : Int) == (t : Int)) = false := by simp; omega
          go_wp2_with (at_builtin; refine wpList_append_own' _ rfl (.tmp 244) (.tmp 246) 30 rfl base 3 i3 (.int .i64 0) 1 8 Ybad.underlying30 hi3 hy0 hy1 hy2 rfl (by decide) (.slice (some ⟨g, 0, none⟩) (keptL kp c).length cap) (keptL kp c).length (ivals (keptL kp c)) rfl (HO.out.alloc _) ⟨wr.heap.size, 0, none⟩ 1 1 [.int .i64 c] rfl rfl (one_new _ _ _) (by simp [Value.oneCell']) (by unfold maxLen; omega) (by omega) (by simp; omega) ?_)
          intro v' w7 hown hgrow hnl hnew
          obtain ⟨g', cap', cur', hv, hg'⟩ := owns_shape hown hnl
          rw [hv] at hown ⊢
          have HO1 := hid hown
          have HG := hid (((Keeps.refl (fun k => k = g) wr).alloc _).grown hgrow (fun k e _ => by simpa [Value.ownBlock] using e.symm))
          have hgw := hid ((HO.out.lt g rfl).1)
          clear hown hgrow hnl hnew hv hg'
          go_wp2
          go_roundg (n - (c + 1))
          case measure => omega
          case rel =>
            refine ⟨c + 1, by omega, by go_num, by rw [kAt_skip (.inl hct)], ?_, by simp, HKr.out.trans HG.out (fun k hk e => by have := hgw.out; omega)⟩
            rw [keptL_yes HQ.out, ivals_snoc, List.length_append]
            exact HO1.out
    · clear hO hne hg hK
      obtain rfl : c = n := by omega
      have HX := hid (kAt_end kp htn)
      go_wp2
      rw [HX.out]
      exact HKK.out _ _ _ _ _ _ _ _ _ _ _ _ _ _ _ _ _ _ _ _ _ ⟨HO.out, by simp, HKr.out⟩

end Go.Proofs.YbulkebqyDoor
