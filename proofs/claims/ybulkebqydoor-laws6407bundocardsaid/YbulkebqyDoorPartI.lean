import Derived.Test.YbulkebqyDoorPartK
namespace Go.Proofs.YbulkebqyDoor
open Go.RowKit Go.Deep

set_option maxRecDepth 100000 in
set_option maxHeartbeats 2000000 in
theorem part_IN (u0 u1 u2 u3 u4 u5 u6 u7 u8 u9 u10 u11 u12 u13 u14 u15 u16 u17 u18 u20 u21 u22 u23 u24 u25 u26 u27 u28 u29 u30 u33 u35 u36 u37 u41 u42 u43 u44 u45 u46 u47 u48 u49 u50 u51 u52 u53 u54 u55 u56 u57 u58 u59 u60 u61 u62 u63 u64 u65 u66 u67 u68 u69 u70 u71 u72 u73 u74 u75 u76 u77 u78 u79 u80 u81 u82 u83 u84 u85 u86 u87 u88 u89 u90 u91 u92 u93 u94 u95 u96 u97 u98 u99 u100 u101 u102 u103 u104 u105 u106 u107 u108 u109 u110 u111 u112 u113 u114 u115 u116 u117 u118 u119 u120 u121 u122 u123 u124 u125 u126 u127 u128 u129 u130 u131 u132 u133 u134 u135 u136 u137 u138 u139 u140 u141 u142 u143 u144 u145 u146 u147 u148 u149 u150 u151 u152 u153 u154 u155 u156 u157 u158 u159 u160 u161 u162 u163 u164 u165 u166 u167 u168 u169 u170 u171 u172 u173 u174 u175 u176 u177 u178 u179 u180 u181 u182 u183 u184 u185 u186 u187 u188 u189 u190 u191 u192 u193 u194 u195 u196 u197 u198 u199 u200 u201 u202 u203 u204 u205 u206 u207 u208 u209 u210 u211 u212 u213 u214 u215 u216 u217 u218 u219 u220 u221 u222 u223 u224 u225 u226 u227 u228 u229 u230 u231 u232 u233 u234 u235 u236 u237 u238 u239 u240 u241 u242 u243 u244 u245 u246 u247 u248 u249 u250 u251 u252 u253 u254 u255 u256 u257 u258 u259 u260 u261 u262 u263 u264 u265 u266 u267 u268 u269 u270 u271 u272 u273 u274 u275 u276 u277 u278 u279 u280 u281 u282 u283 u284 u285 u286 u287 u288 u289 u290 u291 u292 u293 u294 u295 u296 u297 u298 u299 u300 u301 u302 u303 u304 u305 u306 u307 u308 u309 u310 u311 u312 u313 u314 u315 u316 u317 u318 u319 u320 u321 u322 u323 u324 u325 u326 u327 u328 u329 u330 u331 u332 u333 u334 u335 u336 u337 u338 u339 u340 u341 u342 u343 u344 u345 u346 u347 u348 u349 u350 u351 u352 u353 u354 u355 u356 u357 u358 u359 u360 u361 u362 u363 u364 u365 u366 u367 u368 u369 u370 u371 u372 u373 u374 u375 u376 u377 u378 u379 : Value) (K : Act → World → Prop) (Q' : Exit → Act → World → Prop)
    (n ppb g Kn cap k c : Nat) (pl : Nat → Bool) (kept : Nat → Nat) (w : World)
    (hK2 : Kn ≤ 4096) (hc64 : c ≤ 64) (hpl : Rw w ppb 4 n (fun i => .bool (pl i))) (hki : Rw w g 3 Kn (fun i => .int .i64 (kept i))) (hkn : ∀ i, i < Kn → kept i < n)
    (hK : ∀ (v40 v41 v264 v265 v266 v267 v268 v269 v270 v271 v272 v273 v274 v275 v276 v277 v278 v279 v280 v281 v282 v283 v284 v285 v286 v287 v288 v289 v290 v291 v292 v293 : Value) (w9 : World), w9 = w → K ⟨#[u0, u1, u2, u3, u4, u5, u6, u7, u8, u9, u10, u11, u12, u13, u14, u15, u16, u17, u18, .slice (some ⟨ppb, 0, none⟩) n n, u20, u21, u22, u23, u24, u25, u26, u27, u28, u29, u30, .slice (some ⟨g, 0, none⟩) Kn cap, .int .i64 (k : Int), u33, .int .i64 (Kn : Int), u35, u36, u37, .int .i64 (c : Int), .int .u64 (lawRest (restP Kn k pl kept) c 64), v40, v41, u42, u43, u44, u45, u46, u47, u48, u49, u50, u51, u52, u53, u54, u55, u56, u57, u58, u59, u60, u61, u62, u63, u64, u65, u66, u67, u68, u69, u70, u71, u72, u73, u74, u75, u76, u77, u78, u79, u80, u81, u82, u83, u84, u85, u86, u87, u88, u89, u90, u91, u92, u93, u94, u95, u96, u97, u98, u99, u100, u101, u102, u103, u104, u105, u106, u107, u108, u109, u110, u111, u112, u113, u114, u115, u116, u117, u118, u119, u120, u121, u122, u123, u124, u125, u126, u127, u128, u129, u130, u131, u132, u133, u134, u135, u136, u137, u138, u139, u140, u141, u142, u143, u144, u145, u146, u147, u148, u149, u150, u151, u152, u153, u154, u155, u156, u157, u158, u159, u160, u161, u162, u163, u164, u165, u166, u167, u168, u169, u170, u171, u172, u173, u174, u175, u176, u177, u178, u179, u180, u181, u182, u183, u184, u185, u186, u187, u188, u189, u190, u191, u192, u193, u194, u195, u196, u197, u198, u199, u200, u201, u202, u203, u204, u205, u206, u207, u208, u209, u210, u211, u212, u213, u214, u215, u216, u217, u218, u219, u220, u221, u222, u223, u224, u225, u226, u227, u228, u229, u230, u231, u232, u233, u234, u235, u236, u237, u238, u239, u240, u241, u242, u243, u244, u245, u246, u247, u248, u249, u250, u251, u252, u253, u254, u255, u256, u257, u258, u259, u260, u261, u262, u263, v264, v265, v266, v267, v268, v269, v270, v271, v272, v273, v274, v275, v276, v277, v278, v279, v280, v281, v282, v283, v284, v285, v286, v287, v288, v289, v290, v291, v292, v293, u294, u295, u296, u297, u298, u299, u300, u301, u302, u303, u304, u305, u306, u307, u308, u309, u310, u311, u312, u313, u314, u315, u316, u317, u318, u319, u320, u321, u322, u323, u324, u325, u326, u327, u328, u329, u330, u331, u332, u333, u334, u335, u336, u337, u338, u339, u340, u341, u342, u343, u344, u345, u346, u347, u348, u349, u350, u351, u352, u353, u354, u355, u356, u357, u358, u359, u360, u361, u362, u363, u364, u365, u366, u367, u368, u369, u370, u371, u372, u373, u374, u375, u376, u377, u378, u379], []⟩ w9) :
    Code.wp Ybad.prog (blockOf Ybad.f3 6) (Exit.then K Q') ⟨#[u0, u1, u2, u3, u4, u5, u6, u7, u8, u9, u10, u11, u12, u13, u14, u15, u16, u17, u18, .slice (some ⟨ppb, 0, none⟩) n n, u20, u21, u22, u23, u24, u25, u26, u27, u28, u29, u30, .slice (some ⟨g, 0, none⟩) Kn cap, .int .i64 (k : Int), u33, .int .i64 (Kn : Int), u35, u36, u37, .int .i64 (c : Int), .int .u64 0, .int .i64 0, u41, u42, u43, u44, u45, u46, u47, u48, u49, u50, u51, u52, u53, u54, u55, u56, u57, u58, u59, u60, u61, u62, u63, u64, u65, u66, u67, u68, u69, u70, u71, u72, u73, u74, u75, u76, u77, u78, u79, u80, u81, u82, u83, u84, u85, u86, u87, u88, u89, u90, u91, u92, u93, u94, u95, u96, u97, u98, u99, u100, u101, u102, u103, u104, u105, u106, u107, u108, u109, u110, u111, u112, u113, u114, u115, u116, u117, u118, u119, u120, u121, u122, u123, u124, u125, u126, u127, u128, u129, u130, u131, u132, u133, u134, u135, u136, u137, u138, u139, u140, u141, u142, u143, u144, u145, u146, u147, u148, u149, u150, u151, u152, u153, u154, u155, u156, u157, u158, u159, u160, u161, u162, u163, u164, u165, u166, u167, u168, u169, u170, u171, u172, u173, u174, u175, u176, u177, u178, u179, u180, u181, u182, u183, u184, u185, u186, u187, u188, u189, u190, u191, u192, u193, u194, u195, u196, u197, u198, u199, u200, u201, u202, u203, u204, u205, u206, u207, u208, u209, u210, u211, u212, u213, u214, u215, u216, u217, u218, u219, u220, u221, u222, u223, u224, u225, u226, u227, u228, u229, u230, u231, u232, u233, u234, u235, u236, u237, u238, u239, u240, u241, u242, u243, u244, u245, u246, u247, u248, u249, u250, u251, u252, u253, u254, u255, u256, u257, u258, u259, u260, u261, u262, u263, u264, u265, u266, u267, u268, u269, u270, u271, u272, u273, u274, u275, u276, u277, u278, u279, u280, u281, u282, u283, u284, u285, u286, u287, u288, u289, u290, u291, u292, u293, u294, u295, u296, u297, u298, u299, u300, u301, u302, u303, u304, u305, u306, u307, u308, u309, u310, u311, u312, u313, u314, u315, u316, u317, u318, u319, u320, u321, u322, u323, u324, u325, u326, u327, u328, u329, u330, u331, u332, u333, u334, u335, u336, u337, u338, u339, u340, u341, u342, u343, u344, u345, u346, u347, u348, u349, u350, u351, u352, u353, u354, u355, u356, u357, u358, u359, u360, u361, u362, u363, u364, u365, u366, u367, u368, u369, u370, u371, u372, u373, u374, u375, u376, u377, u378, u379], []⟩ w := by
  have HKK := hid hK
  have HPL := hid hpl
  have HKI := hid hki
  have HKN := hid hkn
  clear hK hpl hki hkn
  conv => arg 2; whnf
  go_wp2
  go_loopg [39, 40] 64 (fun gg rest i wr => ∃ b : Nat, b + gg = 64 ∧ i = .int .i64 b ∧ rest = .int .u64 (lawRest (restP Kn k pl kept) c b) ∧ wr = w)
  case atStart => exact ⟨0, by omega, rfl, rfl, rfl⟩
  case round =>
    obtain ⟨b, hb, rfl, rfl, hwr⟩ := hrel
    subst hwr
    by_cases hlt : b < 64
    · by_cases h1 : c * 64 + b < Kn
      · have ck : wr.cell? ⟨g, c * 64 + b, none⟩ = some (.int .i64 (kept (c * 64 + b))) := HKI.out.cell h1
        have hkn := HKN.out _ h1
        have cp : wr.cell? ⟨ppb, kept (c * 64 + b), none⟩ = some (.bool (pl (kept (c * 64 + b)))) := HPL.out.cell hkn
        by_cases h2 : c * 64 + b = k
        · have hb2 : ((c : Int) * 64 + (b : Int) != (k : Int)) = false := by simp; omega
          have HX : Hid (restP Kn k pl kept (c * 64 + b) = false) := by show _ = _; simp [restP, h2]
          clear h2
          go_wp2
          go_roundg (64 - (b + 1))
          case measure => omega
          case rel => exact ⟨b + 1, by omega, by go_num, by simp [lawRest, HX.out], rfl⟩
        · have hb2 : ((c : Int) * 64 + (b : Int) != (k : Int)) = true := by simp; omega
          cases hp : pl (kept (c * 64 + b)) with
          | true =>
            rw [hp] at cp
            have HX : Hid (restP Kn k pl kept (c * 64 + b) = false) := by show _ = _; simp [restP, hp]
            clear hp
            go_wp2
            go_roundg (64 - (b + 1))
            case measure => omega
            case rel => exact ⟨b + 1, by omega, by go_num, by simp [lawRest, HX.out], rfl⟩
          | false =>
            rw [hp] at cp
            have HX : Hid (restP Kn k pl kept (c * 64 + b) = true) := by show _ = _; simp [restP, hp, h1, h2]
            clear hp
            go_wp2
            go_roundg (64 - (b + 1))
            case measure => omega
            case rel =>
              refine ⟨b + 1, by omega, by go_num, ?_, rfl⟩
              simp only [lawRest, if_pos HX.out]
              rfl
      · have HX : Hid (restP Kn k pl kept (c * 64 + b) = false) := by show _ = _; simp [restP, h1]
        go_wp2
        go_roundg (64 - (b + 1))
        case measure => omega
        case rel => exact ⟨b + 1, by omega, by go_num, by simp [lawRest, HX.out], rfl⟩
    · obtain rfl : b = 64 := by omega
      go_wp2
      exact HKK.out _ _ _ _ _ _ _ _ _ _ _ _ _ _ _ _ _ _ _ _ _ _ _ _ _ _ _ _ _ _ _ _ _ rfl

end Go.Proofs.YbulkebqyDoor
