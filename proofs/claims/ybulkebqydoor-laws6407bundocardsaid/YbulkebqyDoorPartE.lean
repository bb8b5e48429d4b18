import Derived.Test.YbulkebqyDoorPartI
namespace Go.Proofs.YbulkebqyDoor
open Go.RowKit Go.Deep

theorem joinSt_iso (R : Nat → Int) (r : Nat) (s : (Nat → Int) × Option (List (Int × Int))) (c : Nat) : (joinSt R r s c).2.isSome = s.2.isSome := by
  induction c with
  | zero => rfl
  | succ c ih =>
    simp only [joinSt, setT]
    split
    · exact ih
    · cases h : (joinSt R r s c).2 with
      | none => rw [h] at ih; exact ih
      | some l => rw [h] at ih; exact ih

set_option maxRecDepth 100000 in
set_option maxHeartbeats 4000000 in
theorem part_E1 (u0 u1 u2 u3 u5 u6 u7 u8 u9 u10 u11 u12 u13 u14 u15 u16 u17 u18 u20 u21 u22 u23 u24 u25 u26 u27 u28 u29 u30 u33 u38 u39 u40 u41 u42 u43 u44 u45 u46 u47 u48 u49 u50 u51 u52 u53 u54 u55 u56 u57 u58 u59 u60 u61 u62 u63 u64 u65 u66 u67 u68 u69 u70 u71 u72 u73 u74 u75 u76 u77 u78 u79 u80 u81 u82 u83 u84 u85 u86 u87 u88 u89 u90 u91 u92 u93 u94 u95 u96 u97 u98 u99 u100 u101 u102 u103 u104 u105 u106 u107 u108 u109 u110 u111 u112 u113 u114 u115 u116 u117 u118 u119 u120 u121 u122 u123 u124 u125 u126 u127 u128 u129 u130 u131 u132 u133 u134 u135 u136 u137 u138 u139 u140 u141 u142 u143 u144 u145 u146 u147 u148 u149 u150 u151 u152 u153 u154 u155 u156 u157 u158 u159 u160 u161 u162 u163 u164 u165 u166 u167 u168 u169 u170 u171 u172 u173 u174 u175 u176 u177 u178 u179 u180 u181 u182 u183 u184 u185 u186 u187 u188 u189 u190 u191 u192 u193 u194 u195 u196 u197 u198 u199 u200 u201 u202 u203 u204 u205 u206 u207 u208 u209 u210 u211 u212 u213 u214 u215 u216 u217 u218 u219 u220 u221 u222 u223 u224 u225 u226 u227 u228 u229 u230 u231 u232 u233 u234 u235 u236 u237 u238 u239 u240 u241 u242 u243 u244 u245 u246 u247 u248 u249 u250 u251 u252 u253 u254 u255 u256 u257 u259 u260 u261 u262 u263 u264 u265 u266 u267 u268 u269 u270 u271 u272 u273 u274 u275 u276 u277 u278 u279 u280 u281 u282 u283 u284 u285 u286 u287 u288 u289 u290 u291 u292 u293 u294 u295 u296 u297 u298 u299 u300 u301 u302 u303 u304 u305 u306 u307 u308 u309 u310 u311 u312 u313 u314 u315 u316 u317 u318 u319 u320 u321 u322 u323 u324 u325 u326 u327 u328 u329 u330 u331 u332 u333 u334 u335 u336 u337 u338 u339 u340 u341 u342 u343 u344 u345 u346 u347 u348 u349 u350 u351 u352 u353 u354 u355 u356 u357 u358 u359 u360 u361 u362 u363 u364 u365 u366 u367 u368 u369 u370 u371 u372 u373 u374 u375 u376 u377 u378 u379 : Value) (K : Act → World → Prop) (Q' : Exit → Act → World → Prop)
    (n ppb g Kn cap k W nb ge cge r base : Nat) (tr : Bool) (pl : Nat → Bool) (kept : Nat → Nat) (B : Nat → Int) (T : Option (List (Int × Int))) (tv8 : Value) (w : World)
    (hK2 : Kn ≤ 4096) (hW : W ≤ 64) (_hkK : k < Kn) (hr : r = k * W) (hnb : r + W ≤ nb) (hnb2 : nb ≤ 262144) (hpl : Rw w ppb 4 n (fun i => .bool (pl i))) (hpb : ppb < base) (hki : Rw w g 3 Kn (fun i => .int .i64 (kept i))) (hgb : g < base) (hkn : ∀ i, i < Kn → kept i < n) (_hbw : base ≤ w.heap.size) (hgeb : base ≤ ge)
    (hT : TrailIs w tv8 T) (hTn : ∀ k, tv8.ownBlock = some k → base ≤ k) (hE : Rw w ge 37 nb (fun j => .int .u64 (B j))) (htr : T.isSome = tr) (hTl : trailLen T ≤ 2000000)
    (hK : ∀ (v38 v39 v40 v41 v42 v43 v259 v260 v261 v262 v263 v264 v265 v266 v267 v268 v269 v270 v271 v272 v273 v274 v275 v276 v277 v278 v279 v280 v281 v282 v283 v284 v285 v286 v287 v288 v289 v290 v291 v292 v293 v294 v295 v296 v297 v298 v299 v300 v301 v302 v303 v304 v305 v306 v307 v308 v309 v310 v311 v312 v313 v314 v315 v316 v317 v318 v319 v320 et : Value) (w9 : World), TrailIs w9 et (joinSt (fun i => lawRest (restP Kn k pl kept) i 64) r (B, T) W).2 ∧ (∀ k, et.ownBlock = some k → base ≤ k) ∧ Rw w9 ge 37 nb (fun j => .int .u64 ((joinSt (fun i => lawRest (restP Kn k pl kept) i 64) r (B, T) W).1 j)) ∧ Keeps (fun k => base ≤ k) w w9 → K ⟨#[u0, u1, u2, u3, .bool tr, u5, u6, u7, u8, u9, u10, u11, u12, u13, u14, u15, u16, u17, u18, .slice (some ⟨ppb, 0, none⟩) n n, u20, u21, u22, u23, u24, u25, u26, u27, u28, u29, u30, .slice (some ⟨g, 0, none⟩) Kn cap, .int .i64 (k : Int), u33, .int .i64 (Kn : Int), .int .i64 (W : Int), .slice (some ⟨ge, 0, none⟩) nb cge, et, v38, v39, v40, v41, v42, v43, u44, u45, u46, u47, u48, u49, u50, u51, u52, u53, u54, u55, u56, u57, u58, u59, u60, u61, u62, u63, u64, u65, u66, u67, u68, u69, u70, u71, u72, u73, u74, u75, u76, u77, u78, u79, u80, u81, u82, u83, u84, u85, u86, u87, u88, u89, u90, u91, u92, u93, u94, u95, u96, u97, u98, u99, u100, u101, u102, u103, u104, u105, u106, u107, u108, u109, u110, u111, u112, u113, u114, u115, u116, u117, u118, u119, u120, u121, u122, u123, u124, u125, u126, u127, u128, u129, u130, u131, u132, u133, u134, u135, u136, u137, u138, u139, u140, u141, u142, u143, u144, u145, u146, u147, u148, u149, u150, u151, u152, u153, u154, u155, u156, u157, u158, u159, u160, u161, u162, u163, u164, u165, u166, u167, u168, u169, u170, u171, u172, u173, u174, u175, u176, u177, u178, u179, u180, u181, u182, u183, u184, u185, u186, u187, u188, u189, u190, u191, u192, u193, u194, u195, u196, u197, u198, u199, u200, u201, u202, u203, u204, u205, u206, u207, u208, u209, u210, u211, u212, u213, u214, u215, u216, u217, u218, u219, u220, u221, u222, u223, u224, u225, u226, u227, u228, u229, u230, u231, u232, u233, u234, u235, u236, u237, u238, u239, u240, u241, u242, u243, u244, u245, u246, u247, u248, u249, u250, u251, u252, u253, u254, u255, u256, u257, .bool true, v259, v260, v261, v262, v263, v264, v265, v266, v267, v268, v269, v270, v271, v272, v273, v274, v275, v276, v277, v278, v279, v280, v281, v282, v283, v284, v285, v286, v287, v288, v289, v290, v291, v292, v293, v294, v295, v296, v297, v298, v299, v300, v301, v302, v303, v304, v305, v306, v307, v308, v309, v310, v311, v312, v313, v314, v315, v316, v317, v318, v319, v320, u321, u322, u323, u324, u325, u326, u327, u328, u329, u330, u331, u332, u333, u334, u335, u336, u337, u338, u339, u340, u341, u342, u343, u344, u345, u346, u347, u348, u349, u350, u351, u352, u353, u354, u355, u356, u357, u358, u359, u360, u361, u362, u363, u364, u365, u366, u367, u368, u369, u370, u371, u372, u373, u374, u375, u376, u377, u378, u379], []⟩ w9) :
    Code.wp Ybad.prog (condOf Ybad.f3 258) (Exit.then K Q') ⟨#[u0, u1, u2, u3, .bool tr, u5, u6, u7, u8, u9, u10, u11, u12, u13, u14, u15, u16, u17, u18, .slice (some ⟨ppb, 0, none⟩) n n, u20, u21, u22, u23, u24, u25, u26, u27, u28, u29, u30, .slice (some ⟨g, 0, none⟩) Kn cap, .int .i64 (k : Int), u33, .int .i64 (Kn : Int), .int .i64 (W : Int), .slice (some ⟨ge, 0, none⟩) nb cge, tv8, u38, u39, u40, u41, u42, u43, u44, u45, u46, u47, u48, u49, u50, u51, u52, u53, u54, u55, u56, u57, u58, u59, u60, u61, u62, u63, u64, u65, u66, u67, u68, u69, u70, u71, u72, u73, u74, u75, u76, u77, u78, u79, u80, u81, u82, u83, u84, u85, u86, u87, u88, u89, u90, u91, u92, u93, u94, u95, u96, u97, u98, u99, u100, u101, u102, u103, u104, u105, u106, u107, u108, u109, u110, u111, u112, u113, u114, u115, u116, u117, u118, u119, u120, u121, u122, u123, u124, u125, u126, u127, u128, u129, u130, u131, u132, u133, u134, u135, u136, u137, u138, u139, u140, u141, u142, u143, u144, u145, u146, u147, u148, u149, u150, u151, u152, u153, u154, u155, u156, u157, u158, u159, u160, u161, u162, u163, u164, u165, u166, u167, u168, u169, u170, u171, u172, u173, u174, u175, u176, u177, u178, u179, u180, u181, u182, u183, u184, u185, u186, u187, u188, u189, u190, u191, u192, u193, u194, u195, u196, u197, u198, u199, u200, u201, u202, u203, u204, u205, u206, u207, u208, u209, u210, u211, u212, u213, u214, u215, u216, u217, u218, u219, u220, u221, u222, u223, u224, u225, u226, u227, u228, u229, u230, u231, u232, u233, u234, u235, u236, u237, u238, u239, u240, u241, u242, u243, u244, u245, u246, u247, u248, u249, u250, u251, u252, u253, u254, u255, u256, u257, .bool true, u259, u260, u261, u262, u263, u264, u265, u266, u267, u268, u269, u270, u271, u272, u273, u274, u275, u276, u277, u278, u279, u280, u281, u282, u283, u284, u285, u286, u287, u288, u289, u290, u291, u292, u293, u294, u295, u296, u297, u298, u299, u300, u301, u302, u303, u304, u305, u306, u307, u308, u309, u310, u311, u312, u313, u314, u315, u316, u317, u318, u319, u320, u321, u322, u323, u324, u325, u326, u327, u328, u329, u330, u331, u332, u333, u334, u335, u336, u337, u338, u339, u340, u341, u342, u343, u344, u345, u346, u347, u348, u349, u350, u351, u352, u353, u354, u355, u356, u357, u358, u359, u360, u361, u362, u363, u364, u365, u366, u367, u368, u369, u370, u371, u372, u373, u374, u375, u376, u377, u378, u379], []⟩ w := by
  have HKK := hid hK
  have HPL := hid hpl
  have HKI := hid hki
  have HKN := hid hkn
  have HT := hid hT
  have HTN := hid hTn
  have HE := hid hE
  have HTR := hid htr
  have ekW : (k : Int) * (W : Int) = (r : Int) := by rw [hr]; simp
  obtain ⟨i5, hi5, hv0, hv1, hv2⟩ := info_parts Ybad.info50
  clear hK hpl hki hkn hT hTn hE htr hr
  conv => arg 2; whnf
  go_wp2
  go_loopg [37, 38] W (fun gg et i wr => ∃ c : Nat, c + gg = W ∧ i = .int .i64 c ∧ TrailIs wr et (joinSt (fun i => lawRest (restP Kn k pl kept) i 64) r (B, T) c).2 ∧ (∀ k, et.ownBlock = some k → base ≤ k) ∧
      Rw wr ge 37 nb (fun j => .int .u64 ((joinSt (fun i => lawRest (restP Kn k pl kept) i 64) r (B, T) c).1 j)) ∧ Keeps (fun k => base ≤ k) w wr)
  case atStart => exact ⟨0, by omega, rfl, HT.out, HTN.out, HE.out, Keeps.refl _ _⟩
  case round =>
    obtain ⟨c, hc, rfl, hTc, hNc, hEc, hKc⟩ := hrel
    have HTc := hid hTc
    have HNc := hid hNc
    have HEc := hid hEc
    have HKc := hid hKc
    clear hTc hNc hEc hKc
    by_cases hlt : c < W
    · go_upto_block 6 with fail
      refine part_IN _ _ _ _ _ _ _ _ _ _ _ _ _ _ _ _ _ _ _ _ _ _ _ _ _ _ _ _ _ _ _ _ _ _ _ _ _ _ _ _ _ _ _ _ _ _ _ _ _ _ _ _ _ _ _ _ _ _ _ _ _ _ _ _ _ _ _ _ _ _ _ _ _ _ _ _ _ _ _ _ _ _ _ _ _ _ _ _ _ _ _ _ _ _ _ _ _ _ _ _ _ _ _ _ _ _ _ _ _ _ _ _ _ _ _ _ _ _ _ _ _ _ _ _ _ _ _ _ _ _ _ _ _ _ _ _ _ _ _ _ _ _ _ _ _ _ _ _ _ _ _ _ _ _ _ _ _ _ _ _ _ _ _ _ _ _ _ _ _ _ _ _ _ _ _ _ _ _ _ _ _ _ _ _ _ _ _ _ _ _ _ _ _ _ _ _ _ _ _ _ _ _ _ _ _ _ _ _ _ _ _ _ _ _ _ _ _ _ _ _ _ _ _ _ _ _ _ _ _ _ _ _ _ _ _ _ _ _ _ _ _ _ _ _ _ _ _ _ _ _ _ _ _ _ _ _ _ _ _ _ _ _ _ _ _ _ _ _ _ _ _ _ _ _ _ _ _ _ _ _ _ _ _ _ _ _ _ _ _ _ _ _ _ _ _ _ _ _ _ _ _ _ _ _ _ _ _ _ _ _ _ _ _ _ _ _ _ _ _ _ _ _ _ _ _ _ _ _ _ _ _ _ _ _ _ _ _ _ _ _ _ _ _ _ _ _ _ _ _ _ _ _ _ _ _ _ _ _ _ _ _ _ _ _ _ _ _ _ _ _ _ _ _ _ _ n ppb g Kn cap k c pl kept wr hK2 (by omega) (HPL.out.keeps HKc.out (fun e => by omega)) (HKI.out.keeps HKc.out (fun e => by omega)) HKN.out ?_
      rintro x0 x1 x2 x3 x4 x5 x6 x7 x8 x9 x10 x11 x12 x13 x14 x15 x16 x17 x18 x19 x20 x21 x22 x23 x24 x25 x26 x27 x28 x29 x30 x31 w9 rfl
      have hsz := HKc.out.size
      obtain ⟨v, hv⟩ : ∃ v, v = lawRest (restP Kn k pl kept) c 64 := ⟨_, rfl⟩
      rw [← hv]
      have Hv := hid hv
      clear hv
      obtain ⟨Bc, hBc⟩ : ∃ Bc, Bc = (joinSt (fun i => lawRest (restP Kn k pl kept) i 64) r (B, T) c).1 := ⟨_, rfl⟩
      obtain ⟨Tc, hTc⟩ : ∃ Tc, Tc = (joinSt (fun i => lawRest (restP Kn k pl kept) i 64) r (B, T) c).2 := ⟨_, rfl⟩
      have hTlc := joinSt_len (fun i => lawRest (restP Kn k pl kept) i 64) r (B, T) c
      have hiso := joinSt_iso (fun i => lawRest (restP Kn k pl kept) i 64) r (B, T) c
      rw [← hTc] at HTc hTlc hiso
      rw [← hBc] at HEc
      have hJ : joinSt (fun i => lawRest (restP Kn k pl kept) i 64) r (B, T) (c + 1) = (setB Bc (r + c) (orr (Bc (r + c)) v), setT Tc Bc (r + c) (orr (Bc (r + c)) v)) := by
        simp only [joinSt, ← hBc, ← hTc, Hv.out]
      have HJ := hid hJ
      have hTl2 : trailLen Tc ≤ 2000100 := by simp only at hTlc; omega
      have Hiso := hid hiso
      have co : w9.cell? ⟨ge, r + c, none⟩ = some (.int .u64 (Bc (r + c))) := HEc.out.cell (by omega)
      have fo : w9.frozen? ⟨ge, r + c, none⟩ = false := HEc.out.frozen _
      clear hJ hBc hTc hTlc hiso
      by_cases hq : bits BinOp.or IntKind.u64 (Bc (r + c)) v = Bc (r + c)
      · have hb : (bits BinOp.or IntKind.u64 (Bc (r + c)) v != Bc (r + c)) = false := by simp [hq]
        have HQ := hid hq
        clear hq
        go_wp2
        go_roundg (W - (c + 1))
        case measure => omega
        case rel =>
          have e1 : orr (Bc (r + c)) v = Bc (r + c) := HQ.out
          refine ⟨c + 1, by omega, by go_num, ?_, HNc.out, ?_, HKc.out⟩
          · rw [HJ.out, setT, if_pos e1.symm]; exact HTc.out
          · rw [HJ.out, e1]
            refine HEc.out.congr fun j _ => ?_
            simp only [setB]
            split
            · rename_i h; rw [h]
            · rfl
      · have hb : (bits BinOp.or IntKind.u64 (Bc (r + c)) v != Bc (r + c)) = true := by simp [hq]
        have HQ := hid hq
        clear hq
        cases htr : tr with
        | false =>
          subst htr
          go_wp2
          go_roundg (W - (c + 1))
          case measure => omega
          case rel =>
            have e1 : ¬ Bc (r + c) = orr (Bc (r + c)) v := fun e => HQ.out e.symm
            have eT : Tc = none := by
              have := Hiso.out
              rw [HTR.out] at this
              cases h : Tc with
              | none => rfl
              | some _ => rw [h] at this; simp at this
            refine ⟨c + 1, by omega, by go_num, ?_, HNc.out, ?_, HKc.out.setCell _ _ (fun _ => hgeb)⟩
            · rw [HJ.out, setT, if_neg e1, eT]
              have := HTc.out
              rw [eT] at this
              exact this
            · rw [HJ.out]
              refine (HEc.out.set (r + c) (.int .u64 (orr (Bc (r + c)) v))).congr fun j _ => ?_
              simp only [setB]
              split <;> rfl
        | true =>
          subst htr
          obtain ⟨l, hl⟩ : ∃ l, Tc = some l := by
            have := Hiso.out
            rw [HTR.out] at this
            cases h : Tc with
            | none => rw [h] at this; simp at this
            | some l => exact ⟨l, rfl⟩
          have hT' := HTc.out
          rw [hl] at hT'
          obtain ⟨gt, capt, curt, rfl, hgt⟩ := owns_shape hT'.1 hT'.2
          have HO := hid hT'.1
          have hll : l.length ≤ 2000100 := by rw [hl] at hTl2; exact hTl2
          have Hl := hid hl
          have hgtb : base ≤ gt := HNc.out gt rfl
          obtain ⟨cge', hcge'⟩ := HEc.out.blk
          have ngt : ¬ ge = gt := ne_of_types hcge' hgt (by decide)
          have lge := HEc.out.lt
          clear hT' hgt hl hcge'
          go_wp2_with (at_builtin; refine wpList_append_own' _ rfl (.tmp 309) (.tmp 313) 38 rfl 0 50 i5 (.agg #[.int .i64 0, .int .u64 0]) 2 16 Ybad.underlying38 hi5 hv0 hv1 hv2 rfl (by decide) (.slice (some ⟨gt, 0, none⟩) l.length capt) l.length (flat l) rfl (HO.out.alloc _) ⟨w9.heap.size, 0, none⟩ 1 1 [.int .i64 (r + c), .int .u64 (Bc (r + c))] rfl rfl (two_new _ _ _ 50) (by simp [Value.oneCell']) (by unfold maxLen; omega) (by omega) (Nat.zero_le _) ?_)
          intro v' w7 hown hgrow hnl hnew
          obtain ⟨g', cap', cur', hv', hg'⟩ := owns_shape hown hnl
          rw [hv'] at hown hnew ⊢
          have K0 := ((Keeps.refl (fun k => k = gt) w9).alloc (Obj.cells #[Value.int IntKind.i64 (↑r + ↑c), Value.int IntKind.u64 (Bc (r + c))] 50)).grown hgrow (fun k e _ => by simpa [Value.ownBlock] using e.symm)
          have hE7 := HEc.out.keeps K0 ngt
          have co7 : w7.cell? ⟨ge, r + c, none⟩ = some (.int .u64 (Bc (r + c))) := hE7.cell (by omega)
          have fo7 : w7.frozen? ⟨ge, r + c, none⟩ = false := hE7.frozen _
          obtain ⟨cge7, hcge7⟩ := hE7.blk
          have ng7 : ¬ g' = ge := ne_of_types hg' hcge7 (by decide)
          have HE7 := hid hE7
          have HO1 := hid hown
          have HK0 := hid K0
          have HNew := hid hnew
          clear hown hgrow hnl hnew hv' hg' hE7 K0 hcge7
          go_wp2
          go_roundg (W - (c + 1))
          case measure => omega
          case rel =>
            have e1 : ¬ Bc (r + c) = orr (Bc (r + c)) v := fun e => HQ.out e.symm
            refine ⟨c + 1, by omega, by go_num, ?_, ?_, ?_, (HKc.out.trans HK0.out (fun k hk e => by rw [e]; exact hgtb)).setCell _ _ (fun _ => hgeb)⟩
            · rw [HJ.out, setT, if_neg e1, Hl.out]
              refine ⟨?_, by simp⟩
              show World.ownsRow _ 0 50 2 _ (l ++ [(((r + c : Nat) : Int), Bc (r + c))]).length (flat (l ++ [(((r + c : Nat) : Int), Bc (r + c))]))
              rw [List.length_append, flat_snoc]
              exact owns_block HO1.out (blk_setCell_other _ _ _ _ ng7)
            · intro k' hk'
              rcases HNew.out k' hk' with e | e
              · simp [Value.ownBlock] at e; omega
              · omega
            · rw [HJ.out]
              refine (HE7.out.set (r + c) (.int .u64 (orr (Bc (r + c)) v))).congr fun j _ => ?_
              simp only [setB]
              split <;> rfl
    · obtain rfl : c = W := by omega
      go_wp2
      exact HKK.out _ _ _ _ _ _ _ _ _ _ _ _ _ _ _ _ _ _ _ _ _ _ _ _ _ _ _ _ _ _ _ _ _ _ _ _ _ _ _ _ _ _ _ _ _ _ _ _ _ _ _ _ _ _ _ _ _ _ _ _ _ _ _ _ _ _ _ _ _ _ ⟨HTc.out, HNc.out, HEc.out, HKc.out⟩

end Go.Proofs.YbulkebqyDoor
