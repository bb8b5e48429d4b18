import Derived.Test.YbulkebqyDoorUnB
namespace Go.Proofs.YbulkebqyDoor
open Go.RowKit Go.Deep

theorem Keeps.cellS {S : Nat → Prop} {w w' : World} (k : Keeps S w w') {a : Addr} {v : Value} (h : w.cell? a = some v) (hn : ¬ S a.block) : w'.cell? a = some v := by
  have := k.block a.block (cell_lt h) hn
  simpa [World.cell?, this] using h

/-- The counts as the law lays them. -/
def wtU (X : Tx) (t j : Nat) : Int := if j = t then 0 else X.wt j % 256
/-- The data as the law turns them. -/
def txU (X : Tx) (t : Nat) : Tx := { X with wt := wtU X t, mb := fun i => i, pl := setP X.pl t false, rd := fun j => decide (wtU X t j = 0) }
theorem wtU_bounds (X : Tx) (t j : Nat) : 0 ≤ wtU X t j ∧ wtU X t j ≤ 255 := by
  unfold wtU; split <;> omega

set_option maxRecDepth 100000 in
set_option maxHeartbeats 4000000 in
theorem undo_A (u6 u7 u8 u9 u10 u11 u12 u13 u14 u15 u16 u17 u18 u19 u20 u21 u22 u23 u24 u25 u26 u27 u28 u29 u30 u31 u32 u33 u34 u35 u36 u37 u38 u39 u40 u41 u42 u43 u44 u45 u46 u47 u48 u49 u50 u51 u52 u53 u54 u55 u56 u57 u58 u59 u60 u61 u62 u63 u64 u65 u66 u67 u68 u69 u70 u71 u72 u73 u74 u75 u76 u77 u78 u79 u80 u81 u82 u83 u84 u85 u86 u87 u88 u89 u90 u91 u92 u93 u94 u95 u96 u97 u98 u99 u100 u101 u102 u103 u104 u105 u106 u107 u108 u109 u110 u111 u112 u113 u114 u115 u116 u117 u118 u119 u120 u121 u122 u123 u124 u125 u126 u127 u128 u129 u130 u131 u132 u133 u134 u135 u136 u137 u138 u139 u140 u141 u142 u143 u144 u145 u146 u147 u148 u149 u150 u151 u152 u153 u154 u155 u156 u157 u158 u159 u160 u161 u162 u163 u164 u165 u166 u167 u168 u169 u170 u171 u172 u173 u174 u175 u176 u177 u178 u179 u180 u181 u182 u183 u184 u185 : Value)
    (tx nF : Int) (xb xo n xc bl bc tl tc : Nat) (ba ta : Option Addr) (X : Tx) (bt td : Nat → Int) (eo : Bool) (wS w0 : World)
    (htx0 : 0 ≤ tx) (htx1 : tx ≤ 18446744073709551615) (hnF0 : 0 ≤ nF) (hnF1 : nF ≤ 255) (hTx : TxOk w0 xb xo n X) (hb : bl ≤ 1048576) (ht : tl ≤ 1048576) (hbt : ArgRow w0 ba bl (fun j => .int .u64 (bt j))) (htd : ArgRow w0 ta tl (fun j => .int .u64 (td j))) (hK : Keeps (fun _ => False) wS w0) :
    wpStmts Ybad.prog (stmtsFrom Ybad.f4 10) (bodyPost Ybad.prog Ybad.f4 fun e w' => e = Ending.returned (Value.bool true) ∧ Keeps (fun _ => False) wS w') ⟨#[.int .u64 tx, .slice (some ⟨xb, xo, none⟩) n xc, .slice ba bl bc, .slice ta tl tc, .int .u8 nF, .bool eo, u6, u7, u8, u9, u10, u11, u12, u13, u14, u15, u16, u17, u18, u19, u20, u21, u22, u23, u24, u25, u26, u27, u28, u29, u30, u31, u32, u33, u34, u35, u36, u37, u38, u39, u40, u41, u42, u43, u44, u45, u46, u47, u48, u49, u50, u51, u52, u53, u54, u55, u56, u57, u58, u59, u60, u61, u62, u63, u64, u65, u66, u67, u68, u69, u70, u71, u72, u73, u74, u75, u76, u77, u78, u79, u80, u81, u82, u83, u84, u85, u86, u87, u88, u89, u90, u91, u92, u93, u94, u95, u96, u97, u98, u99, u100, u101, u102, u103, u104, u105, u106, u107, u108, u109, u110, u111, u112, u113, u114, u115, u116, u117, u118, u119, u120, u121, u122, u123, u124, u125, u126, u127, u128, u129, u130, u131, u132, u133, u134, u135, u136, u137, u138, u139, u140, u141, u142, u143, u144, u145, u146, u147, u148, u149, u150, u151, u152, u153, u154, u155, u156, u157, u158, u159, u160, u161, u162, u163, u164, u165, u166, u167, u168, u169, u170, u171, u172, u173, u174, u175, u176, u177, u178, u179, u180, u181, u182, u183, u184, u185], []⟩ w0 := by
  have HTx := hid hTx
  have HK := hid hK
  have HBT := hid hbt
  have HTD := hid htd
  have n1 := hTx.n1
  have n2 := hTx.n2
  clear hTx hK hbt htd
  refine wpStmts_k (ss := stmtsFrom Ybad.f4 11) rfl fun K hK => ?_
  have Hk := hid hK
  clear hK
  go_wp2
  refine Hk.out _ _ ?_
  clear Hk K
  refine wpStmts_k (ss := stmtsFrom Ybad.f4 12) rfl fun K hK => ?_
  have Hk := hid hK
  clear hK
  go_wp2_with fail
  refine (norm_any xb xo n xc X w0 HTx.out.is n1 n2 HTx.out.L HTx.out.M HTx.out.Y).mono ?_
  rintro e w1 ⟨rfl, hN, hk1⟩
  have HN := hid hN
  have HK01 := hid hk1
  have HK1 := hid (tr0 HK.out hk1)
  clear hN hk1
  go_wp2
  refine Hk.out _ _ ?_
  clear Hk K
  obtain ⟨nf, hnf⟩ : ∃ nf : Nat, (nf : Int) = nF % 8 := ⟨(nF % 8).toNat, by omega⟩
  have hnf8 : nf ≤ 8 := by omega
  have enf : nF % 8 = (nf : Int) := hnf.symm
  obtain ⟨t, htt⟩ : ∃ t : Nat, (t : Int) = tx % (n : Int) := ⟨(tx % (n : Int)).toNat, by have : 0 ≤ tx % (n : Int) := Int.emod_nonneg _ (by omega); omega⟩
  have htn : t < n := by
    have : tx % (n : Int) < (n : Int) := Int.emod_lt_of_pos _ (by omega)
    omega
  have ett : tx % (n : Int) = (t : Int) := htt.symm
  have Henf := hid enf
  clear hnf htt enf
  refine wpStmts_k (ss := stmtsFrom Ybad.f4 13) rfl fun K hK => ?_
  have Hk := hid hK
  clear hK
  go_wp2
  refine Hk.out _ _ ?_
  clear Hk K
  try rw [ett]
  clear ett
  obtain ⟨Bs, hBs⟩ : ∃ Bs, Bs = w0.heap.size := ⟨_, rfl⟩
  rw [← hBs] at HN ⊢
  have HBs := hid hBs
  have hz1 : Bs ≤ w1.heap.size := by rw [hBs]; exact HK01.out.size
  clear hBs
  refine wpStmts_k (ss := stmtsFrom Ybad.f4 14) rfl fun K hK => ?_
  have Hk := hid hK
  clear hK
  go_wp2
  refine Hk.out _ _ ?_
  clear Hk K
  refine wpStmts_k (ss := stmtsFrom Ybad.f4 15) rfl fun K hK => ?_
  have Hk := hid hK
  clear hK
  go_wp2
  go_loopg [23] n (fun g i wr => ∃ c : Nat, c + g = n ∧ i = .int .i64 c ∧ wr.rowIs (Bs + 3) 3 n (fun j => .int .i64 (if j < c then X.wt j % 256 else X.wt j)) ∧ wr.rowIs (Bs + 4) 3 n (fun j => .int .i64 (if j < c then (j : Int) else ((X.mb j % n : Nat) : Int))) ∧ Keeps (fun k => k = Bs + 3 ∨ k = Bs + 4) w1 wr)
  case atStart => exact ⟨0, by omega, rfl, HN.out.wt.congr fun j _ => by simp, HN.out.mb.congr fun j _ => by simp, Keeps.refl _ _⟩
  case round =>
    obtain ⟨c, hc, rfl, hW, hM, hk⟩ := hrel
    have HW := hid hW
    have HM := hid hM
    have HKr := hid hk
    by_cases hlt : c < n
    · have x2 := hk.cellS (HK01.out.cell (HTx.out.is.c2 c hlt)) (by have := cell_lt (HTx.out.is.c2 c hlt); have := HBs.out; rintro (e | e) <;> (simp only at *; omega))
      obtain ⟨v3, c3⟩ : ∃ v, wr.cell? ⟨Bs + 3, c, none⟩ = some v := ⟨_, hW.cell hlt⟩
      obtain ⟨v4, c4⟩ : ∃ v, wr.cell? ⟨Bs + 4, c, none⟩ = some v := ⟨_, hM.cell hlt⟩
      have f3 := hW.frozen c
      have f4 := hM.frozen c
      clear hW hM hk
      go_wp2
      go_roundg (n - (c + 1))
      case measure => omega
      case rel =>
        have m34 : ¬ Bs + 3 = Bs + 4 := by omega
        have m43 : ¬ Bs + 4 = Bs + 3 := by omega
        refine ⟨c + 1, by omega, by go_num, ((HW.out.set c _).setOther m34 _).congr fun j _ => ?_, ((HM.out.setOther m43 _).set c _).congr fun j _ => ?_, (HKr.out.setCell _ _ (fun _ => .inl rfl)).setCell _ _ (fun _ => .inr rfl)⟩
        · by_cases e : j = c
          · subst e; simp
          · have : (j < c + 1) = (j < c) := by simp; omega
            simp [e, this]
        · by_cases e : j = c
          · subst e; simp
          · have : (j < c + 1) = (j < c) := by simp; omega
            simp [e, this]
    · obtain rfl : n = c := by omega
      clear hW hM hk
      go_wp2
      refine Hk.out _ _ ?_
      clear Hk
      obtain ⟨wa, rfl⟩ : ∃ wa : World, wa = wr := ⟨_, rfl⟩
      obtain ⟨v3, c3⟩ : ∃ v, wa.cell? ⟨Bs + 3, t, none⟩ = some v := ⟨_, HW.out.cell htn⟩
      have f3 := HW.out.frozen t
      have HPa := hid (HKr.out.row HN.out.pl (fun e => by omega))
      obtain ⟨v1, c1⟩ : ∃ v, wa.cell? ⟨Bs + 1, t, none⟩ = some v := ⟨_, HPa.out.cell htn⟩
      have f1 := HPa.out.frozen t
      refine wpStmts_k (ss := stmtsFrom Ybad.f4 16) rfl fun K hK => ?_
      have Hk := hid hK
      clear hK
      go_wp2
      refine Hk.out _ _ ?_
      clear Hk
      refine wpStmts_k (ss := stmtsFrom Ybad.f4 17) rfl fun K hK => ?_
      have Hk := hid hK
      clear hK
      go_wp2
      refine Hk.out _ _ ?_
      clear Hk
      obtain ⟨wb, hwb⟩ : ∃ wb, (wa.setCell { block := Bs + 3, off := t } (Value.int IntKind.i64 0)).setCell { block := Bs + 1, off := t } (Value.bool false) = wb := ⟨_, rfl⟩
      rw [hwb]
      have m31 : ¬ Bs + 3 = Bs + 1 := by omega
      have m13 : ¬ Bs + 1 = Bs + 3 := by omega
      have m41 : ¬ Bs + 4 = Bs + 1 := by omega
      have m43 : ¬ Bs + 4 = Bs + 3 := by omega
      have hWb : wb.rowIs (Bs + 3) 3 n (fun j => .int .i64 (wtU X t j)) := by
        rw [← hwb]
        refine ((HW.out.set t _).setOther m31 _).congr fun j hj => ?_
        by_cases e : j = t
        · simp [e, wtU]
        · simp [e, wtU, hj]
      have hPb : wb.rowIs (Bs + 1) 4 n (fun j => .bool (setP X.pl t false j)) := by
        rw [← hwb]
        refine ((HPa.out.setOther m13 _).set t _).congr fun j hj => ?_
        by_cases e : j = t
        · simp [e, setP]
        · simp [e, setP]
      have hMb : wb.rowIs (Bs + 4) 3 n (fun j => .int .i64 (j : Int)) := by
        rw [← hwb]
        refine ((HM.out.setOther m43 _).setOther m41 _).congr fun j hj => by simp [hj]
      have hKb : Keeps (fun k => k = Bs + 3 ∨ k = Bs + 4 ∨ k = Bs + 1) w1 wb := by
        rw [← hwb]
        exact ((HKr.out.mono (fun k _ e => e.elim .inl (fun e => .inr (.inl e)))).setCell _ _ (fun _ => .inl rfl)).setCell _ _ (fun _ => .inr (.inr rfl))
      have HWb := hid hWb
      have HPb := hid hPb
      have HMb := hid hMb
      have HKb := hid hKb
      clear hwb hWb hPb hMb hKb c3 f3 c1 f1 HW HM HKr HPa m31 m13 m41 m43
      refine wpStmts_k (ss := stmtsFrom Ybad.f4 18) rfl fun K hK => ?_
      have Hk := hid hK
      clear hK
      go_wp2
      refine Hk.out _ _ ?_
      clear Hk
      refine wpStmts_k (ss := stmtsFrom Ybad.f4 19) rfl fun K hK => ?_
      have Hk := hid hK
      clear hK
      go_wp2
      go_loopg [24] n (fun g i wr => ∃ c : Nat, c + g = n ∧ i = .int .i64 c ∧ wr.rowIs (Bs + 2) 4 n (fun j => .bool (if j < c then decide (wtU X t j = 0) else X.rd j)) ∧ Keeps (fun k => k = Bs + 2) wb wr)
      case atStart => exact ⟨0, by omega, rfl, (HKb.out.row HN.out.rd (fun e => by omega)).congr fun j _ => by simp, Keeps.refl _ _⟩
      case round =>
        obtain ⟨c, hc, rfl, hR, hk⟩ := hrel
        have HR := hid hR
        have HKr := hid hk
        by_cases hlt : c < n
        · have x3 := (hk.row HWb.out (fun e => by omega)).cell hlt
          obtain ⟨v2, c2⟩ : ∃ v, wr.cell? ⟨Bs + 2, c, none⟩ = some v := ⟨_, hR.cell hlt⟩
          have f2 := hR.frozen c
          clear hR hk
          go_wp2
          go_roundg (n - (c + 1))
          case measure => omega
          case rel =>
            refine ⟨c + 1, by omega, by go_num, (HR.out.set c _).congr fun j _ => ?_, HKr.out.setCell _ _ (fun _ => rfl)⟩
            by_cases e : j = c
            · subst e
              by_cases hz : wtU X t j = 0 <;> simp [hz]
            · have : (j < c + 1) = (j < c) := by simp; omega
              simp [e, this]
        · obtain rfl : n = c := by omega
          clear hR hk
          go_wp2
          refine Hk.out _ _ ?_
          clear Hk
          obtain ⟨w3, rfl⟩ : ∃ w3 : World, w3 = wr := ⟨_, rfl⟩
          have K13 : Keeps (fun k => Bs < k ∧ k < Bs + 5) w1 w3 := (HKb.out.mono (fun k _ e => by omega)).trans HKr.out (fun k _ e => by omega)
          have K03 : Keeps (fun _ => False) w0 w3 := HK01.out.trans K13 (fun k hk e => by have := HBs.out; omega)
          have hN3 : NormIs w3 Bs n (txU X t) := by
            refine ⟨K13.row HN.out.kp (fun e => by omega), HKr.out.row HPb.out (fun e => by omega), HR.out.congr fun j hj => by simp [hj, txU], HKr.out.row HWb.out (fun e => by omega), (HKr.out.row HMb.out (fun e => by omega)).congr fun j hj => ?_, K13.row HN.out.sc (fun e => by omega), fun i hi => K13.row (HN.out.su i hi) (fun e => by omega)⟩
            show Value.int .i64 (j : Int) = .int .i64 ((j % n : Nat) : Int)
            rw [Nat.mod_eq_of_lt hj]
          have HN3 := hid hN3
          have HK03 := hid K03
          clear K13 K03 hN3
          refine wpStmts_k (ss := stmtsFrom Ybad.f4 20) rfl fun K hK => ?_
          have Hk := hid hK
          clear hK
          go_wp2
          refine Hk.out _ _ ?_
          clear Hk
          try rw [Henf.out]
          exact undo_B _ _ _ _ _ _ _ _ _ _ _ _ _ _ _ _ _ _ _ _ _ _ _ _ _ _ _ _ _ _ _ _ _ _ _ _ _ _ _ _ _ _ _ _ _ _ _ _ _ _ _ _ _ _ _ _ _ _ _ _ _ _ _ _ _ _ _ _ _ _ _ _ _ _ _ _ _ _ _ _ _ _ _ _ _ _ _ _ _ _ _ _ _ _ _ _ _ _ _ _ _ _ _ _ _ _ _ _ _ _ _ _ _ _ _ _ _ _ _ _ _ _ _ _ _ _ _ _ _ _ _ _ _ _ _ _ _ _ _ _ _ _ _ _ _ _ _ _ _ _ _ _ _ _ _ _ _ _ _ _ _ _ _ _ _ _ _ _ _ _ _ _ _ _ n t nf Bs bl bc tl tc ba ta (txU X t) bt td eo wS w3 n1 n2 htn hnf8 HTx.out.L hb ht (HBT.out.keeps HK03.out) (HTD.out.keeps HK03.out) HN3.out (tr0 HK.out HK03.out) (wtU_bounds X t) (by simp [txU, wtU]) (fun _ _ => rfl) rfl (by simp [txU, setP])
end Go.Proofs.YbulkebqyDoor
