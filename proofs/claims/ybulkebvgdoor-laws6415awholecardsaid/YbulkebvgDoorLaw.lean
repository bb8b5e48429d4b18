import Derived.Test.YbulkebvgDoorWide
import Derived.Test.YbulkebvgDoorEnd
namespace Go.Proofs.YbulkebvgDoor
open Go.RowKit Go.Deep

/-- Nine stores, one a limb. -/
def st9 (w : World) (b : Nat) (B : Nat → Int) : World :=
  ((((((((w.setCell ⟨b, 0, none⟩ (.int .u64 (B 0))).setCell ⟨b, 1, none⟩ (.int .u64 (B 1))).setCell ⟨b, 2, none⟩ (.int .u64 (B 2))).setCell ⟨b, 3, none⟩ (.int .u64 (B 3))).setCell ⟨b, 4, none⟩ (.int .u64 (B 4))).setCell ⟨b, 5, none⟩ (.int .u64 (B 5))).setCell ⟨b, 6, none⟩ (.int .u64 (B 6))).setCell ⟨b, 7, none⟩ (.int .u64 (B 7))).setCell ⟨b, 8, none⟩ (.int .u64 (B 8))
theorem set9 {w : World} {b : Nat} {t : TypeId} {A : Nat → Int} (B : Nat → Int) (h : w.rowIs b t 9 (fun j => .int .u64 (A j))) : (st9 w b B).rowIs b t 9 (fun j => .int .u64 (B j)) := by
  refine (((((((((h.set 0 _).set 1 _).set 2 _).set 3 _).set 4 _).set 5 _).set 6 _).set 7 _).set 8 _).congr fun j hj => ?_
  rcases (show j = 0 ∨ j = 1 ∨ j = 2 ∨ j = 3 ∨ j = 4 ∨ j = 5 ∨ j = 6 ∨ j = 7 ∨ j = 8 by omega) with rfl | rfl | rfl | rfl | rfl | rfl | rfl | rfl | rfl <;> simp
theorem other9 {w : World} {b c n : Nat} {t : TypeId} {f : Nat → Value} (B : Nat → Int) (hb : ¬ c = b) (h : w.rowIs c t n f) : (st9 w b B).rowIs c t n f :=
  ((((((((h.setOther hb _).setOther hb _).setOther hb _).setOther hb _).setOther hb _).setOther hb _).setOther hb _).setOther hb _).setOther hb _
theorem keeps9 {v w : World} {b : Nat} (B : Nat → Int) (hb : ¬ b < v.heap.size) (h : Keeps (fun _ => False) v w) : Keeps (fun _ => False) v (st9 w b B) :=
  ((((((((h.setCell _ _ (fun e => absurd e hb)).setCell _ _ (fun e => absurd e hb)).setCell _ _ (fun e => absurd e hb)).setCell _ _ (fun e => absurd e hb)).setCell _ _ (fun e => absurd e hb)).setCell _ _ (fun e => absurd e hb)).setCell _ _ (fun e => absurd e hb)).setCell _ _ (fun e => absurd e hb)).setCell _ _ (fun e => absurd e hb)

set_option maxRecDepth 100000 in
set_option maxHeartbeats 2000000 in
theorem law_walk (N : Nat → Int) (hN : Limbs N 8) (w : World) (hO : ∀ i, i < 4 → w.cell? ⟨0, i, none⟩ = some (.int .u64 (lim i))) :
    Calls Ybad.prog 3 #[.agg #[.int .u64 (N 0), .int .u64 (N 1), .int .u64 (N 2), .int .u64 (N 3), .int .u64 (N 4), .int .u64 (N 5), .int .u64 (N 6), .int .u64 (N 7)]] w fun e w' =>
      e = .returned (.bool true) ∧ Keeps (fun _ => False) w w' := by
  have HN := hid hN
  have HO := hid hO
  clear hN hO
  go_enter Ybad.func3, Ybad.ntmps3
  go_wp2_with (go_at_call 4; refine (wide_walk N HN.out _ (fun i hi => ((Keeps.refl (fun _ => False) w).alloc _).cell (HO.out i hi))).mono ?_; rintro e w1 ⟨R, hL, hv, rfl, hK⟩; unfold arr4)
  have HL := hid hL
  have HV := hid hv
  have hsz1 : w.heap.size < w1.heap.size := by have := hK.size; rw [nblk_alloc] at this; omega
  have HRN0 := hid (hK.row (rowIs_8 (w := w.alloc (.cells (arr8 N) 23)) N (blk_alloc_new _ _)) (fun h => h))
  have HK := hid (((Keeps.refl (fun _ => False) w).alloc (.cells (arr8 N) 23)).trans hK (fun _ _ h => h))
  clear hL hv hK
  go_loopg [5] 8 (fun g i wr => ∃ d : Nat, d + g = 8 ∧ i = .int .i64 d ∧ wr.rowIs (w1.heap.size + 1) 27 9 (fun j => .int .u64 (if j < d then N j else 0)) ∧ wr.rowIs w.heap.size 23 8 (fun j => .int .u64 (N j)) ∧ wr.rowIs w1.heap.size 25 4 (fun j => .int .u64 (R j)) ∧ Keeps (fun _ => False) w wr)
  case atStart =>
    obtain ⟨h0, h1⟩ := heap2 w1 (.cells (arr4 R) 25) (.cells (arr9 fun _ => 0) 27)
    exact ⟨0, by omega, rfl, (rowIs_9 _ h1).congr fun j _ => by simp, (HRN0.out.alloc _).alloc _, rowIs_4 _ h0, (HK.out.alloc _).alloc _⟩
  case round =>
    obtain ⟨d, hd, rfl, hM, hRN, hG, hK1⟩ := hrel
    have HM := hid hM
    have HRN := hid hRN
    have HG := hid hG
    have HK1 := hid hK1
    by_cases hlt : d < 8
    · have cn := hRN.cell hlt
      obtain ⟨v0, cm⟩ : ∃ v0, wr.cell? ⟨w1.heap.size + 1, d, none⟩ = some v0 := ⟨_, hM.cell (by omega)⟩
      have fm : wr.frozen? ⟨w1.heap.size + 1, d, none⟩ = false := hM.frozen _
      clear hM hRN hG hK1
      go_wp2
      go_roundg (8 - (d + 1))
      case measure => omega
      case rel =>
        have m0 : ¬ w.heap.size = w1.heap.size + 1 := by omega
        have m1 : ¬ w1.heap.size = w1.heap.size + 1 := by omega
        have mk : ¬ w1.heap.size + 1 < w.heap.size := by omega
        refine ⟨d + 1, by omega, by go_num, (HM.out.set d _).congr fun j _ => ?_, HRN.out.setOther m0 _, HG.out.setOther m1 _, HK1.out.setCell _ _ (fun e => absurd e mk)⟩
        by_cases e : j = d
        · subst e; simp
        · have : (j < d + 1) = (j < d) := by simp; omega
          simp [e, this]
    · obtain rfl : d = 8 := by omega
      clear hM hRN hG hK1
      go_wp2
      obtain ⟨wa, rfl⟩ : ∃ wa : World, wa = wr := ⟨_, rfl⟩
      go_loopg [6] 261 (fun g i wr => ∃ (c : Nat) (A : Nat → Int), c = g ∧ c ≤ 261 ∧ i = .int .i64 ((c : Int) - 1) ∧ Limbs A 9 ∧ val A 9 < LL * 2 ^ c ∧ val A 9 % LL = val N 8 % LL ∧ wr.rowIs (w1.heap.size + 1) 27 9 (fun j => .int .u64 (A j)) ∧ wr.rowIs w1.heap.size 25 4 (fun j => .int .u64 (R j)) ∧ Keeps (fun _ => False) w wr)
      case atStart =>
        exact ⟨261, fun j => if j < 8 then N j else 0, rfl, by omega, rfl, pad_limbs HN.out 9, (law_start HN.out).1, (law_start HN.out).2, HM.out, HG.out, HK1.out⟩
      case round =>
        obtain ⟨c, A, rfl, hc, rfl, hLA, hb, hm, hA, hG, hKa⟩ := hrel
        have HLA := hid hLA
        have HBd := hid hb
        have HMod := hid hm
        have HA := hid hA
        have HG2 := hid hG
        have HKa := hid hKa
        match c, hc with
        | 0, _ =>
          have hend := hid (law_end hLA HL.out hb hm HV.out)
          clear hLA hb hm hA hG hKa
          rw [show (((0 : Nat) : Int) - 1) = -1 from rfl]
          go_wp2
          obtain ⟨wb, rfl⟩ : ∃ wb : World, wb = wr := ⟨_, rfl⟩
          go_loopg [8] 5 (fun g i wr => ∃ d : Nat, d + g = 9 ∧ 4 ≤ d ∧ i = .int .i64 d ∧ wr = wb)
          case atStart => exact ⟨4, by omega, by omega, rfl, rfl⟩
          case round =>
            obtain ⟨d, hd, hd4, rfl, rfl⟩ := hrel
            by_cases hlt : d < 9
            · have cm := HA.out.cell hlt
              have e0 : A d = 0 := by rw [hend.out d hlt, if_neg (by omega)]
              rw [e0] at cm
              go_wp2
              go_roundg (9 - (d + 1))
              case measure => omega
              case rel => exact ⟨d + 1, by omega, by omega, by go_num, rfl⟩
            · obtain rfl : d = 9 := by omega
              go_wp2
              obtain ⟨wc, rfl⟩ : ∃ wc : World, wc = wr := ⟨_, rfl⟩
              go_loopg [9] 4 (fun g i wr => ∃ d : Nat, d + g = 4 ∧ i = .int .i64 d ∧ wr.rowIs (w1.heap.size + 1) 27 9 (fun j => .int .u64 (A j)) ∧ wr.rowIs w1.heap.size 25 4 (fun j => .int .u64 (R j)) ∧ Keeps (fun _ => False) w wr)
              case atStart => exact ⟨0, by omega, rfl, HA.out, HG2.out, HKa.out⟩
              case round =>
                obtain ⟨d, hd, rfl, hA, hG, hKa⟩ := hrel
                have HA2 := hid hA
                have HG3 := hid hG
                have HK9 := hid hKa
                by_cases hlt : d < 4
                · have cm := hA.cell (i := d) (by omega)
                  have e0 : A d = R d := by rw [hend.out d (by omega), if_pos hlt]
                  rw [e0] at cm
                  have cg := hG.cell hlt
                  clear hA hG hKa
                  go_wp2
                  go_quiet (fail)
                  go_wp2
                  go_roundg (4 - (d + 1))
                  case measure => omega
                  case rel => exact ⟨d + 1, by omega, by go_num, HA2.out, HG3.out, HK9.out.drewN _⟩
                · obtain rfl : d = 4 := by omega
                  clear hA hG hKa
                  go_wp2
                  go_returns
                  exact ⟨rfl, HK9.out⟩
        | c + 1, hc =>
          have ei : (((c + 1 : Nat) : Int) - 1) = (c : Int) := by omega
          rw [ei]
          have s0 := hA.cell (i := 0) (by omega)
          have s1 := hA.cell (i := 1) (by omega)
          have s2 := hA.cell (i := 2) (by omega)
          have s3 := hA.cell (i := 3) (by omega)
          have s4 := hA.cell (i := 4) (by omega)
          have s5 := hA.cell (i := 5) (by omega)
          have s6 := hA.cell (i := 6) (by omega)
          have s7 := hA.cell (i := 7) (by omega)
          have s8 := hA.cell (i := 8) (by omega)
          clear hLA hb hm hA hG hKa
          have hlv := ltN_val HLA.out (cellk_limbs c 9)
          rw [cellk_val c (by omega)] at hlv
          by_cases hcmp : val A 9 < LL * 2 ^ c
          · have hlt : ltN A (fun j => ((cellk c 4 j : Nat) : Int)) 9 = true := by rw [hlv]; simpa using hcmp
            clear hlv
            go_wp2_with (first | (go_at_call 5; refine (shl_walk c (by omega) _).mono ?_; rintro e w2 ⟨rfl, hK2⟩; unfold arr9; have t0 := fun o => ((Keeps.refl (fun _ => False) w2).alloc o).cell (hK2.cell s0); have t1 := fun o => ((Keeps.refl (fun _ => False) w2).alloc o).cell (hK2.cell s1); have t2 := fun o => ((Keeps.refl (fun _ => False) w2).alloc o).cell (hK2.cell s2); have t3 := fun o => ((Keeps.refl (fun _ => False) w2).alloc o).cell (hK2.cell s3); have t4 := fun o => ((Keeps.refl (fun _ => False) w2).alloc o).cell (hK2.cell s4); have t5 := fun o => ((Keeps.refl (fun _ => False) w2).alloc o).cell (hK2.cell s5); have t6 := fun o => ((Keeps.refl (fun _ => False) w2).alloc o).cell (hK2.cell s6); have t7 := fun o => ((Keeps.refl (fun _ => False) w2).alloc o).cell (hK2.cell s7); have t8 := fun o => ((Keeps.refl (fun _ => False) w2).alloc o).cell (hK2.cell s8); have HK2 := hid hK2; clear hK2) | (go_at_call 6; refine (less_walk A (fun j => (cellk c 4 j : Nat)) _).mono ?_; rw [hlt]; rintro e w3 ⟨rfl, hK3⟩; have HK3 := hid hK3; clear hK3))
            go_roundg c
            case measure => omega
            case rel =>
              have hKK := hid (((HKa.out.trans HK2.out (fun _ _ h => h)).alloc (.cells (arr9 fun j => (cellk c 4 j : Nat)) 27)).trans HK3.out (fun _ _ h => h))
              exact ⟨c, A, rfl, by omega, rfl, HLA.out, hcmp, HMod.out, HK3.out.row ((HK2.out.row HA.out (fun h => h)).alloc _) (fun h => h), HK3.out.row ((HK2.out.row HG2.out (fun h => h)).alloc _) (fun h => h), hKK.out⟩
          · have hlt : ltN A (fun j => ((cellk c 4 j : Nat) : Int)) 9 = false := by rw [hlv]; simpa using hcmp
            clear hlv
            go_wp2_with (first | (go_at_call 5; refine (shl_walk c (by omega) _).mono ?_; rintro e w2 ⟨rfl, hK2⟩; unfold arr9; have t0 := fun o => ((Keeps.refl (fun _ => False) w2).alloc o).cell (hK2.cell s0); have t1 := fun o => ((Keeps.refl (fun _ => False) w2).alloc o).cell (hK2.cell s1); have t2 := fun o => ((Keeps.refl (fun _ => False) w2).alloc o).cell (hK2.cell s2); have t3 := fun o => ((Keeps.refl (fun _ => False) w2).alloc o).cell (hK2.cell s3); have t4 := fun o => ((Keeps.refl (fun _ => False) w2).alloc o).cell (hK2.cell s4); have t5 := fun o => ((Keeps.refl (fun _ => False) w2).alloc o).cell (hK2.cell s5); have t6 := fun o => ((Keeps.refl (fun _ => False) w2).alloc o).cell (hK2.cell s6); have t7 := fun o => ((Keeps.refl (fun _ => False) w2).alloc o).cell (hK2.cell s7); have t8 := fun o => ((Keeps.refl (fun _ => False) w2).alloc o).cell (hK2.cell s8); have HK2 := hid hK2; clear hK2) | (go_at_call 6; refine (less_walk A (fun j => (cellk c 4 j : Nat)) _).mono ?_; rw [hlt]; rintro e w3 ⟨rfl, hK3⟩; have x0 := hK3.cell (t0 (.cells (arr9 fun j => (cellk c 4 j : Nat)) 27)); have x1 := hK3.cell (t1 (.cells (arr9 fun j => (cellk c 4 j : Nat)) 27)); have x2 := hK3.cell (t2 (.cells (arr9 fun j => (cellk c 4 j : Nat)) 27)); have x3 := hK3.cell (t3 (.cells (arr9 fun j => (cellk c 4 j : Nat)) 27)); have x4 := hK3.cell (t4 (.cells (arr9 fun j => (cellk c 4 j : Nat)) 27)); have x5 := hK3.cell (t5 (.cells (arr9 fun j => (cellk c 4 j : Nat)) 27)); have x6 := hK3.cell (t6 (.cells (arr9 fun j => (cellk c 4 j : Nat)) 27)); have x7 := hK3.cell (t7 (.cells (arr9 fun j => (cellk c 4 j : Nat)) 27)); have x8 := hK3.cell (t8 (.cells (arr9 fun j => (cellk c 4 j : Nat)) 27)); have hlk := hK3.row (rowIs_9 (w := w2.alloc (.cells (arr9 fun j => (cellk c 4 j : Nat)) 27)) _ (blk_alloc_new _ _)) (fun h => h); have y0 := hlk.cell (i := 0) (by omega); have y1 := hlk.cell (i := 1) (by omega); have y2 := hlk.cell (i := 2) (by omega); have y3 := hlk.cell (i := 3) (by omega); have y4 := hlk.cell (i := 4) (by omega); have y5 := hlk.cell (i := 5) (by omega); have y6 := hlk.cell (i := 6) (by omega); have y7 := hlk.cell (i := 7) (by omega); have y8 := hlk.cell (i := 8) (by omega); clear hlk; have HK3 := hid hK3; clear hK3) | (go_at_call 7; refine (sub_walk A (fun j => (cellk c 4 j : Nat)) (fun i hi => (HLA.out i hi).1) (cellk_limbs c 9) _).mono ?_; rintro e w4 ⟨rfl, hK4⟩; unfold arr9; have hrow := hK4.row (HK3.out.row ((HK2.out.row HA.out (fun h => h)).alloc _) (fun h => h)) (fun h => h); have z0 := hrow.cell (i := 0) (by omega); have f0 := hrow.frozen 0; have z1 := hrow.cell (i := 1) (by omega); have f1 := hrow.frozen 1; have z2 := hrow.cell (i := 2) (by omega); have f2 := hrow.frozen 2; have z3 := hrow.cell (i := 3) (by omega); have f3 := hrow.frozen 3; have z4 := hrow.cell (i := 4) (by omega); have f4 := hrow.frozen 4; have z5 := hrow.cell (i := 5) (by omega); have f5 := hrow.frozen 5; have z6 := hrow.cell (i := 6) (by omega); have f6 := hrow.frozen 6; have z7 := hrow.cell (i := 7) (by omega); have f7 := hrow.frozen 7; have z8 := hrow.cell (i := 8) (by omega); have f8 := hrow.frozen 8; have HM4 := hid hrow; clear hrow; have HK4 := hid hK4; clear hK4))
            go_roundg c
            case measure => omega
            case rel =>
              have mk : ¬ w1.heap.size + 1 < w.heap.size := by omega
              have m1 : ¬ w1.heap.size = w1.heap.size + 1 := by omega
              have hKK := (((HKa.out.trans HK2.out (fun _ _ h => h)).alloc (.cells (arr9 fun j => (cellk c 4 j : Nat)) 27)).trans HK3.out (fun _ _ h => h)).trans HK4.out (fun _ _ h => h)
              have hG4 := HK4.out.row (HK3.out.row ((HK2.out.row HG2.out (fun h => h)).alloc _) (fun h => h)) (fun h => h)
              have hls := law_sub HLA.out c (by omega) HBd.out HMod.out (Int.not_lt.2 hcmp)
              exact ⟨c, dif A (fun j => ((cellk c 4 j : Nat) : Int)), rfl, by omega, rfl, dif_limbs _ _ 9, hls.1, hls.2, set9 (dif A (fun j => ((cellk c 4 j : Nat) : Int))) HM4.out, other9 (dif A (fun j => ((cellk c 4 j : Nat) : Int))) m1 hG4, keeps9 (dif A (fun j => ((cellk c 4 j : Nat) : Int))) mk hKK⟩
end Go.Proofs.YbulkebvgDoor
