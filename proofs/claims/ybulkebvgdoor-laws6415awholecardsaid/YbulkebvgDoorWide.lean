import Derived.Test.YbulkebvgDoorRed
import Derived.Deep.CutBlock
import Derived.Deep.DeepCutAuto
namespace Go.Proofs.YbulkebvgDoor
open Go.RowKit Go.Deep

theorem Keeps.cell {w w' : World} (k : Keeps (fun _ => False) w w') {a : Addr} {v : Value} (h : w.cell? a = some v) : w'.cell? a = some v := by
  have hlt : a.block < w.heap.size := by
    rcases Nat.lt_or_ge a.block w.heap.size with h1 | h1
    · exact h1
    · have e : w.heap[a.block]? = none := by simp [h1]
      simp [World.cell?, e] at h
  have := k.block a.block hlt (fun h => h)
  simpa [World.cell?, this] using h

def arr8 (A : Nat → Int) : Array Value := #[.int .u64 (A 0), .int .u64 (A 1), .int .u64 (A 2), .int .u64 (A 3), .int .u64 (A 4), .int .u64 (A 5), .int .u64 (A 6), .int .u64 (A 7)]
theorem arr8_at (A : Nat → Int) : ∀ i, i < 8 → (arr8 A)[i]? = some (.int .u64 (A i)) := by
  intro i hi
  match i, hi with
  | 0, _ => rfl
  | 1, _ => rfl
  | 2, _ => rfl
  | 3, _ => rfl
  | 4, _ => rfl
  | 5, _ => rfl
  | 6, _ => rfl
  | 7, _ => rfl
theorem rowIs_8 {w : World} {b : Nat} {t : TypeId} (A : Nat → Int) (h : w.heap[b]? = some (.cells (arr8 A) t)) : w.rowIs b t 8 (fun i => .int .u64 (A i)) := ⟨_, h, rfl, arr8_at A⟩
def arr4 (A : Nat → Int) : Array Value := #[.int .u64 (A 0), .int .u64 (A 1), .int .u64 (A 2), .int .u64 (A 3)]
theorem arr4_at (A : Nat → Int) : ∀ i, i < 4 → (arr4 A)[i]? = some (.int .u64 (A i)) := by
  intro i hi
  match i, hi with
  | 0, _ => rfl
  | 1, _ => rfl
  | 2, _ => rfl
  | 3, _ => rfl
/-- The bit that comes in. -/
def bitN (N : Nat → Int) (c : Nat) : Int := N (c / 64) / 2 ^ (c % 64) % 2
theorem bitN_01 (N : Nat → Int) (c : Nat) : bitN N c = 0 ∨ bitN N c = 1 := by unfold bitN; omega
theorem and_one (x : Int) (h0 : 0 ≤ x) (h1 : x < 18446744073709551616) : bits .and .u64 x 1 = x % 2 := by
  obtain ⟨x, rfl⟩ := Int.eq_ofNat_of_zero_le h0
  have := u64_and_nat x 1 (by omega) (by omega)
  rw [Nat.and_one_is_mod] at this
  have e : ((1 : Nat) : Int) = 1 := rfl
  rw [e] at this
  rw [this]
  omega
theorem or_limb (x y : Int) (hx : 0 ≤ x) (hy : y = 0 ∨ y = 1) : bits .or .u64 (IntKind.u64.wrap (x * 2)) y = 2 * (x % 9223372036854775808) + y := by
  obtain ⟨x, rfl⟩ := Int.eq_ofNat_of_zero_le hx
  obtain ⟨y, rfl⟩ := Int.eq_ofNat_of_zero_le (show 0 ≤ y by omega)
  rw [or_bit x y (by omega)]
  omega
theorem div_lt_M {x : Int} {b : Nat} (h0 : 0 ≤ x) (h1 : x < 18446744073709551616) : 0 ≤ x / 2 ^ b ∧ x / 2 ^ b < 18446744073709551616 := by
  obtain ⟨x, rfl⟩ := Int.eq_ofNat_of_zero_le h0
  rw [div_cell]
  have := Nat.div_le_self x (2 ^ b)
  generalize x / 2 ^ b = y at this ⊢
  omega
theorem wrap_m1 : IntKind.u64.wrap (-1) = 18446744073709551615 := by rw [IntKind.wrap_u64]; rfl
theorem keep0 {x y : Int} (hx : 0 ≤ x ∧ x < 18446744073709551616) (hy : 0 ≤ y ∧ y < 18446744073709551616) : bits .or .u64 (bits .and .u64 x 0) (bits .andNot .u64 y 0) = y := by
  obtain ⟨x, rfl⟩ := Int.eq_ofNat_of_zero_le hx.1
  obtain ⟨y, rfl⟩ := Int.eq_ofNat_of_zero_le hy.1
  have e1 := u64_and_nat x 0 (by omega) (by omega)
  have e2 := u64_andNot_nat y 0 (by omega) (by omega)
  have e0 : ((0 : Nat) : Int) = 0 := rfl
  rw [e0] at e1 e2
  have e3 : y &&& (18446744073709551615 - 0) = y := by
    have := Nat.and_two_pow_sub_one_eq_mod y 64
    simp only [Nat.sub_zero]
    rw [show (18446744073709551615 : Nat) = 2 ^ 64 - 1 from rfl, this]
    exact Nat.mod_eq_of_lt (by omega)
  rw [e1, e2, Nat.and_zero, e3, u64_or_nat _ _ (by omega) (by omega), Nat.zero_or]
theorem keep1 {x y : Int} (hx : 0 ≤ x ∧ x < 18446744073709551616) (hy : 0 ≤ y ∧ y < 18446744073709551616) : bits .or .u64 (bits .and .u64 x 18446744073709551615) (bits .andNot .u64 y 18446744073709551615) = x := by
  obtain ⟨x, rfl⟩ := Int.eq_ofNat_of_zero_le hx.1
  obtain ⟨y, rfl⟩ := Int.eq_ofNat_of_zero_le hy.1
  have e1 := u64_and_nat x 18446744073709551615 (by omega) (by omega)
  have e2 := u64_andNot_nat y 18446744073709551615 (by omega) (by omega)
  have e0 : ((18446744073709551615 : Nat) : Int) = 18446744073709551615 := rfl
  rw [e0] at e1 e2
  have e3 : x &&& 18446744073709551615 = x := by
    have := Nat.and_two_pow_sub_one_eq_mod x 64
    rw [show (18446744073709551615 : Nat) = 2 ^ 64 - 1 from rfl, this]
    exact Nat.mod_eq_of_lt (by omega)
  rw [e1, e2, e3, Nat.sub_self, Nat.and_zero, u64_or_nat _ _ (by omega) (by omega), Nat.or_zero]
theorem rowIs_4 {w : World} {b : Nat} {t : TypeId} (A : Nat → Int) (h : w.heap[b]? = some (.cells (arr4 A) t)) : w.rowIs b t 4 (fun i => .int .u64 (A i)) := ⟨_, h, rfl, arr4_at A⟩

set_option maxRecDepth 100000 in
set_option maxHeartbeats 2000000 in
theorem wide_walk (N : Nat → Int) (hN : Limbs N 8) (w : World) (hO : ∀ i, i < 4 → w.cell? ⟨0, i, none⟩ = some (.int .u64 (lim i))) :
    Calls Ybad.prog 4 #[.agg #[.int .u64 (N 0), .int .u64 (N 1), .int .u64 (N 2), .int .u64 (N 3), .int .u64 (N 4), .int .u64 (N 5), .int .u64 (N 6), .int .u64 (N 7)]] w fun e w' =>
      ∃ R, Limbs R 4 ∧ val R 4 = val N 8 % LL ∧ e = .returned (.agg (arr4 R)) ∧ Keeps (fun _ => False) w w' := by
  have HN := hid hN
  have HO := hid hO
  clear hN hO
  go_enter Ybad.func4, Ybad.ntmps4
  go_wp2
  go_loopg [4] 512 (fun g i wr => ∃ (c : Nat) (R : Nat → Int), c = g ∧ c ≤ 512 ∧ i = .int .i64 ((c : Int) - 1) ∧ Limbs R 4 ∧ val R 4 = val N 8 / 2 ^ c % LL ∧ wr.rowIs (w.heap.size + 2) 25 4 (fun i => .int .u64 (R i)) ∧
    wr.rowIs w.heap.size 23 8 (fun i => .int .u64 (N i)) ∧ wr.rowIs (w.heap.size + 1) 25 4 (fun _ => .int .u64 0) ∧ Keeps (fun _ => False) w wr)
  case atStart =>
    obtain ⟨h0, h1, h2⟩ := heap3 w (.cells (arr8 N) 23) (.cells (arr4 fun _ => 0) 25) (.cells (arr4 fun _ => 0) 25)
    refine ⟨512, fun _ => 0, rfl, by omega, rfl, fun i _ => ⟨Int.le_refl _, by show (0 : Int) < 18446744073709551616; decide⟩, ?_, rowIs_4 _ h2, rowIs_8 _ h0, rowIs_4 _ h1, (((Keeps.refl _ _).alloc _).alloc _).alloc _⟩
    exact red_start HN.out
  case round =>
    obtain ⟨c, R, rfl, hc, rfl, hL, hv, hR, hRN, hR1, hK⟩ := hrel
    have HR := hid hR
    have HRN := hid hRN
    have HR1 := hid hR1
    have HK := hid hK
    have HL := hid hL
    have HV := hid hv
    match c, hc with
    | 0, _ =>
      have s0 := hR.cell (i := 0) (by omega)
      have s1 := hR.cell (i := 1) (by omega)
      have s2 := hR.cell (i := 2) (by omega)
      have s3 := hR.cell (i := 3) (by omega)
      have r0 : wr.cell? ⟨w.heap.size + 1, 0, none⟩ = some (.int .u64 0) := hR1.cell (i := 0) (by omega)
      have r1 : wr.cell? ⟨w.heap.size + 1, 1, none⟩ = some (.int .u64 0) := hR1.cell (i := 1) (by omega)
      have r2 : wr.cell? ⟨w.heap.size + 1, 2, none⟩ = some (.int .u64 0) := hR1.cell (i := 2) (by omega)
      have r3 : wr.cell? ⟨w.heap.size + 1, 3, none⟩ = some (.int .u64 0) := hR1.cell (i := 3) (by omega)
      have g0 : wr.frozen? ⟨w.heap.size + 1, 0, none⟩ = false := hR1.frozen _
      have g1 : wr.frozen? ⟨w.heap.size + 1, 1, none⟩ = false := hR1.frozen _
      have g2 : wr.frozen? ⟨w.heap.size + 1, 2, none⟩ = false := hR1.frozen _
      have g3 : wr.frozen? ⟨w.heap.size + 1, 3, none⟩ = false := hR1.frozen _
      clear hR hRN hR1 hK hL hv
      go_wp2
      refine bodyPost_ret (v := .agg (arr4 R)) (by simp [results, Ybad.results4, go_sem, arr4, r0, r1, r2, r3]) rfl ⟨R, HL.out, by simpa using HV.out, rfl, ?_⟩
      iterate 4 refine Keeps.setCell ?_ _ _ (fun e => by have e' : w.heap.size + 1 < w.heap.size := e; omega)
      exact HK.out
    | c + 1, hc =>
      have r0 := hR.cell (i := 0) (by omega)
      have r1 := hR.cell (i := 1) (by omega)
      have r2 := hR.cell (i := 2) (by omega)
      have r3 := hR.cell (i := 3) (by omega)
      have f0 : wr.frozen? ⟨w.heap.size + 2, 0, none⟩ = false := hR.frozen _
      have f1 : wr.frozen? ⟨w.heap.size + 2, 1, none⟩ = false := hR.frozen _
      have f2 : wr.frozen? ⟨w.heap.size + 2, 2, none⟩ = false := hR.frozen _
      have f3 : wr.frozen? ⟨w.heap.size + 2, 3, none⟩ = false := hR.frozen _
      have cn := hRN.cell (i := c / 64) (by omega)
      have ei : (((c + 1 : Nat) : Int) - 1) = (c : Int) := by omega
      rw [ei]
      clear hR hRN hR1 hK hL hv
      obtain ⟨wo, rfl⟩ : ∃ wo : World, wo = wr := ⟨_, rfl⟩
      go_wp2
      go_region
      go_wp2
      go_loopg [6, 51] 4 (fun g bo i wr => ∃ d : Nat, d + g = 4 ∧ i = .int .i64 d ∧ bo = .int .u64 (bw (shf R (bitN N c)) (fun j => (lim j : Nat)) d) ∧ wr.rowIs wo.heap.size 25 4 (fun j => .int .u64 (if j < d then dif (shf R (bitN N c)) (fun j => (lim j : Nat)) j else 0)) ∧
        wr.rowIs (w.heap.size + 2) 25 4 (fun i => .int .u64 (shf R (bitN N c) i)) ∧ wr.rowIs w.heap.size 23 8 (fun i => .int .u64 (N i)) ∧ wr.rowIs (w.heap.size + 1) 25 4 (fun _ => .int .u64 0) ∧ Keeps (fun _ => False) w wr)
      case atStart =>
        have nN : ¬ w.heap.size = w.heap.size + 1 + 1 := by omega
        have n1 : ¬ w.heap.size + 1 = w.heap.size + 1 + 1 := by omega
        have nk : ¬ w.heap.size + 1 + 1 < w.heap.size := by omega
        have l0 := HL.out 0 (by omega)
        have l1 := HL.out 1 (by omega)
        have l2 := HL.out 2 (by omega)
        have l3 := HL.out 3 (by omega)
        have ln := HN.out (c / 64) (by omega)
        have lb := div_lt_M (b := c % 64) ln.1 ln.2
        have hbit := bitN_01 N c
        have e0 : bits .or .u64 (IntKind.u64.wrap (R 0 * 2)) (bits .and .u64 (N (c / 64) / 2 ^ (c % 64)) 1) = shf R (bitN N c) 0 := by
          rw [and_one _ lb.1 lb.2]
          show bits .or .u64 (IntKind.u64.wrap (R 0 * 2)) (bitN N c) = _
          rw [or_limb _ _ l0.1 hbit]; rfl
        have e1 : bits .or .u64 (IntKind.u64.wrap (R 1 * 2)) (R 0 / 9223372036854775808) = shf R (bitN N c) 1 := by rw [or_limb _ _ l1.1 (by omega)]; rfl
        have e2 : bits .or .u64 (IntKind.u64.wrap (R 2 * 2)) (R 1 / 9223372036854775808) = shf R (bitN N c) 2 := by rw [or_limb _ _ l2.1 (by omega)]; rfl
        have e3 : bits .or .u64 (IntKind.u64.wrap (R 3 * 2)) (R 2 / 9223372036854775808) = shf R (bitN N c) 3 := by rw [or_limb _ _ l3.1 (by omega)]; rfl
        refine ⟨0, by omega, rfl, rfl, ?_, (((((HR.out.set 3 _).set 2 _).set 1 _).set 0 _).alloc _).drew.congr fun j hj => ?_, (((((HRN.out.setOther nN _).setOther nN _).setOther nN _).setOther nN _).alloc _).drew, (((((HR1.out.setOther n1 _).setOther n1 _).setOther n1 _).setOther n1 _).alloc _).drew,
          (((((HK.out.setCell _ _ (fun e => absurd e nk)).setCell _ _ (fun e => absurd e nk)).setCell _ _ (fun e => absurd e nk)).setCell _ _ (fun e => absurd e nk)).alloc _).drew⟩
        · refine (rowIs_4 (fun _ => 0) ?_).congr fun j _ => by simp
          have := blk_alloc_new ((((wo.setCell ⟨w.heap.size + 1 + 1, 3, none⟩ (.int .u64 (shf R (bitN N c) 3))).setCell ⟨w.heap.size + 1 + 1, 2, none⟩ (.int .u64 (shf R (bitN N c) 2))).setCell ⟨w.heap.size + 1 + 1, 1, none⟩ (.int .u64 (shf R (bitN N c) 1))).setCell ⟨w.heap.size + 1 + 1, 0, none⟩ (.int .u64 (shf R (bitN N c) 0))) (.cells (arr4 fun _ => 0) 25)
          rw [nblk_setCell, nblk_setCell, nblk_setCell, nblk_setCell] at this
          rw [e0, e1, e2, e3]
          exact this
        · match j, hj with
          | 0, _ => simp [e0]
          | 1, _ => simp [e1]
          | 2, _ => simp [e2]
          | 3, _ => simp [e3]
      case round =>
        obtain ⟨d, hd, rfl, rfl, hD, hS, hSN, hS1, hKd⟩ := hrel
        have HD := hid hD
        have HS := hid hS
        have HSN := hid hSN
        have HS1 := hid hS1
        have HKd := hid hKd
        by_cases hlt : d < 4
        · have cs := hS.cell hlt
          have co := hD.cell hlt
          have fo : wr.frozen? ⟨wo.heap.size, d, none⟩ = false := hD.frozen _
          have cO : wr.cell? ⟨0, d, none⟩ = some (.int .u64 (lim d)) := hKd.cell (HO.out d hlt)
          have hs := sub64 (shf R (bitN N c) d) (lim d) (bw (shf R (bitN N c)) (fun j => (lim j : Nat)) d) (shf_limbs HL.out (bitN_01 N c) d hlt).1 (by omega) (by have := lim_lt d; omega) (bw_01 _ _ _).1 (bw_01 _ _ _).2
          clear hD hS hSN hS1 hKd
          go_wp2
          go_region
          all_goals
            go_wp2
            go_roundg (4 - (d + 1))
            case measure => omega
            case rel =>
              have hsz := HR.out.lt
              have m2 : ¬ w.heap.size + 2 = wo.heap.size := by omega
              have m1 : ¬ w.heap.size + 1 = wo.heap.size := by omega
              have m0 : ¬ w.heap.size = wo.heap.size := by omega
              have mk : ¬ wo.heap.size < w.heap.size := by omega
              refine ⟨d + 1, by omega, by go_num, rfl, (HD.out.set d _).drew.congr fun j _ => ?_, (HS.out.setOther m2 _).drew, (HSN.out.setOther m0 _).drew, (HS1.out.setOther m1 _).drew, (HKd.out.setCell _ _ (fun e => absurd e mk)).drew⟩
              by_cases e : j = d
              · subst e; simp [dif]
              · have : (j < d + 1) = (j < d) := by simp; omega
                simp [e, this]
        · obtain rfl : d = 4 := by omega
          have HD4 := hid (hD.congr (g := fun j => .int .u64 (dif (shf R (bitN N c)) (fun j => (lim j : Nat)) j)) fun j hj => by simp [hj])
          clear hD hS hSN hS1 hKd
          obtain ⟨b, hb⟩ : ∃ b, bw (shf R (bitN N c)) (fun j => (lim j : Nat)) 4 = b := ⟨_, rfl⟩
          have hb01 : b = 0 ∨ b = 1 := by have := bw_01 (shf R (bitN N c)) (fun j => (lim j : Nat)) 4; omega
          rw [hb]
          have HB := hid hb
          clear hb HD
          obtain ⟨wi, rfl⟩ : ∃ wi : World, wi = wr := ⟨_, rfl⟩
          rcases hb01 with rfl | rfl
          · go_wp2
            go_loopg [70] 4 (fun g i wr => ∃ d : Nat, d + g = 4 ∧ i = .int .i64 d ∧ wr.rowIs (w.heap.size + 2) 25 4 (fun j => .int .u64 (if j < d then dif (shf R (bitN N c)) (fun j => (lim j : Nat)) j else shf R (bitN N c) j)) ∧ wr.rowIs wo.heap.size 25 4 (fun j => .int .u64 (dif (shf R (bitN N c)) (fun j => (lim j : Nat)) j)) ∧
              wr.rowIs w.heap.size 23 8 (fun i => .int .u64 (N i)) ∧ wr.rowIs (w.heap.size + 1) 25 4 (fun _ => .int .u64 0) ∧ Keeps (fun _ => False) w wr)
            case atStart => exact ⟨0, by omega, rfl, HS.out.congr fun j _ => by simp, HD4.out, HSN.out, HS1.out, HKd.out⟩
            case round =>
              obtain ⟨d, hd, rfl, hT, hT2, hTN, hT1, hKt⟩ := hrel
              have HT := hid hT
              have HT2 := hid hT2
              have HTN := hid hTN
              have HT1 := hid hT1
              have HKt := hid hKt
              by_cases hlt : d < 4
              · have ct := hT.cell hlt
                simp only [Nat.lt_irrefl, if_false] at ct
                have ft : wr.frozen? ⟨w.heap.size + 2, d, none⟩ = false := hT.frozen _
                have cd := hT2.cell hlt
                clear hT hT2 hTN hT1 hKt
                go_wp2
                go_region
                all_goals
                  go_wp2
                  go_roundg (4 - (d + 1))
                  case measure => omega
                  case rel =>
                    have hsz := HR.out.lt
                    have m2 : ¬ wo.heap.size = w.heap.size + 1 + 1 := by omega
                    have m1 : ¬ w.heap.size + 1 = w.heap.size + 1 + 1 := by omega
                    have m0 : ¬ w.heap.size = w.heap.size + 1 + 1 := by omega
                    have mk : ¬ w.heap.size + 1 + 1 < w.heap.size := by omega
                    have ek := keep0 (shf_limbs HL.out (bitN_01 N c) d hlt) (dif_limbs (shf R (bitN N c)) (fun j => (lim j : Nat)) 4 d hlt)
                    refine ⟨d + 1, by omega, by go_num, (HT.out.set d _).drew.congr fun j _ => ?_, (HT2.out.setOther m2 _).drew, (HTN.out.setOther m0 _).drew, (HT1.out.setOther m1 _).drew, (HKt.out.setCell _ _ (fun e => absurd e mk)).drew⟩
                    by_cases e : j = d
                    · subst e
                      rw [if_pos rfl, ek, if_pos (Nat.lt_succ_self _)]
                    · have : (j < d + 1) = (j < d) := by simp; omega
                      simp [e, this]
              · obtain rfl : d = 4 := by omega
                clear hT hT2 hTN hT1 hKt
                go_wp2
                go_roundg c
                case measure => omega
                case rel => exact ⟨c, dif (shf R (bitN N c)) (fun j => (lim j : Nat)), rfl, by omega, rfl, dif_limbs _ _ 4, (red_step HN.out HL.out c (by omega) (bitN N c) rfl HV.out).1 HB.out, HT.out.congr fun j hj => by simp [hj], HTN.out, HT1.out, HKt.out⟩
          · go_wp2
            go_loopg [70] 4 (fun g i wr => ∃ d : Nat, d + g = 4 ∧ i = .int .i64 d ∧ wr.rowIs (w.heap.size + 2) 25 4 (fun j => .int .u64 (if j < d then shf R (bitN N c) j else shf R (bitN N c) j)) ∧ wr.rowIs wo.heap.size 25 4 (fun j => .int .u64 (dif (shf R (bitN N c)) (fun j => (lim j : Nat)) j)) ∧
              wr.rowIs w.heap.size 23 8 (fun i => .int .u64 (N i)) ∧ wr.rowIs (w.heap.size + 1) 25 4 (fun _ => .int .u64 0) ∧ Keeps (fun _ => False) w wr)
            case atStart => exact ⟨0, by omega, rfl, HS.out.congr fun j _ => by simp, HD4.out, HSN.out, HS1.out, HKd.out⟩
            case round =>
              obtain ⟨d, hd, rfl, hT, hT2, hTN, hT1, hKt⟩ := hrel
              have HT := hid hT
              have HT2 := hid hT2
              have HTN := hid hTN
              have HT1 := hid hT1
              have HKt := hid hKt
              by_cases hlt : d < 4
              · have ct := hT.cell hlt
                simp only [Nat.lt_irrefl, if_false] at ct
                have ft : wr.frozen? ⟨w.heap.size + 2, d, none⟩ = false := hT.frozen _
                have cd := hT2.cell hlt
                clear hT hT2 hTN hT1 hKt
                go_wp2
                go_region
                all_goals
                  go_wp2
                  go_roundg (4 - (d + 1))
                  case measure => omega
                  case rel =>
                    have hsz := HR.out.lt
                    have m2 : ¬ wo.heap.size = w.heap.size + 1 + 1 := by omega
                    have m1 : ¬ w.heap.size + 1 = w.heap.size + 1 + 1 := by omega
                    have m0 : ¬ w.heap.size = w.heap.size + 1 + 1 := by omega
                    have mk : ¬ w.heap.size + 1 + 1 < w.heap.size := by omega
                    have ek := keep1 (shf_limbs HL.out (bitN_01 N c) d hlt) (dif_limbs (shf R (bitN N c)) (fun j => (lim j : Nat)) 4 d hlt)
                    rw [← wrap_m1] at ek
                    refine ⟨d + 1, by omega, by go_num, (HT.out.set d _).drew.congr fun j _ => ?_, (HT2.out.setOther m2 _).drew, (HTN.out.setOther m0 _).drew, (HT1.out.setOther m1 _).drew, (HKt.out.setCell _ _ (fun e => absurd e mk)).drew⟩
                    by_cases e : j = d
                    · subst e
                      rw [if_pos rfl, ek, if_pos (Nat.lt_succ_self _)]
                    · have : (j < d + 1) = (j < d) := by simp; omega
                      simp [e, this]
              · obtain rfl : d = 4 := by omega
                clear hT hT2 hTN hT1 hKt
                go_wp2
                go_roundg c
                case measure => omega
                case rel => exact ⟨c, shf R (bitN N c), rfl, by omega, rfl, shf_limbs HL.out (bitN_01 N c), (red_step HN.out HL.out c (by omega) (bitN N c) rfl HV.out).2 HB.out, HT.out.congr fun j hj => by simp [hj], HTN.out, HT1.out, HKt.out⟩
end Go.Proofs.YbulkebvgDoor
