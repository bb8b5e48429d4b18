import Derived.Test.YbulkebqyDoorBuildA
import Derived.Deep.CutBlock
import Derived.Deep.DeepCutAuto
namespace Go.Proofs.YbulkebqyDoor
open Go.RowKit Go.Deep

set_option maxRecDepth 100000 in
set_option maxHeartbeats 2000000 in
theorem build_any (n nf kpb ppb wpb spb mpb rpb c0 c1 c2 c3 c4 c5 bl bc tl tc : Nat) (ba ta : Option Addr) (sa0 sc0 sl : Nat → Nat) (kp pl rd : Nat → Bool) (wt : Nat → Int) (suc : Nat → Nat → Nat) (mem : Nat → Nat) (bt td : Nat → Int) (tr eo : Bool) (w : World)
    (hkp : Rw w kpb 4 n (fun i => .bool (kp i))) (hpl : Rw w ppb 4 n (fun i => .bool (pl i))) (hwt : Rw w wpb 3 n (fun i => .int .i64 (wt i))) (hsc : Rw w spb 30 n (fun i => .slice (some ⟨sa0 i, 0, none⟩) (sl i) (sc0 i)))
    (hsu : ∀ i, i < n → Rw w (sa0 i) 3 (sl i) (fun j => .int .i64 (suc i j))) (hme : Rw w mpb 3 n (fun i => .int .i64 (mem i))) (hrd : Rw w rpb 4 n (fun i => .bool (rd i)))
    (hbt : ArgRow w ba bl (fun j => .int .u64 (bt j))) (htd : ArgRow w ta tl (fun j => .int .u64 (td j)))
    (h1 : 1 ≤ n) (h2 : n ≤ 4096) (hnf : nf ≤ 8) (hbl : bl ≤ 1048576) (htl : tl ≤ 1048576) (hsl : ∀ i, i < n → sl i ≤ 65536) (hmb : ∀ i, i < n → mem i < n) (hsb : ∀ i j, i < n → j < sl i → suc i j < n) :
    Calls Ybad.prog 6 #[.slice (some ⟨kpb, 0, none⟩) n c0, .slice (some ⟨ppb, 0, none⟩) n c1, .slice (some ⟨wpb, 0, none⟩) n c2, .slice (some ⟨spb, 0, none⟩) n c3, .slice (some ⟨mpb, 0, none⟩) n c4, .slice (some ⟨rpb, 0, none⟩) n c5, .slice ba bl bc, .slice ta tl tc, .bool tr, .int .i64 nf, .bool eo] w fun e w' =>
      ∃ (h : Sh) (ov tv : Value), e = .returned (.pointer (some ⟨h.qb, 0, none⟩)) ∧ StIs h (bData n bl tl kp pl rd wt suc mem bt td tr) eo ov tv w' ∧ Ok h (bData n bl tl kp pl rd wt suc mem bt td tr) ∧ Keeps (fun _ => False) w w' ∧ Fresh h tv w.heap.size ∧
        h.n = n ∧ h.nf = nf ∧ h.sl = sl ∧ h.nl = nlOf n ∧ h.ss = ssOf n ∧ h.K = (keptL kp n).length ∧ h.W = ((keptL kp n).length + 63) / 64 := by
  have hmkN := run_make_row' (P := Ybad.prog) 30 3 (.int .i64 0) 8 Ybad.underlying30 Ybad.info3 rfl .i64 .i64 n (by omega) (by omega)
  obtain ⟨i3, hi3, hy0, hy1, hy2⟩ := info_parts Ybad.info3
  have hkb := hkp.lt
  have HKP := hid hkp
  have HPL := hid hpl
  have HWT := hid hwt
  have HSC := hid hsc
  have HSU := hid hsu
  have HME := hid hme
  have HRD := hid hrd
  have HBT := hid hbt
  have HTD := hid htd
  have HSL := hid hsl
  have HMB := hid hmb
  have HSB := hid hsb
  clear hkp hpl hwt hsc hsu hme hrd hbt htd hsl hmb hsb
  go_enter Ybad.func6, Ybad.ntmps6
  go_wp2
  go_loopg [25, 26] n (fun g kv i wr => ∃ c : Nat, c + g = n ∧ i = .int .i64 c ∧ wr.rowIs w.heap.size 3 n (fun i => .int .i64 (if i < c then numOf kp i else 0)) ∧
      wr.ownsRow (w.heap.size + 1) 3 1 kv (keptL kp c).length (ivals (keptL kp c)) ∧ ¬ kv = .slice none 0 0 ∧ Keeps (fun _ => False) w wr)
  case atStart =>
    refine ⟨0, by omega, rfl, ((World.rowIs_made _ _ _ _).alloc _).congr fun i _ => by simp, ?_, by simp, ((Keeps.refl _ _).alloc _).alloc _⟩
    have := World.ownsRow_made (base := w.heap.size + 1) (e := 3) (size := 1) (w.alloc (.cells (madeCells #[.int .i64 0] n) 3)) #[] 0 (by rw [nblk_alloc]; omega) (by unfold maxLen; omega) (by simp)
    rw [nblk_alloc] at this
    exact this
  case round =>
    obtain ⟨c, hc, rfl, hN, hO, hne, hK⟩ := hrel
    have HN := hid hN
    have HK := hid hK
    have HO := hid hO
    have hsz := hK.size
    have hszN : w.heap.size < wr.heap.size := hN.lt
    obtain ⟨g, cap, cur, rfl, hg⟩ := owns_shape hO hne
    have hg1 := (hO.lt g rfl).1
    by_cases hlt : c < n
    · have ck : wr.cell? ⟨kpb, c, none⟩ = some (.bool (kp c)) := (HKP.out.keeps hK (fun e => e)).cell hlt
      obtain ⟨v0, cn⟩ : ∃ v0, wr.cell? ⟨w.heap.size, c, none⟩ = some (.int .i64 v0) := ⟨_, hN.cell hlt⟩
      have fn : wr.frozen? ⟨w.heap.size, c, none⟩ = false := hN.frozen c
      have hkl := keptL_len kp c
      clear hN hK hO hne hg
      cases hr : kp c with
      | false =>
        rw [hr] at ck
        have HQ := hid hr
        clear hr
        go_wp2
        go_roundg (n - (c + 1))
        case measure => omega
        case rel =>
          refine ⟨c + 1, by omega, by go_num, (HN.out.set c (.int .i64 (-1))).congr fun i _ => ?_, ?_, by simp, HK.out.setCell _ _ (fun e => absurd e (Nat.lt_irrefl _))⟩
          · rw [← num_no HQ.out i]
            split <;> rfl
          · rw [keptL_no HQ.out]
            exact owns_block HO.out (blk_setCell_other _ _ _ _ (fun e => by simp at e; omega))
      | true =>
        rw [hr] at ck
        have HQ := hid hr
        clear hr
        have HO2 : Hid (((wr.setCell ⟨w.heap.size, c, none⟩ (.int .i64 (-1))).setCell ⟨w.heap.size, c, none⟩ (.int .i64 (keptL kp c).length)).ownsRow (w.heap.size + 1) 3 1 (.slice (some ⟨g, 0, none⟩) (keptL kp c).length cap) (keptL kp c).length (ivals (keptL kp c))) := by
          refine owns_block HO.out ?_
          rw [blk_setCell_other _ _ _ _ (fun e => by simp at e; omega), blk_setCell_other _ _ _ _ (fun e => by simp at e; omega)]
        go_wp2_with (at_builtin; (refine wpList_append_own' _ rfl (.tmp 59) (.tmp 61) 30 rfl (w.heap.size + 1) 3 i3 (.int .i64 0) 1 8 Ybad.underlying30 hi3 hy0 hy1 hy2 rfl (by decide) (.slice (some ⟨g, 0, none⟩) (keptL kp c).length cap) (keptL kp c).length (ivals (keptL kp c)) rfl (HO2.out.alloc _) ⟨wr.heap.size, 0, none⟩ 1 1 [.int .i64 c] rfl rfl ?qc1 (by simp [Value.oneCell']) (by unfold maxLen; omega) (by omega) (by simp; omega) ?_))
        case qc1 =>
          have h := one_new ((wr.setCell ⟨w.heap.size, c, none⟩ (.int .i64 (-1))).setCell ⟨w.heap.size, c, none⟩ (.int .i64 (keptL kp c).length)) (.int .i64 c) 3
          rw [nblk_setCell, nblk_setCell] at h
          exact h
        intro v' w1 hown hgrow hnl hnew
        obtain ⟨g', cap', cur', hv, hg'⟩ := owns_shape hown hnl
        rw [hv] at hown ⊢
        have HO1 := hid hown
        have HG := hid hgrow
        clear hown hgrow hnl hnew hv hg'
        go_wp2
        go_roundg (n - (c + 1))
        case measure => omega
        case rel =>
          have K0 : Keeps (fun k => k = g) ((wr.setCell ⟨w.heap.size, c, none⟩ (.int .i64 (-1))).setCell ⟨w.heap.size, c, none⟩ (.int .i64 (keptL kp c).length)) w1 := ((Keeps.refl _ _).alloc _).grown HG.out (fun k e _ => by simpa [Value.ownBlock] using e.symm)
          refine ⟨c + 1, by omega, by go_num, (K0.row ((HN.out.set c (.int .i64 (-1))).set c (.int .i64 (keptL kp c).length)) (fun e => by omega)).congr fun i _ => ?_, ?_, by simp, ?_⟩
          · rw [← num_yes HQ.out i]
            split
            · rfl
            · split <;> rfl
          · rw [keptL_yes HQ.out, ivals_snoc, List.length_append]
            exact HO1.out
          · exact ((HK.out.setCell _ _ (fun e => absurd e (Nat.lt_irrefl _))).setCell _ _ (fun e => absurd e (Nat.lt_irrefl _))).trans K0 (fun k hk e => by omega)
    · obtain rfl : c = n := by omega
      have hkl := keptL_len kp c
      have hN' := hN.congr (g := fun i => .int .i64 (numOf kp i)) (fun i hi => by simp [hi])
      have HN' := hid hN'
      obtain ⟨K, hKe⟩ : ∃ K, K = (keptL kp c).length := ⟨_, rfl⟩
      rw [← hKe] at hkl HO ⊢
      have HKe := hid hKe
      obtain ⟨W, hWe⟩ : ∃ W, W = (K + 63) / 64 := ⟨_, rfl⟩
      have eW : ((K : Int) + 63) / 64 = (W : Int) := by omega
      have hW1 : W ≤ 64 := by omega
      have hKW : K ≤ 64 * W := by omega
      have hKW2 : K * W ≤ 262144 := by
        have := Nat.mul_le_mul (show K ≤ 4096 from by omega) hW1
        omega
      have eKW : (K : Int) * (W : Int) = ((K * W : Nat) : Int) := by simp
      obtain ⟨nb, hnb⟩ : ∃ nb, nb = K * W := ⟨_, rfl⟩
      rw [← hnb] at hKW2 eKW
      have HWe := hid hWe
      have Hnb := hid hnb
      have hmkB := run_make_row' (P := Ybad.prog) 24 37 (.int .u64 0) 8 Ybad.underlying24 Ybad.info37 rfl .i64 .i64 nb (by omega) (by omega)
      clear hN hK hO hne hg hN' hKe hWe hnb hmkN
      obtain ⟨wa, rfl⟩ : ∃ wa : World, wa = wr := ⟨_, rfl⟩
      go_upto_block 2 with fail
      go_cut [27, 29] (fun s27 _ w2 => s27 = .int .i64 W ∧ w2.rowIs wa.heap.size 37 nb (fun j => .int .u64 (if j < bl then bt j else 0)) ∧ Keeps (fun _ => False) wa w2)
      case first =>
        go_wp2
        go_loopg [29] nb (fun g i wr => ∃ j : Nat, j + g = nb ∧ i = .int .i64 j ∧ j ≤ bl ∧ wr.rowIs wa.heap.size 37 nb (fun i => .int .u64 (if i < j then bt i else 0)) ∧ Keeps (fun _ => False) wa wr)
        case atStart => exact ⟨0, by omega, rfl, Nat.zero_le _, (World.rowIs_made _ _ _ _).congr fun i _ => by simp, (Keeps.refl _ _).alloc _⟩
        case round =>
          obtain ⟨j, hj, rfl, hjb, hR, hK1⟩ := hrel
          have HR := hid hR
          have HK1 := hid hK1
          by_cases hjn : j < nb
          · by_cases hjl : j < bl
            · obtain ⟨vb, vo, rfl, cb⟩ := ((HBT.out.keeps HK.out).keeps hK1).at' hjl
              obtain ⟨v0, cr⟩ : ∃ v0, wr.cell? ⟨wa.heap.size, j, none⟩ = some (.int .u64 v0) := ⟨_, hR.cell hjn⟩
              have fr : wr.frozen? ⟨wa.heap.size, j, none⟩ = false := hR.frozen j
              clear hR hK1
              go_wp2
              go_roundg (nb - (j + 1))
              case measure => omega
              case rel =>
                refine ⟨j + 1, by omega, by go_num, by omega, (HR.out.set j (.int .u64 (bt j))).congr fun i _ => ?_, HK1.out.setCell _ _ (fun e => absurd e (Nat.lt_irrefl _))⟩
                by_cases e : i = j
                · subst e; simp
                · have : (i < j + 1) = (i < j) := by simp; omega
                  simp [e, this]
            · clear hR hK1
              go_wp2
              go_meet
              case rel =>
                obtain rfl : j = bl := by omega
                exact ⟨(by first | rfl | rw [eW]), HR.out, HK1.out⟩
          · clear hR hK1
            go_wp2
            go_meet
            case rel =>
              obtain rfl : j = nb := by omega
              refine ⟨(by first | rfl | rw [eW]), HR.out.congr fun i hi => ?_, HK1.out⟩
              have : i < bl := by omega
              simp [hi, this]
      case rest =>
        obtain ⟨rfl, hRB, hKB⟩ := hcut
        clear eW eKW
        have HRB := hid hRB
        have HKB := hid (HK.out.trans hKB (fun _ _ e => e))
        have HKA := hid hKB
        clear hRB hKB hmkB
        obtain ⟨wb, rfl⟩ : ∃ wb : World, wb = wc := ⟨_, rfl⟩
        go_upto_if 91 with fail
        go_cut [30] (fun tv w2 => TrailIs w2 tv (if tr = true then some (trList td tl) else none) ∧ (∀ k, tv.ownBlock = some k → wb.heap.size ≤ k) ∧ Keeps (fun _ => False) wb w2)
        case first =>
          cases tr with
          | false =>
            go_wp2
            go_meet
            case rel => exact ⟨rfl, fun k hk => by simp [Value.ownBlock] at hk, Keeps.refl _ _⟩
          | true =>
            have hmkT := run_make2 (P := Ybad.prog) 38 50 (.int .i64 0) (.int .u64 0) 16 Ybad.underlying38 Ybad.info50 .i64 .i64 tl (by omega) (by omega)
            go_wp2
            go_loopg [31] tl (fun g i wr => ∃ j : Nat, j + g = tl ∧ i = .int .i64 j ∧ wr.rowIs wb.heap.size 50 (tl * 2) (fun i => if i < j * 2 then trCell td i else if i % 2 = 0 then .int .i64 0 else .int .u64 0) ∧ Keeps (fun _ => False) wb wr)
            case atStart => exact ⟨0, by omega, rfl, (rowIs_made2 _ _ _ _ _).congr fun i _ => by simp, (Keeps.refl _ _).alloc _⟩
            case round =>
              obtain ⟨j, hj, rfl, hR, hK1⟩ := hrel
              have HR := hid hR
              have HK1 := hid hK1
              by_cases hjl : j < tl
              · obtain ⟨vb, vo, rfl, cb⟩ := ((HTD.out.keeps HKB.out).keeps hK1).at' hjl
                obtain ⟨v0, cr⟩ : ∃ v0, wr.cell? ⟨wb.heap.size, j * 2, none⟩ = some v0 := ⟨_, hR.cell (by omega)⟩
                obtain ⟨v1, cr1⟩ : ∃ v0, wr.cell? ⟨wb.heap.size, j * 2 + 1, none⟩ = some v0 := ⟨_, hR.cell (by omega)⟩
                have fr : wr.frozen? ⟨wb.heap.size, j * 2, none⟩ = false := hR.frozen _
                have fr1 : wr.frozen? ⟨wb.heap.size, j * 2 + 1, none⟩ = false := hR.frozen _
                clear hR hK1
                go_wp2
                go_roundg (tl - (j + 1))
                case measure => omega
                case rel =>
                  refine ⟨j + 1, by omega, by go_num, ((HR.out.set (j * 2) (.int .i64 j)).set (j * 2 + 1) (.int .u64 (td j))).congr fun i _ => ?_, (HK1.out.setCell _ _ (fun e => absurd e (Nat.lt_irrefl _))).setCell _ _ (fun e => absurd e (Nat.lt_irrefl _))⟩
                  exact trStep td j i
              · clear hR hK1
                go_wp2
                go_meet
                case rel =>
                  obtain rfl : j = tl := by omega
                  refine ⟨⟨?_, by simp⟩, fun k hk => by simp [Value.ownBlock] at hk; omega, HK1.out⟩
                  have := row_owns (HR.out.congr (g := trCell td) fun i hi => by simp [hi]) (by unfold maxLen; omega)
                  rw [flat_trList]
                  simpa [trList] using this
        case rest =>
          obtain ⟨hTr, hTn, hKT⟩ := hcut
          have HTr := hid hTr
          have HTn := hid hTn
          have HKT := hid hKT
          clear hTr hTn hKT
          obtain ⟨wd, rfl⟩ : ∃ wd : World, wd = wc := ⟨_, rfl⟩
          have hmkF := run_make2 (P := Ybad.prog) 43 62 (.int .i64 0) (.int .i64 0) 16 Ybad.underlying43 Ybad.info62 .i64 .i64 nf (by omega) (by omega)
          go_upto_block 6 with fail
          go_cut [33] (fun _ w2 => w2.rowIs wd.heap.size 62 (nf * 2) (forcedAt c) ∧ Keeps (fun _ => False) wd w2)
          case first =>
            go_wp2
            go_loopg [33] nf (fun g i wr => ∃ j : Nat, j + g = nf ∧ i = .int .i64 j ∧ wr.rowIs wd.heap.size 62 (nf * 2) (fun i => if i < j * 2 then forcedAt c i else .int .i64 0) ∧ Keeps (fun _ => False) wd wr)
            case atStart => exact ⟨0, by omega, rfl, (rowIs_made2 _ _ _ _ _).congr fun i _ => by simp, (Keeps.refl _ _).alloc _⟩
            case round =>
              obtain ⟨j, hj, rfl, hR, hK1⟩ := hrel
              have HR := hid hR
              have HK1 := hid hK1
              by_cases hjl : j < nf
              · obtain ⟨v0, cr⟩ : ∃ v0, wr.cell? ⟨wd.heap.size, j * 2, none⟩ = some v0 := ⟨_, hR.cell (by omega)⟩
                obtain ⟨v1, cr1⟩ : ∃ v0, wr.cell? ⟨wd.heap.size, j * 2 + 1, none⟩ = some v0 := ⟨_, hR.cell (by omega)⟩
                have fr : wr.frozen? ⟨wd.heap.size, j * 2, none⟩ = false := hR.frozen _
                have fr1 : wr.frozen? ⟨wd.heap.size, j * 2 + 1, none⟩ = false := hR.frozen _
                clear hR hK1
                go_wp2
                go_region
                all_goals
                  go_wp2
                  go_roundg (nf - (j + 1))
                  case measure => omega
                  case rel =>
                    refine ⟨j + 1, by omega, by go_num, ((HR.out.set (j * 2) (.int .i64 ((j : Int) % (c : Int)))).set (j * 2 + 1) (.int .i64 (((j : Int) + 1) % (c : Int)))).drew.congr fun i _ => ?_, ((HK1.out.setCell _ _ (fun e => absurd e (Nat.lt_irrefl _))).setCell _ _ (fun e => absurd e (Nat.lt_irrefl _))).drew⟩
                    exact fcStep c j i
              · clear hR hK1
                go_wp2
                go_meet
                case rel =>
                  obtain rfl : j = nf := by omega
                  exact ⟨HR.out.congr fun i hi => by simp [hi], HK1.out⟩
          case rest =>
            obtain ⟨hFo, hKF⟩ := hcut
            have HFo := hid hFo
            have HKF := hid hKF
            clear hFo hKF hmkF
            obtain ⟨we, rfl⟩ : ∃ we : World, we = wc := ⟨_, rfl⟩
            go_upto_if 128 with fail
            go_cut [34] (fun ov w2 => OpenIs eo ov ∧ Keeps (fun _ => False) we w2)
            case first =>
              cases eo with
              | false =>
                go_wp2
                go_meet
                case rel => exact ⟨.inr ⟨rfl, rfl⟩, Keeps.refl _ _⟩
              | true =>
                go_wp2
                go_meet
                case rel => exact ⟨.inl ⟨rfl, _, _, rfl⟩, (Keeps.refl _ _).alloc _⟩
            case rest =>
              obtain ⟨hOp, hKO⟩ := hcut
              have HOp := hid hOp
              have HKO := hid hKO
              clear hOp hKO
              obtain ⟨wo, rfl⟩ : ∃ wo : World, wo = wc := ⟨_, rfl⟩
              have hmkS := run_make_row' (P := Ybad.prog) 44 30 (.slice none 0 0) 24 Ybad.underlying44 Ybad.info30 rfl .i64 .i64 c (by omega) (by omega)
              have HKw := hid ((((HKB.out.trans HKT.out (fun _ _ e => e)).trans HKF.out (fun _ _ e => e))).trans HKO.out (fun _ _ e => e))
              go_upto_block 8 with fail
              go_cut [36] (fun _ w2 => ∃ S C : Nat → Nat, w2.rowIs wo.heap.size 30 c (fun i => .slice (some ⟨S i, 0, none⟩) (sl i) (C i)) ∧ (∀ i, i < c → wo.heap.size < S i ∧ Rw w2 (S i) 3 (sl i) (fun k => .int .i64 (suc i k))) ∧ Keeps (fun _ => False) wo w2)
              case first =>
                go_wp2
                go_loopg [36] c (fun g i wr => ∃ (j : Nat) (S C : Nat → Nat), j + g = c ∧ i = .int .i64 j ∧ wr.rowIs wo.heap.size 30 c (fun i => if i < j then .slice (some ⟨S i, 0, none⟩) (sl i) (C i) else .slice none 0 0) ∧ (∀ i, i < j → wo.heap.size < S i ∧ Rw wr (S i) 3 (sl i) (fun k => .int .i64 (suc i k))) ∧ Keeps (fun _ => False) wo wr)
                case atStart => exact ⟨0, fun _ => 0, fun _ => 0, by omega, rfl, (World.rowIs_made _ _ _ _).congr fun i _ => by simp, fun i hi => absurd hi (Nat.not_lt_zero _), (Keeps.refl _ _).alloc _⟩
                case round =>
                  obtain ⟨j, S, C, hj, rfl, hR, hS, hK1⟩ := hrel
                  have HR := hid hR
                  have HS := hid hS
                  have HK1 := hid hK1
                  have hlR : wo.heap.size < wr.heap.size := hR.lt
                  by_cases hjl : j < c
                  · have kk := HKw.out.trans hK1 (fun _ _ e => e)
                    have cs : wr.cell? ⟨spb, j, none⟩ = some (.slice (some ⟨sa0 j, 0, none⟩) (sl j) (sc0 j)) := (HSC.out.keeps kk (fun e => e)).cell hjl
                    have HU := hid ((HSU.out j hjl).keeps kk (fun e => e))
                    have hslj := HSL.out j hjl
                    clear hR hS hK1 kk
                    go_wp2_with (go_at_call 12; refine (clone12_rw (sa0 j) (sl j) (sc0 j) _ _ HU.out (fun _ _ => rfl) (by omega)).mono ?_; rintro e w1 ⟨g1, cap1, rfl, hg1, hr1, hk1⟩; have cr : ∃ v0, w1.cell? ⟨wo.heap.size, j, none⟩ = some v0 := ⟨_, (hk1.row HR.out (fun e => e)).cell hjl⟩; have fr : w1.frozen? ⟨wo.heap.size, j, none⟩ = false := (hk1.row HR.out (fun e => e)).frozen j; obtain ⟨v0, cr⟩ := cr)
                    have HRn := hid hr1
                    have HKn := hid hk1
                    clear hr1 hk1
                    go_roundg (c - (j + 1))
                    case measure => omega
                    case rel =>
                      have k2 : Keeps (fun k => k = wo.heap.size) w1 (w1.setCell ⟨wo.heap.size, j, none⟩ (.slice (some ⟨g1, 0, none⟩) (sl j) cap1)) := (Keeps.refl _ _).setCell _ _ (fun _ => rfl)
                      refine ⟨j + 1, fun i => if i = j then g1 else S i, fun i => if i = j then cap1 else C i, by omega, by go_num, ((HKn.out.row HR.out (fun e => e)).set j (.slice (some ⟨g1, 0, none⟩) (sl j) cap1)).congr fun i _ => ?_, fun i hi => ?_, ((HK1.out.trans HKn.out (fun _ _ e => e)).setCell _ _ (fun e => absurd e (Nat.lt_irrefl _)))⟩
                      · by_cases e : i = j
                        · subst e; simp
                        · have : (i < j + 1) = (i < j) := by simp; omega
                          simp [e, this]
                      · by_cases e : i = j
                        · subst e
                          simp only [if_true]
                          exact ⟨by omega, HRn.out.keeps k2 (fun e => by omega)⟩
                        · simp only [if_neg e]
                          obtain ⟨h1', h2'⟩ := HS.out i (by omega)
                          exact ⟨h1', (h2'.keeps HKn.out (fun e => e)).keeps k2 (fun e => by omega)⟩
                  · clear hR hS hK1
                    go_wp2
                    go_meet
                    case rel =>
                      obtain rfl : j = c := by omega
                      exact ⟨S, C, HR.out.congr fun i hi => by simp [hi], HS.out, HK1.out⟩
              case rest =>
                obtain ⟨S, C, hSr, hSs, hKS⟩ := hcut
                have HSr := hid hSr
                have HSs := hid hSs
                have HKS := hid hKS
                clear hSr hSs hKS hmkS
                obtain ⟨oa, oc, hoa⟩ := open_shape HOp.out
                obtain ⟨xa, xl, xc, hxa⟩ : ∃ xa xl xc, u30 = Value.slice xa xl xc := by obtain ⟨a, c, h⟩ := trail_shape HTr.out; exact ⟨a, _, c, h⟩
                rw [hoa] at HOp ⊢
                rw [hxa] at HTr HTn ⊢
                have HKz := hid (HKw.out.trans HKS.out (fun _ _ e => e))
                clear hoa hxa
                go_wp2_with fail
                refine (clone11_rw ppb c c1 _ _ ((HPL.out.keeps HKz.out (fun e => e)).alloc _) (fun _ _ => rfl) (by omega)).mono ?_
                rintro e w1 ⟨g1, cap1, rfl, hg1, hr1, hk1⟩
                have HP1 := hid hr1
                have HK1 := hid hk1
                clear hr1 hk1
                have k1 := hid ((HKz.out.alloc _).trans HK1.out (fun _ _ e => e))
                go_wp2_with fail
                refine (clone12_rw wpb c c2 _ _ (HWT.out.keeps k1.out (fun e => e)) (fun _ _ => rfl) (by omega)).mono ?_
                rintro e w2 ⟨g2, cap2, rfl, hg2, hr2, hk2⟩
                have HP2 := hid hr2
                have HK2 := hid hk2
                clear hr2 hk2
                have k2 := hid (k1.out.trans HK2.out (fun _ _ e => e))
                go_wp2_with fail
                refine (clone12_rw mpb c c4 _ _ (HME.out.keeps k2.out (fun e => e)) (fun _ _ => rfl) (by omega)).mono ?_
                rintro e w3 ⟨g3, cap3, rfl, hg3, hr3, hk3⟩
                have HP3 := hid hr3
                have HK3 := hid hk3
                clear hr3 hk3
                have k3 := hid (k2.out.trans HK3.out (fun _ _ e => e))
                go_wp2_with fail
                refine (levels_any rpb c c5 rd _ (HRD.out.keeps k3.out (fun e => e)) h1 h2).mono ?_
                rintro e w4 ⟨lb, lcap, bs, rfl, hL, hk4, hlb, hbs⟩
                have HL := hid hL
                have HK4 := hid hk4
                have Hbs := hid hbs
                clear hL hk4 hbs
                go_wp2
                go_returns
                obtain ⟨h, ov, tv, hqb, r⟩ := build_fin (lcap := lcap) (cap1 := cap1) (cap2 := cap2) (cap3 := cap3) HK.out HN'.out HO.out HKA.out HRB.out HKT.out HTr.out HTn.out HKF.out HFo.out HKO.out HOp.out HKS.out HSr.out HSs.out HK1.out HP1.out (by simpa using hg1) HK2.out HP2.out hg2 HK3.out HP3.out hg3 HK4.out HL.out Hbs.out h1 h2 hnf HSL.out HMB.out HSB.out HKe.out HWe.out Hnb.out
                refine ⟨h, ov, tv, ?_, r⟩
                rw [← hqb]
                rfl
end Go.Proofs.YbulkebqyDoor
