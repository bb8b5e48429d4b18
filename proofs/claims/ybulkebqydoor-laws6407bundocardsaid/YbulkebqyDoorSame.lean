import Derived.Test.YbulkebqyDoorBuildA
import Derived.Deep.CutBlock
import Derived.Deep.DeepCutAuto
namespace Go.Proofs.YbulkebqyDoor
open Go.RowKit Go.Deep

theorem flat_at (l : List (Int × Int)) : ∀ i, i < l.length → (flat l)[i * 2]? = some (.int .i64 (l.getD i (0, 0)).1) ∧ (flat l)[i * 2 + 1]? = some (.int .u64 (l.getD i (0, 0)).2) := by
  induction l with
  | nil => intro i hi; simp at hi
  | cons p l ih =>
    intro i hi
    have e : flat (p :: l) = .int .i64 p.1 :: .int .u64 p.2 :: flat l := by simp [flat]
    rw [e]
    match i with
    | 0 => simp
    | i + 1 =>
      have := ih i (by simpa using hi)
      simpa [show (i + 1) * 2 = i * 2 + 1 + 1 from by omega] using this

theorem trail_cells {w : World} {tv : Value} {l : List (Int × Int)} (h : TrailIs w tv (some l)) : ∃ g cap, tv = .slice (some ⟨g, 0, none⟩) l.length cap ∧
    ∀ i, i < l.length → w.cell? ⟨g, i * 2, none⟩ = some (.int .i64 (l.getD i (0, 0)).1) ∧ w.cell? ⟨g, i * 2 + 1, none⟩ = some (.int .u64 (l.getD i (0, 0)).2) := by
  obtain ⟨ho, hne⟩ := h
  obtain ⟨g, cap, cur, rfl, hg⟩ := owns_shape ho hne
  refine ⟨g, cap, rfl, fun i hi => ?_⟩
  obtain ⟨h1, h2⟩ := flat_at l i hi
  have c1 := ho.cells (g := g) rfl _ _ h1
  have c2 := ho.cells (g := g) rfl _ _ h2
  rw [WideShapes.add_plain, Nat.zero_add] at c1 c2
  exact ⟨c1, c2⟩

theorem equal25_trail (tv tv2 : Value) (T : Option (List (Int × Int))) (w : World) (h : TrailIs w tv T) (h2 : TrailIs w tv2 T) (hn : trailLen T ≤ 100000000) :
    Calls Ybad.prog 25 #[tv, tv2] w fun e w' => e = .returned (.bool true) ∧ ∃ k, w' = w.drewN k := by
  cases T with
  | none =>
    obtain rfl : tv = .slice none 0 0 := h
    obtain rfl : tv2 = .slice none 0 0 := h2
    exact equal25_none none none 0 0 w
  | some l =>
    obtain ⟨g, cap, rfl, hc⟩ := trail_cells h
    obtain ⟨g2, cap2, rfl, hc2⟩ := trail_cells h2
    exact equal25_row g g2 l.length cap cap2 (fun i => (l.getD i (0, 0)).1) (fun i => (l.getD i (0, 0)).2) w hc hc2 hn

theorem trail_nil {w : World} {tv : Value} {T : Option (List (Int × Int))} (h : TrailIs w tv T) : ∃ a n c, tv = .slice a n c ∧ a.isNone = !T.isSome := by
  cases T with
  | none => exact ⟨none, 0, 0, h, rfl⟩
  | some l => obtain ⟨g, cap, rfl, hc⟩ := trail_cells h; exact ⟨_, _, _, rfl, rfl⟩

/-- Draws alone. -/
theorem keeps_drewN (w : World) (n : Nat) : Keeps (fun _ => False) w (w.drewN n) := (Keeps.refl _ _).drewN n

set_option maxRecDepth 100000 in
set_option maxHeartbeats 2000000 in
theorem state_any (h : Sh) (d : Dt) (eo : Bool) (ov tv : Value) (ppb wpb spb mpb rpb bpb c1 c2 c3 c4 c5 c6 : Nat) (tv2 : Value) (sa2 sc2 : Nat → Nat) (rd : Nat → Bool) (trd : Bool) (w : World)
    (st : StIs h d eo ov tv w) (ok : Ok h d)
    (hp : Rw w ppb 4 h.n (fun i => .bool (d.pl i))) (hw : Rw w wpb 3 h.n (fun i => .int .i64 (d.wt i))) (hm : Rw w mpb 3 h.n (fun i => .int .i64 (d.mem i)))
    (hs : Rw w spb 30 h.n (fun i => .slice (some ⟨sa2 i, 0, none⟩) (h.sl i) (sc2 i))) (hsu : ∀ i, i < h.n → Rw w (sa2 i) 3 (h.sl i) (fun j => .int .i64 (d.suc i j)))
    (hr : Rw w rpb 4 h.n (fun i => .bool (rd i))) (hb : Rw w bpb 37 h.nb (fun i => .int .u64 (d.B i))) (ht : TrailIs w tv2 d.T) (htr : trd = d.T.isSome) (hT : trailLen d.T ≤ 4000000)
    (hnl : h.nl = nlOf h.n) (hss : h.ss = ssOf h.n) (hlev : ∀ l j, l < h.nl → j < h.ss l → d.Wd l j = levW h.n rd l j) :
    Calls Ybad.prog 10 #[.pointer (some ⟨h.qb, 0, none⟩), .slice (some ⟨ppb, 0, none⟩) h.n c1, .slice (some ⟨wpb, 0, none⟩) h.n c2, .slice (some ⟨spb, 0, none⟩) h.n c3, .slice (some ⟨mpb, 0, none⟩) h.n c4, .slice (some ⟨rpb, 0, none⟩) h.n c5, .slice (some ⟨bpb, 0, none⟩) h.nb c6, tv2, .bool trd, .int .i64 h.nf] w fun e w' =>
      e = .returned (.bool true) ∧ Keeps (fun _ => False) w w' := by
  have c0 : w.cell? ⟨h.qb, 0, none⟩ = some (.pointer (some ⟨h.pb, 0, none⟩)) := by rw [cell_of_blk st.blk]; rfl
  have q2 : w.cell? ⟨h.qb, 2, none⟩ = some (.slice (some ⟨h.plb, 0, none⟩) h.n h.pcap) := by rw [cell_of_blk st.blk]; rfl
  have q3 : w.cell? ⟨h.qb, 3, none⟩ = some (.slice (some ⟨h.fb, 0, none⟩) h.nf h.nf) := by rw [cell_of_blk st.blk]; rfl
  have q4 : w.cell? ⟨h.qb, 4, none⟩ = some (.slice (some ⟨h.scb, 0, none⟩) h.n h.sccap) := by rw [cell_of_blk st.blk]; rfl
  have q5 : w.cell? ⟨h.qb, 5, none⟩ = some (.slice (some ⟨h.wb, 0, none⟩) h.n h.wcap) := by rw [cell_of_blk st.blk]; rfl
  have q6 : w.cell? ⟨h.qb, 6, none⟩ = some (.slice (some ⟨h.mb, 0, none⟩) h.n h.mcap) := by rw [cell_of_blk st.blk]; rfl
  have p3 : w.cell? ⟨h.pb, 3, none⟩ = some (.slice (some ⟨h.bb, 0, none⟩) h.nb h.nb) := by rw [cell_of_blk st.prec.blk]; rfl
  have p4 : w.cell? ⟨h.pb, 4, none⟩ = some tv := by rw [cell_of_blk st.prec.blk]; rfl
  obtain ⟨xa, xl, xc, rfl, hxa⟩ := trail_nil st.prec.trail
  have hnil := fun (w : World) => Lib.run_eql_slice_nil (P := Ybad.prog) w 38 50 xa xl xc 0 0 Ybad.underlying38
  have htb : (xa.isNone == trd) = false := by rw [hxa, htr]; cases d.T.isSome <;> rfl
  have n2 := ok.n2
  have hnb : h.nb ≤ 262144 := by
    have := Nat.mul_le_mul ok.K2 ok.W1
    rw [ok.nbe]; omega
  have hnf := ok.nf1
  have HS := hid st
  have HP := hid hp
  have HW := hid hw
  have HM := hid hm
  have HSC := hid hs
  have HSU := hid hsu
  have HR := hid hr
  have HB := hid hb
  have HT := hid ht
  have HLE := hid hlev
  clear st hp hw hm hs hsu hr hb ht hlev htr hxa
  go_enter Ybad.func10, Ybad.ntmps10
  go_wp2_with fail
  refine (equal22_row h.plb ppb h.n _ _ d.pl _ ?_ ?_ (by omega)).mono ?_
  · exact fun i hi => HS.out.plac.cell hi
  · exact fun i hi => HP.out.cell hi
  rintro e w1 ⟨rfl, k1, rfl⟩
  go_wp2_with fail
  refine (equal23_row h.wb wpb h.n _ _ d.wt _ ?_ ?_ (by omega)).mono ?_
  · exact fun i hi => HS.out.wait.cell hi
  · exact fun i hi => HW.out.cell hi
  rintro e w1 ⟨rfl, k2, rfl⟩
  go_wp2_with fail
  refine (equal23_row h.mb mpb h.n _ _ (fun i => (d.mem i : Int)) _ ?_ ?_ (by omega)).mono ?_
  · exact fun i hi => HS.out.mems.cell hi
  · exact fun i hi => HM.out.cell hi
  rintro e w1 ⟨rfl, k3, rfl⟩
  go_wp2_with fail
  refine (equal24_row h.bb bpb h.nb _ _ d.B _ ?_ ?_ (by omega)).mono ?_
  · exact fun i hi => HS.out.prec.row.cell hi
  · exact fun i hi => HB.out.cell hi
  rintro e w1 ⟨rfl, k4, rfl⟩
  go_wp2_with fail
  refine (equal25_trail _ _ d.T _ ?_ ?_ (by omega)).mono ?_
  · exact trailIs_keeps HS.out.prec.trail (keeps_drewN _ _) (fun _ _ e => e)
  · exact trailIs_keeps HT.out (keeps_drewN _ _) (fun _ _ e => e)
  rintro e w1 ⟨rfl, k5, rfl⟩
  go_wp2_with fail
  clear c0 q2 q3 q4 q5 q6 p3 p4 hnil
  go_loopg [22] h.n (fun g i wr => ∃ c : Nat, c + g = h.n ∧ i = .int .i64 c ∧ Keeps (fun _ => False) w wr)
  case atStart => exact ⟨0, by omega, rfl, keeps_drewN _ _⟩
  case round =>
    obtain ⟨c, hc, rfl, hK⟩ := hrel
    have HK := hid hK
    have st := HS.out.keep0 hK
    by_cases hlt : c < h.n
    · have q4 : wr.cell? ⟨h.qb, 4, none⟩ = some (.slice (some ⟨h.scb, 0, none⟩) h.n h.sccap) := by rw [cell_of_blk st.blk]; rfl
      have s1 : wr.cell? ⟨h.scb, c, none⟩ = some (.slice (some ⟨h.sa c, 0, none⟩) (h.sl c) (h.sc c)) := st.succ.cell hlt
      have s2 : wr.cell? ⟨spb, c, none⟩ = some (.slice (some ⟨sa2 c, 0, none⟩) (h.sl c) (sc2 c)) := (HSC.out.keeps hK (fun e => e)).cell hlt
      have hsl := ok.sl1 c hlt
      have HE := hid (fun m => equal23_row (h.sa c) (sa2 c) (h.sl c) (h.sc c) (sc2 c) (fun j => (d.suc c j : Int)) (wr.drewN m) (fun i hi => (st.sucs c hlt).cell hi) (fun i hi => ((HSU.out c hlt).keeps hK (fun e => e)).cell hi) (by omega))
      clear hK st
      go_wp2
      go_quiet ((go_at_call 23; exact Calls.quiet_of (HE.out _)))
      go_wp2
      go_roundg (h.n - (c + 1))
      case measure => omega
      case rel => exact ⟨c + 1, by omega, by go_num, HK.out.drewN _⟩
    · have q3 : wr.cell? ⟨h.qb, 3, none⟩ = some (.slice (some ⟨h.fb, 0, none⟩) h.nf h.nf) := by rw [cell_of_blk st.blk]; rfl
      clear hK st
      obtain ⟨wa, rfl⟩ : ∃ wa : World, wa = wr := ⟨_, rfl⟩
      go_wp2_with fail
      clear q3
      go_loopg [23] h.nf (fun g i wr => ∃ j : Nat, j + g = h.nf ∧ i = .int .i64 j ∧ Keeps (fun _ => False) w wr)
      case atStart => exact ⟨0, by omega, rfl, HK.out⟩
      case round =>
        obtain ⟨j, hj, rfl, hK⟩ := hrel
        have HK1 := hid hK
        have st := HS.out.keep0 hK
        by_cases hjl : j < h.nf
        · have q3 : wr.cell? ⟨h.qb, 3, none⟩ = some (.slice (some ⟨h.fb, 0, none⟩) h.nf h.nf) := by rw [cell_of_blk st.blk]; rfl
          have a0 : wr.cell? ⟨h.fb, j * 2, none⟩ = some (.int .i64 ((j : Int) % (h.n : Int))) := by
            rw [st.forc.cell (by omega)]; simp [forcedAt]
          have a1 : wr.cell? ⟨h.fb, j * 2 + 1, none⟩ = some (.int .i64 (((j : Int) + 1) % (h.n : Int))) := by
            rw [st.forc.cell (by omega)]
            have h1 : (j * 2 + 1) % 2 = 1 := by omega
            have h2 : (j * 2 + 1) / 2 = j := by omega
            simp [forcedAt, h1, h2]
          have n1 := ok.n1
          have hx : ((j : Int) % (h.n : Int) == (j : Int) % (h.n : Int)) = true := by simp
          have hy : (((j : Int) + 1) % (h.n : Int) == ((j : Int) + 1) % (h.n : Int)) = true := by simp
          clear hK st
          go_wp2
          go_quiet (fail)
          go_wp2
          go_roundg (h.nf - (j + 1))
          case measure => omega
          case rel => exact ⟨j + 1, by omega, by go_num, HK1.out.drewN _⟩
        · clear hK st
          go_wp2_with fail
          refine (levels_any rpb h.n c5 rd _ (HR.out.keeps HK1.out (fun e => e)) ok.n1 ok.n2).mono ?_
          rintro e w1 ⟨lb2, lcap2, bs2, rfl, hL, hk, _, _⟩
          have HL := hid hL
          have HK2 := hid (tr0 HK1.out hk)
          have st2 := HS.out.keep0 HK2.out
          have q7 : w1.cell? ⟨h.qb, 7, none⟩ = some (.pointer (some ⟨h.sb, 0, none⟩)) := by rw [cell_of_blk st2.blk]; rfl
          have s0 : w1.cell? ⟨h.sb, 0, none⟩ = some (.slice (some ⟨h.lb, 0, none⟩) (nlOf h.n) h.lcap) := by rw [cell_of_blk st2.txn.blk, hnl]; rfl
          have hnn : nlOf h.n ≤ 10 := by rw [← hnl]; exact ok.nl1
          have Hnl := hid hnl
          clear hL hk st2 hnl
          go_wp2
          clear q7 s0
          go_loopg [25] (nlOf h.n) (fun g i wr => ∃ l : Nat, l + g = nlOf h.n ∧ i = .int .i64 l ∧ Keeps (fun _ => False) w1 wr)
          case atStart => exact ⟨0, by omega, rfl, Keeps.refl _ _⟩
          case round =>
            obtain ⟨l, hl, rfl, hK3⟩ := hrel
            have HK3 := hid hK3
            by_cases hll : l < nlOf h.n
            · have st3 := HS.out.keep0 (tr0 HK2.out hK3)
              have hll' : l < h.nl := by rw [Hnl.out]; exact hll
              have q7 : wr.cell? ⟨h.qb, 7, none⟩ = some (.pointer (some ⟨h.sb, 0, none⟩)) := by rw [cell_of_blk st3.blk]; rfl
              have s0 : wr.cell? ⟨h.sb, 0, none⟩ = some (.slice (some ⟨h.lb, 0, none⟩) (nlOf h.n) h.lcap) := by rw [cell_of_blk st3.txn.blk, Hnl.out]; rfl
              have l1 : wr.cell? ⟨h.lb, l, none⟩ = some (.slice (some ⟨h.bs l, 0, none⟩) (ssOf h.n l) (ssOf h.n l)) := by rw [st3.txn.lev.cell hll', hss]
              have l2 : wr.cell? ⟨lb2, l, none⟩ = some (.slice (some ⟨bs2 l, 0, none⟩) (ssOf h.n l) (ssOf h.n l)) := (HL.out.lev.keeps hK3 (fun e => e)).cell hll
              have hsl : ssOf h.n l ≤ 100 := by unfold ssOf; have := ok.n2; split <;> omega
              have HE := hid (fun m => equal24_row (h.bs l) (bs2 l) (ssOf h.n l) (ssOf h.n l) (ssOf h.n l) (fun j => levW h.n rd l j) (wr.drewN m)
                (fun i hi => ((st3.txn.row l hll').cell (by rw [hss]; exact hi)).trans (by rw [HLE.out l i hll' (by rw [hss]; exact hi)])) (fun i hi => (hK3.row (HL.out.row l hll) (fun e => e)).cell hi) (by omega))
              clear hK3 st3
              go_wp2
              go_quiet ((go_at_call 24; exact Calls.quiet_of (HE.out _)))
              go_wp2
              go_roundg (nlOf h.n - (l + 1))
              case measure => omega
              case rel => exact ⟨l + 1, by omega, by go_num, HK3.out.drewN _⟩
            · clear hK3
              go_wp2
              go_returns
              exact ⟨rfl, tr0 HK2.out HK3.out⟩
end Go.Proofs.YbulkebqyDoor
