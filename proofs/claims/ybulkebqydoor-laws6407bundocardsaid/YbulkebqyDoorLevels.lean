import Derived.Test.YbulkebqyDoorPlaceA
namespace Go.Proofs.YbulkebqyDoor
open Go.RowKit Go.Deep

/-- Words into which bit c is laid for each c that p takes. -/
def orSt (p : Nat → Bool) : Nat → Nat → Int
  | 0 => fun _ => 0
  | c + 1 => if p c = true then setB (orSt p c) (c / 64) (orr (orSt p c (c / 64)) (bit1 (c % 64))) else orSt p c

def nlOf (n : Nat) : Nat := if n ≤ 64 then 1 else 2
def ssOf (n : Nat) : Nat → Nat := fun i => if i = 0 then (n + 63) / 64 else 1
def levW (n : Nat) (rd : Nat → Bool) : Nat → Nat → Int := fun l => if l = 0 then orSt rd n else orSt (fun j => orSt rd n j != 0) ((n + 63) / 64)

structure LevIs (w : World) (lb nl : Nat) (bs ss : Nat → Nat) (W : Nat → Nat → Int) : Prop where
  lev : Rw w lb 24 nl (fun i => .slice (some ⟨bs i, 0, none⟩) (ss i) (ss i))
  row : ∀ i, i < nl → w.rowIs (bs i) 37 (ss i) (fun j => .int .u64 (W i j))
  inj : ∀ i j, i < nl → j < nl → bs i = bs j → i = j

theorem Ybad.info24 : (Ybad.prog.info? 24).map (fun i => (i.zero, i.size, i.bytes)) = some (some (.slice none 0 0), 1, 24) := by kernel_rfl

theorem one_new (w : World) (a : Value) (t : TypeId) : ∀ j u, ([a] : List Value)[j]? = some u → (w.alloc (.cells #[a] t)).cell? ((⟨w.heap.size, 0, none⟩ : Addr).add j) = some u := by
  intro j u h
  match j, h with
  | 0, h => simp at h; subst h; simp [Addr.add]

set_option maxHeartbeats 1000000 in
theorem levels_any (ib n cap : Nat) (rd : Nat → Bool) (w : World) (hi : Rw w ib 4 n (fun i => .bool (rd i))) (h1 : 1 ≤ n) (h2 : n ≤ 4096) :
    Calls Ybad.prog 14 #[.slice (some ⟨ib, 0, none⟩) n cap] w fun e w' => ∃ lb lcap bs, e = .returned (.slice (some ⟨lb, 0, none⟩) (nlOf n) lcap) ∧
      LevIs w' lb (nlOf n) bs (ssOf n) (levW n rd) ∧ Keeps (fun _ => False) w w' ∧ w.heap.size ≤ lb ∧ (∀ i, i < nlOf n → w.heap.size ≤ bs i) := by
  obtain ⟨sz, hsz⟩ : ∃ sz, sz = (n + 63) / 64 := ⟨_, rfl⟩
  have esz : ((n : Int) + 63) / 64 = (sz : Int) := by omega
  have hs1 : 1 ≤ sz := by omega
  have hs2 : sz ≤ 64 := by omega
  have hs3 : n ≤ 64 * sz := by omega
  have hmk := run_make_row' (P := Ybad.prog) 24 37 (.int .u64 0) 8 Ybad.underlying24 Ybad.info37 rfl .i64 .i64 sz (by omega) (by omega)
  have hz : ((sz : Int) == 0) = false := by simp; omega
  have HI := hid hi
  have Hsz := hid hsz
  clear hi hsz
  go_enter Ybad.func14, Ybad.ntmps14
  go_wp2
  go_loopg [6] n (fun g i wr => ∃ c : Nat, c + g = n ∧ i = .int .i64 c ∧ wr.rowIs w.heap.size 37 sz (fun i => .int .u64 (orSt rd c i)) ∧ wr.heap[w.heap.size + 1]? = some (.cells #[.slice (some ⟨w.heap.size, 0, none⟩) sz sz] 24 (0, 0)) ∧ Keeps (fun _ => False) w wr)
  case atStart =>
    refine ⟨0, by omega, rfl, ((World.rowIs_made _ _ _ _).alloc _).congr fun i _ => rfl, ?_, ((Keeps.refl _ _).alloc _).alloc _⟩
    have := blk_alloc_new (w.alloc (.cells (madeCells #[.int .u64 0] sz) 37)) (.cells #[.slice (some ⟨w.heap.size, 0, none⟩) sz sz] 24)
    rw [nblk_alloc] at this
    exact this
  case round =>
    obtain ⟨c, hc, rfl, hR, hL, hK⟩ := hrel
    have HR := hid hR
    have HL := hid hL
    have HK := hid hK
    by_cases hlt : c < n
    · have ci : wr.cell? ⟨ib, c, none⟩ = some (.bool (rd c)) := (HI.out.keeps hK (fun e => e)).cell hlt
      have cl : wr.cell? ⟨w.heap.size + 1, 0, none⟩ = some (.slice (some ⟨w.heap.size, 0, none⟩) sz sz) := by rw [cell_of_blk hL]; rfl
      have hc64 : c / 64 < sz := by omega
      have cr : wr.cell? ⟨w.heap.size, c / 64, none⟩ = some (.int .u64 (orSt rd c (c / 64))) := hR.cell hc64
      have fr : wr.frozen? ⟨w.heap.size, c / 64, none⟩ = false := hR.frozen _
      clear hR hL hK
      cases hr : rd c with
      | false =>
        rw [hr] at ci
        have HQ := hid hr
        clear hr
        go_wp2
        go_roundg (n - (c + 1))
        case measure => omega
        case rel =>
          refine ⟨c + 1, by omega, by go_num, HR.out.congr fun i _ => ?_, HL.out, HK.out⟩
          simp [orSt, HQ.out]
      | true =>
        rw [hr] at ci
        have HQ := hid hr
        clear hr
        go_wp2
        go_region
        all_goals
          go_wp2
          go_roundg (n - (c + 1))
          case measure => omega
          case rel =>
            refine ⟨c + 1, by omega, by go_num, (HR.out.set _ _).drew.congr fun i _ => ?_, ?_, (HK.out.setCell _ _ (fun e => absurd e (Nat.lt_irrefl _))).drew⟩
            · simp only [orSt, if_pos HQ.out, setB]
              split <;> rfl
            · exact (blk_setCell_other _ _ _ _ (Nat.succ_ne_self _)).trans HL.out
    · obtain rfl : c = n := by omega
      clear hR hL hK
      by_cases hn : c ≤ 64
      · have hsz1 : sz = 1 := by have := Hsz.out; omega
        subst hsz1
        go_wp2
        go_rounds 1
        go_returns
        have e1 : nlOf c = 1 := if_pos hn
        have e4 : (c + 63) / 64 = 1 := Hsz.out.symm
        rw [e1]
        refine ⟨w.heap.size + 1, 1, fun _ => w.heap.size, rfl, ⟨⟨_, HL.out, fun i hi => ?_⟩, fun i hi => ?_, fun i j hi hj _ => by omega⟩, HK.out, by omega, fun i _ => Nat.le_refl _⟩
        · obtain rfl : i = 0 := by omega
          simp [ssOf, e4]
        · obtain rfl : i = 0 := by omega
          simp only [ssOf, if_true, e4]
          exact HR.out
      · have hsz1 : 1 < sz := by have := Hsz.out; omega
        have cl : wr.cell? ⟨w.heap.size + 1, 0, none⟩ = some (.slice (some ⟨w.heap.size, 0, none⟩) sz sz) := by rw [cell_of_blk HL.out]; rfl
        have e2 : (((c : Int) + 63) / 64 + 63) / 64 = 1 := by omega
        have e3 : ((sz : Int) + 63) / 64 = 1 := by omega
        have hmk1 : ∀ w : World, (Instr.makeSlice 24 (.int .i64 1) (.int .i64 1)).run Ybad.prog w = .ok (.slice (some ⟨w.heap.size, 0, none⟩) 1 1) (w.alloc (.cells (madeCells #[.int .u64 0] 1) 37)) :=
          run_make_row' (P := Ybad.prog) 24 37 (.int .u64 0) 8 Ybad.underlying24 Ybad.info37 rfl .i64 .i64 1 (by omega) (by omega)
        go_wp2
        refine wp_loop_rounds 2 ?_
        rw [rounds_succ]
        go_wp2
        obtain ⟨wo, rfl⟩ : ∃ wo : World, wo = wr := ⟨_, rfl⟩
        have hwo := HK.out.size
        have hwo1 := lt_of_blk HL.out
        go_loopg [9] sz (fun g i wi => ∃ j : Nat, j + g = sz ∧ i = .int .i64 j ∧ wi.rowIs wo.heap.size 37 1 (fun i => .int .u64 (orSt (fun j => orSt rd c j != 0) j i)) ∧ Keeps (fun _ => False) wo wi)
        case atStart => exact ⟨0, by omega, rfl, (World.rowIs_made _ _ _ _).congr fun i _ => rfl, (Keeps.refl _ _).alloc _⟩
        case round =>
          obtain ⟨j, hj, rfl, hR1, hK1⟩ := hrel
          have HR1 := hid hR1
          have HK1 := hid hK1
          by_cases hjl : j < sz
          · have cb : wr.cell? ⟨w.heap.size, j, none⟩ = some (.int .u64 (orSt rd c j)) := (hK1.row HR.out (fun e => e)).cell hjl
            have hj64 : j / 64 < 1 := by omega
            have cr : wr.cell? ⟨wo.heap.size, j / 64, none⟩ = some (.int .u64 (orSt (fun j => orSt rd c j != 0) j (j / 64))) := hR1.cell hj64
            have fr : wr.frozen? ⟨wo.heap.size, j / 64, none⟩ = false := hR1.frozen _
            clear hR1 hK1
            by_cases hq : orSt rd c j = 0
            · have hb : (orSt rd c j != 0) = false := by simp [hq]
              have HQ := hid hb
              clear hq
              go_wp2
              go_roundg (sz - (j + 1))
              case measure => omega
              case rel =>
                refine ⟨j + 1, by omega, by go_num, HR1.out.congr fun i _ => ?_, HK1.out⟩
                simp [orSt, HQ.out]
            · have hb : (orSt rd c j != 0) = true := by simp [hq]
              have HQ := hid hb
              clear hq
              go_wp2
              go_region
              all_goals
                go_wp2
                go_roundg (sz - (j + 1))
                case measure => omega
                case rel =>
                  refine ⟨j + 1, by omega, by go_num, (HR1.out.set _ _).drew.congr fun i _ => ?_, (HK1.out.setCell _ _ (fun e => absurd e (Nat.lt_irrefl _))).drew⟩
                  simp only [orSt, if_pos HQ.out, setB]
                  split <;> rfl
          · obtain rfl : j = sz := by omega
            clear hR1 hK1
            obtain ⟨i0, hi0, hz0, hz1, hz2⟩ := info_parts Ybad.info24
            have HL1 := hid (HK1.out.at' HL.out (fun e => e))
            have hown : wr.ownsRow w.heap.size 24 1 (.slice (some ⟨w.heap.size + 1, 0, none⟩) 1 1) 1 [.slice (some ⟨w.heap.size, 0, none⟩) j j] :=
              ⟨rfl, .inr ⟨w.heap.size + 1, 1, _, rfl, by omega, HL1.out, by omega, by unfold maxLen; omega, rfl, rfl⟩⟩
            have HO := hid hown
            have hwr := HK1.out.size
            clear hown
            go_wp2_with (at_builtin; refine wpList_append_own' _ rfl (.tmp 75) (.tmp 77) 63 rfl w.heap.size 24 i0 (.slice none 0 0) 1 24 Ybad.underlying63 hi0 hz0 hz1 hz2 rfl (by decide) (.slice (some ⟨w.heap.size + 1, 0, none⟩) 1 1) 1 _ rfl (HO.out.alloc _) ⟨wr.heap.size, 0, none⟩ 1 1 [.slice (some ⟨wo.heap.size, 0, none⟩) 1 1] rfl rfl (one_new _ _ _) (by simp [Value.oneCell']) (by unfold maxLen; omega) (by omega) (by simp; omega) ?_)
            intro v' w1 hown hgrow hnl hnew
            obtain ⟨g, cap', cur, hv, hg⟩ := owns_shape hown hnl
            rw [hv] at hown ⊢
            have HO1 := hid hown
            have HG := hid hgrow
            clear hown hgrow hnl hnew hv hg cl e2 e3 hmk1 hmk esz
            go_wp2
            rw [rounds_succ]
            go_wp2
            go_returns
            have e1 : nlOf c = 2 := if_neg hn
            have e4 : (c + 63) / 64 = j := Hsz.out.symm
            have K0 : Keeps (fun k => k = w.heap.size + 1) wr w1 := ((Keeps.refl _ _).alloc _).grown HG.out (fun k e _ => by simp [Value.ownBlock] at e; omega)
            rw [e1]
            refine ⟨g, cap', fun i => if i = 0 then w.heap.size else wo.heap.size, rfl, ⟨(owns_rw HO1.out).congr fun i hi => ?_, fun i hi => ?_, fun i j hi hj e => ?_⟩, ?_, (HO1.out.lt g rfl).1, fun i _ => ?_⟩
            · match i, hi with
              | 0, _ => simp [ssOf, e4]
              | 1, _ => simp [ssOf]
            · match i, hi with
              | 0, _ =>
                simp only [ssOf, if_true, e4, levW]
                exact K0.row (HK1.out.row HR.out (fun e => e)) (Nat.ne_of_lt (Nat.lt_succ_self _))
              | 1, _ =>
                simp only [ssOf, levW, e4]
                exact K0.row HR1.out (fun e => by simp at e; omega)
            · match i, j, hi, hj with
              | 0, 0, _, _ => rfl
              | 0, 1, _, _ => simp at e; omega
              | 1, 0, _, _ => simp at e; omega
              | 1, 1, _, _ => rfl
            · exact (HK.out.trans HK1.out (fun _ _ e => e)).trans K0 (fun k hk e => by omega)
            · show w.heap.size ≤ if i = 0 then w.heap.size else wo.heap.size
              split <;> omega
end Go.Proofs.YbulkebqyDoor
