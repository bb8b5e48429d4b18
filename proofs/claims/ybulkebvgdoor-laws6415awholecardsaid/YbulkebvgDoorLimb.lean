import Derived.Test.YbulkebvgDoorSub
namespace Go.Proofs.YbulkebvgDoor
open Go.RowKit Go.Deep

/-- The borrow into limb c. -/
def bw (A B : Nat → Int) : Nat → Int
  | 0 => 0
  | c + 1 => bor (A c) (B c) (bw A B c)
theorem bw_01 (A B : Nat → Int) (c : Nat) : 0 ≤ bw A B c ∧ bw A B c ≤ 1 := by
  cases c with
  | zero => simp [bw]
  | succ c => rcases bor_01 (A c) (B c) (bw A B c) with h | h <;> simp [bw, h]

def arr9 (A : Nat → Int) : Array Value := #[.int .u64 (A 0), .int .u64 (A 1), .int .u64 (A 2), .int .u64 (A 3), .int .u64 (A 4), .int .u64 (A 5), .int .u64 (A 6), .int .u64 (A 7), .int .u64 (A 8)]
theorem arr9_at (A : Nat → Int) : ∀ i, i < 9 → (arr9 A)[i]? = some (.int .u64 (A i)) := by
  intro i hi
  match i, hi with
  | 0, _ => rfl
  | 1, _ => rfl
  | 2, _ => rfl
  | 3, _ => rfl
  | 4, _ => rfl
  | 5, _ => rfl
  | 6, _ => rfl
  | 7, _ => rfl
  | 8, _ => rfl
theorem row_arr9 (w : World) (A : Nat → Int) (t : TypeId) : (w.alloc (.cells (arr9 A) t)).rowIs w.heap.size t 9 (fun i => .int .u64 (A i)) := ⟨_, blk_alloc_new _ _, rfl, arr9_at A⟩
theorem arr9_of {w : World} {b : Nat} {t : TypeId} {A : Nat → Int} (h : w.rowIs b t 9 (fun i => .int .u64 (A i))) : w.heap[b]? = some (.cells (arr9 A) t (0, 0)) := by
  obtain ⟨c, hb, hs, hc⟩ := h
  have : c = arr9 A := by
    apply Array.ext_getElem?
    intro i
    by_cases hi : i < 9
    · rw [hc i hi, arr9_at A i hi]
    · rw [Array.getElem?_eq_none (by omega), Array.getElem?_eq_none (by show 9 ≤ i; omega)]
  rw [hb, this]

theorem heap4 (w : World) (o0 o1 o2 o3 : Obj) : ((((w.alloc o0).alloc o1).alloc o2).alloc o3).heap[w.heap.size]? = some o0 ∧ ((((w.alloc o0).alloc o1).alloc o2).alloc o3).heap[w.heap.size + 1]? = some o1 ∧
    ((((w.alloc o0).alloc o1).alloc o2).alloc o3).heap[w.heap.size + 2]? = some o2 ∧ ((((w.alloc o0).alloc o1).alloc o2).alloc o3).heap[w.heap.size + 3]? = some o3 := by
  have n1 : (w.alloc o0).heap.size = w.heap.size + 1 := nblk_alloc _ _
  have n2 : ((w.alloc o0).alloc o1).heap.size = w.heap.size + 2 := by rw [nblk_alloc, n1]
  have n3 : (((w.alloc o0).alloc o1).alloc o2).heap.size = w.heap.size + 3 := by rw [nblk_alloc, n2]
  refine ⟨?_, ?_, ?_, ?_⟩
  · rw [blk_alloc_lt _ _ _ (by omega), blk_alloc_lt _ _ _ (by omega), blk_alloc_lt _ _ _ (by omega)]; exact blk_alloc_new _ _
  · rw [blk_alloc_lt _ _ _ (by omega), blk_alloc_lt _ _ _ (by omega), ← n1]; exact blk_alloc_new _ _
  · rw [blk_alloc_lt _ _ _ (by omega), ← n2]; exact blk_alloc_new _ _
  · rw [← n3]; exact blk_alloc_new _ _
theorem rowIs_9 {w : World} {b : Nat} {t : TypeId} (A : Nat → Int) (h : w.heap[b]? = some (.cells (arr9 A) t)) : w.rowIs b t 9 (fun i => .int .u64 (A i)) := ⟨_, h, rfl, arr9_at A⟩

set_option maxRecDepth 100000 in
set_option maxHeartbeats 2000000 in
theorem sub_walk (A B : Nat → Int) (hA : ∀ i, i < 9 → 0 ≤ A i) (hB : ∀ i, i < 9 → 0 ≤ B i ∧ B i < 18446744073709551616) (w : World) :
    Calls Ybad.prog 7 #[.agg #[.int .u64 (A 0), .int .u64 (A 1), .int .u64 (A 2), .int .u64 (A 3), .int .u64 (A 4), .int .u64 (A 5), .int .u64 (A 6), .int .u64 (A 7), .int .u64 (A 8)], .agg #[.int .u64 (B 0), .int .u64 (B 1), .int .u64 (B 2), .int .u64 (B 3), .int .u64 (B 4), .int .u64 (B 5), .int .u64 (B 6), .int .u64 (B 7), .int .u64 (B 8)]] w fun e w' =>
      e = .returned (.agg (arr9 fun j => (A j - B j - bw A B j) % 18446744073709551616)) ∧ Keeps (fun _ => False) w w' := by
  have HA := hid hA
  have HB := hid hB
  clear hA hB
  go_enter Ybad.func7, Ybad.ntmps7
  go_wp2
  go_loopg [6, 7] 9 (fun g bo i wr => ∃ c : Nat, c + g = 9 ∧ i = .int .i64 c ∧ bo = .int .u64 (bw A B c) ∧ wr.rowIs (w.heap.size + 3) 27 9 (fun j => .int .u64 (if j < c then (A j - B j - bw A B j) % 18446744073709551616 else 0)) ∧
    wr.rowIs w.heap.size 27 9 (fun i => .int .u64 (A i)) ∧ wr.rowIs (w.heap.size + 1) 27 9 (fun i => .int .u64 (B i)) ∧ wr.rowIs (w.heap.size + 2) 27 9 (fun _ => .int .u64 0) ∧ Keeps (fun _ => False) w wr)
  case atStart =>
    obtain ⟨h0, h1, h2, h3⟩ := heap4 w (.cells (arr9 A) 27) (.cells (arr9 B) 27) (.cells (arr9 fun _ => 0) 27) (.cells (arr9 fun _ => 0) 27)
    exact ⟨0, by omega, rfl, rfl, (rowIs_9 _ h3).congr fun i _ => by simp, rowIs_9 _ h0, rowIs_9 _ h1, rowIs_9 _ h2, ((((Keeps.refl _ _).alloc _).alloc _).alloc _).alloc _⟩
  case round =>
    obtain ⟨c, hc, rfl, rfl, hR, hRA, hRB, hR2, hK⟩ := hrel
    have HR := hid hR
    have HRA := hid hRA
    have HRB := hid hRB
    have HR2 := hid hR2
    have HK := hid hK
    by_cases hlt : c < 9
    · have ca := hRA.cell hlt
      have cb := hRB.cell hlt
      obtain ⟨v0, co⟩ : ∃ v0, wr.cell? ⟨w.heap.size + 3, c, none⟩ = some v0 := ⟨_, hR.cell hlt⟩
      have fo : wr.frozen? ⟨w.heap.size + 3, c, none⟩ = false := hR.frozen _
      obtain ⟨b1, b2⟩ := HB.out c hlt
      obtain ⟨k0, k1⟩ := bw_01 A B c
      have hs := sub64 (A c) (B c) (bw A B c) (HA.out c hlt) b1 b2 k0 k1
      clear hR hRA hRB hR2 hK
      go_wp2
      go_region
      all_goals
        go_wp2
        go_roundg (9 - (c + 1))
        case measure => omega
        case rel =>
          have ne : ∀ k, k < w.heap.size + 3 → ¬ k = (⟨w.heap.size + 1 + 1 + 1, c, none⟩ : Addr).block := fun k hk e => by
            have e' : k = w.heap.size + 1 + 1 + 1 := e
            omega
          refine ⟨c + 1, by omega, by go_num, rfl, (HR.out.set c (.int .u64 ((A c - B c - bw A B c) % 18446744073709551616))).drew.congr fun j _ => ?_, (HRA.out.setOther (ne _ (by omega)) _).drew, (HRB.out.setOther (ne _ (by omega)) _).drew, (HR2.out.setOther (ne _ (by omega)) _).drew,
            (HK.out.setCell _ _ (fun e => by have e' : w.heap.size + 1 + 1 + 1 < w.heap.size := e; omega)).drew⟩
          by_cases e : j = c
          · subst e; simp
          · have : (j < c + 1) = (j < c) := by simp; omega
            simp [e, this]
    · obtain rfl : c = 9 := by omega
      have s0 := hR.cell (i := 0) (by omega)
      have s1 := hR.cell (i := 1) (by omega)
      have s2 := hR.cell (i := 2) (by omega)
      have s3 := hR.cell (i := 3) (by omega)
      have s4 := hR.cell (i := 4) (by omega)
      have s5 := hR.cell (i := 5) (by omega)
      have s6 := hR.cell (i := 6) (by omega)
      have s7 := hR.cell (i := 7) (by omega)
      have s8 := hR.cell (i := 8) (by omega)
      simp only [show (0 : Nat) < 9 from by omega, show (1 : Nat) < 9 from by omega, show (2 : Nat) < 9 from by omega, show (3 : Nat) < 9 from by omega, show (4 : Nat) < 9 from by omega, show (5 : Nat) < 9 from by omega, show (6 : Nat) < 9 from by omega, show (7 : Nat) < 9 from by omega, show (8 : Nat) < 9 from by omega, if_true] at s0 s1 s2 s3 s4 s5 s6 s7 s8
      have r0 : wr.cell? ⟨w.heap.size + 2, 0, none⟩ = some (.int .u64 0) := hR2.cell (i := 0) (by omega)
      have g0 : wr.frozen? ⟨w.heap.size + 2, 0, none⟩ = false := hR2.frozen _
      have r1 : wr.cell? ⟨w.heap.size + 2, 1, none⟩ = some (.int .u64 0) := hR2.cell (i := 1) (by omega)
      have g1 : wr.frozen? ⟨w.heap.size + 2, 1, none⟩ = false := hR2.frozen _
      have r2 : wr.cell? ⟨w.heap.size + 2, 2, none⟩ = some (.int .u64 0) := hR2.cell (i := 2) (by omega)
      have g2 : wr.frozen? ⟨w.heap.size + 2, 2, none⟩ = false := hR2.frozen _
      have r3 : wr.cell? ⟨w.heap.size + 2, 3, none⟩ = some (.int .u64 0) := hR2.cell (i := 3) (by omega)
      have g3 : wr.frozen? ⟨w.heap.size + 2, 3, none⟩ = false := hR2.frozen _
      have r4 : wr.cell? ⟨w.heap.size + 2, 4, none⟩ = some (.int .u64 0) := hR2.cell (i := 4) (by omega)
      have g4 : wr.frozen? ⟨w.heap.size + 2, 4, none⟩ = false := hR2.frozen _
      have r5 : wr.cell? ⟨w.heap.size + 2, 5, none⟩ = some (.int .u64 0) := hR2.cell (i := 5) (by omega)
      have g5 : wr.frozen? ⟨w.heap.size + 2, 5, none⟩ = false := hR2.frozen _
      have r6 : wr.cell? ⟨w.heap.size + 2, 6, none⟩ = some (.int .u64 0) := hR2.cell (i := 6) (by omega)
      have g6 : wr.frozen? ⟨w.heap.size + 2, 6, none⟩ = false := hR2.frozen _
      have r7 : wr.cell? ⟨w.heap.size + 2, 7, none⟩ = some (.int .u64 0) := hR2.cell (i := 7) (by omega)
      have g7 : wr.frozen? ⟨w.heap.size + 2, 7, none⟩ = false := hR2.frozen _
      have r8 : wr.cell? ⟨w.heap.size + 2, 8, none⟩ = some (.int .u64 0) := hR2.cell (i := 8) (by omega)
      have g8 : wr.frozen? ⟨w.heap.size + 2, 8, none⟩ = false := hR2.frozen _
      clear hR hRA hRB hR2 hK
      go_wp2
      refine bodyPost_ret (v := .agg (arr9 fun j => (A j - B j - bw A B j) % 18446744073709551616)) (by simp [results, Ybad.results7, go_sem, arr9, r0, r1, r2, r3, r4, r5, r6, r7, r8]) rfl ⟨rfl, ?_⟩
      iterate 9 refine Keeps.setCell ?_ _ _ (fun e => by have e' : w.heap.size + 1 + 1 < w.heap.size := e; omega)
      exact HK.out

/-- a < b, from the top limb down. -/
def ltN (A B : Nat → Int) : Nat → Bool
  | 0 => false
  | n + 1 => if A n = B n then ltN A B n else decide (A n < B n)

theorem heap2 (w : World) (o0 o1 : Obj) : ((w.alloc o0).alloc o1).heap[w.heap.size]? = some o0 ∧ ((w.alloc o0).alloc o1).heap[w.heap.size + 1]? = some o1 := by
  have n1 : (w.alloc o0).heap.size = w.heap.size + 1 := nblk_alloc _ _
  refine ⟨?_, ?_⟩
  · rw [blk_alloc_lt _ _ _ (by omega)]; exact blk_alloc_new _ _
  · rw [← n1]; exact blk_alloc_new _ _

set_option maxRecDepth 100000 in
set_option maxHeartbeats 2000000 in
theorem less_walk (A B : Nat → Int) (w : World) :
    Calls Ybad.prog 6 #[.agg #[.int .u64 (A 0), .int .u64 (A 1), .int .u64 (A 2), .int .u64 (A 3), .int .u64 (A 4), .int .u64 (A 5), .int .u64 (A 6), .int .u64 (A 7), .int .u64 (A 8)], .agg #[.int .u64 (B 0), .int .u64 (B 1), .int .u64 (B 2), .int .u64 (B 3), .int .u64 (B 4), .int .u64 (B 5), .int .u64 (B 6), .int .u64 (B 7), .int .u64 (B 8)]] w fun e w' =>
      e = .returned (.bool (ltN A B 9)) ∧ Keeps (fun _ => False) w w' := by
  go_enter Ybad.func6, Ybad.ntmps6
  go_wp2
  go_loopg [5] 9 (fun g i wr => ∃ c : Nat, c = g ∧ c ≤ 9 ∧ i = .int .i64 ((c : Int) - 1) ∧ ltN A B 9 = ltN A B c ∧ wr.rowIs w.heap.size 27 9 (fun i => .int .u64 (A i)) ∧ wr.rowIs (w.heap.size + 1) 27 9 (fun i => .int .u64 (B i)) ∧ Keeps (fun _ => False) w wr)
  case atStart =>
    obtain ⟨h0, h1⟩ := heap2 w (.cells (arr9 A) 27) (.cells (arr9 B) 27)
    exact ⟨9, rfl, by omega, rfl, rfl, rowIs_9 _ h0, rowIs_9 _ h1, ((Keeps.refl _ _).alloc _).alloc _⟩
  case round =>
    obtain ⟨c, rfl, hc, rfl, hlt, hRA, hRB, hK⟩ := hrel
    have HRA := hid hRA
    have HRB := hid hRB
    have HK := hid hK
    have HLT := hid hlt
    match c, hc with
    | 0, _ =>
      clear hRA hRB hK hlt
      go_wp2
      go_returns
      exact ⟨by rw [HLT.out]; rfl, HK.out⟩
    | c + 1, hc =>
      have ca := hRA.cell (i := c) (by omega)
      have cb := hRB.cell (i := c) (by omega)
      have ei : (((c + 1 : Nat) : Int) - 1) = (c : Int) := by omega
      rw [ei]
      clear hRA hRB hK hlt
      by_cases e : A c = B c
      · go_wp2
        go_quiet (fail)
        go_wp2
        go_roundg c
        case measure => omega
        case rel => exact ⟨c, rfl, by omega, rfl, by rw [HLT.out]; simp [ltN, e], HRA.out, HRB.out, HK.out.drewN _⟩
      · go_wp2
        go_quiet (fail)
        go_wp2
        go_quiet (fail)
        go_wp2
        go_returns
        exact ⟨by rw [HLT.out]; simp [ltN, e], (HK.out.drewN _).drewN _⟩
end Go.Proofs.YbulkebvgDoor
