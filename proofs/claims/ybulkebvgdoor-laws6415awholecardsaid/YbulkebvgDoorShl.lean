import Derived.Test.YbulkebvgDoorLimb
namespace Go.Proofs.YbulkebvgDoor
open Go.RowKit Go.Deep
def lim (i : Nat) : Nat := if i = 0 then 6346243789798364141 else if i = 1 then 1503914060200516822 else if i = 2 then 0 else if i = 3 then 1152921504606846976 else 0
/-- The lowest i limbs of L. -/
def Lp (i : Nat) : Nat := if i = 0 then 0 else if i = 1 then 6346243789798364141 else if i = 2 then 6346243789798364141 + 1503914060200516822 * 18446744073709551616 else if i = 3 then 6346243789798364141 + 1503914060200516822 * 18446744073709551616 else 7237005577332262213973186563042994240857116359379907606001950938285454250989
/-- Limb j of the lowest i limbs of L, shifted. -/
def cellk (k i j : Nat) : Nat := (Lp i * 2 ^ k / 2 ^ (64 * j)) % 18446744073709551616
theorem cellk_lt (k i j : Nat) : cellk k i j < 18446744073709551616 := Nat.mod_lt _ (by decide)

theorem cellk_zero (k j : Nat) : cellk k 0 j = 0 := by simp [cellk, Lp]
theorem lim_lt (c : Nat) : lim c < 18446744073709551616 := by
  unfold lim; repeat' split
  all_goals decide

def shlOk (k c : Nat) : Bool := ((cellk k c (c + k / 64) ||| (lim c * 2 ^ (k % 64) % 18446744073709551616)) == cellk k (c + 1) (c + k / 64)) &&
  (k % 64 == 0 || (cellk k c (c + k / 64 + 1) ||| (lim c / 2 ^ (64 - k % 64))) == cellk k (c + 1) (c + k / 64 + 1)) && (k % 64 != 0 || cellk k c (c + k / 64 + 1) == cellk k (c + 1) (c + k / 64 + 1)) &&
  (List.range 9).all fun j => j == c + k / 64 || j == c + k / 64 + 1 || cellk k c j == cellk k (c + 1) j
theorem shl_all : ((List.range 261).all fun k => (List.range 4).all (shlOk k)) = true := by kernel_rfl
theorem shl_step (k : Nat) (hk : k < 261) (c : Nat) (hc : c < 4) : (cellk k c (c + k / 64) ||| (lim c * 2 ^ (k % 64) % 18446744073709551616)) = cellk k (c + 1) (c + k / 64) ∧
    (k % 64 ≠ 0 → (cellk k c (c + k / 64 + 1) ||| (lim c / 2 ^ (64 - k % 64))) = cellk k (c + 1) (c + k / 64 + 1)) ∧ (k % 64 = 0 → cellk k c (c + k / 64 + 1) = cellk k (c + 1) (c + k / 64 + 1)) ∧
    ∀ j, j < 9 → j ≠ c + k / 64 → j ≠ c + k / 64 + 1 → cellk k c j = cellk k (c + 1) j := by
  have h := List.all_eq_true.1 (List.all_eq_true.1 shl_all k (List.mem_range.2 hk)) c (List.mem_range.2 hc)
  unfold shlOk at h
  rw [Bool.and_eq_true, Bool.and_eq_true, Bool.and_eq_true] at h
  obtain ⟨⟨⟨h1, h2⟩, h3⟩, h4⟩ := h
  refine ⟨eq_of_beq h1, fun e => ?_, fun e => ?_, fun j hj n1 n2 => ?_⟩
  · rw [Bool.or_eq_true] at h2
    rcases h2 with h | h
    · exact absurd (eq_of_beq h) e
    · exact eq_of_beq h
  · rw [Bool.or_eq_true] at h3
    rcases h3 with h | h
    · simp [e] at h
    · exact eq_of_beq h
  · have := List.all_eq_true.1 h4 j (List.mem_range.2 hj)
    rw [Bool.or_eq_true, Bool.or_eq_true] at this
    rcases this with (h | h) | h
    · exact absurd (eq_of_beq h) n1
    · exact absurd (eq_of_beq h) n2
    · exact eq_of_beq h

theorem or_cell {a b : Nat} (ha : a < 18446744073709551616) (hb : b < 18446744073709551616) : bits .or .u64 (a : Int) (b : Int) = ((a ||| b : Nat) : Int) := u64_or_nat a b ha hb
theorem wrap_cell (a b : Nat) : IntKind.u64.wrap ((a : Int) * 2 ^ b) = ((a * 2 ^ b % 18446744073709551616 : Nat) : Int) := by
  rw [IntKind.wrap_u64]
  have : ((a : Int) * 2 ^ b) = ((a * 2 ^ b : Nat) : Int) := by simp
  rw [this]
  generalize a * 2 ^ b = x
  omega
theorem wrap_one {a : Nat} (h : a < 18446744073709551616) : IntKind.u64.wrap (a : Int) = (a : Int) := by
  rw [IntKind.wrap_u64]
  omega
theorem div_cell (a b : Nat) : (a : Int) / 2 ^ b = ((a / 2 ^ b : Nat) : Int) := by simp

theorem heap3 (w : World) (o0 o1 o2 : Obj) : (((w.alloc o0).alloc o1).alloc o2).heap[w.heap.size]? = some o0 ∧ (((w.alloc o0).alloc o1).alloc o2).heap[w.heap.size + 1]? = some o1 ∧ (((w.alloc o0).alloc o1).alloc o2).heap[w.heap.size + 2]? = some o2 := by
  have n1 : (w.alloc o0).heap.size = w.heap.size + 1 := nblk_alloc _ _
  have n2 : ((w.alloc o0).alloc o1).heap.size = w.heap.size + 2 := by rw [nblk_alloc, n1]
  refine ⟨?_, ?_, ?_⟩
  · rw [blk_alloc_lt _ _ _ (by omega), blk_alloc_lt _ _ _ (by omega)]; exact blk_alloc_new _ _
  · rw [blk_alloc_lt _ _ _ (by omega), ← n1]; exact blk_alloc_new _ _
  · rw [← n2]; exact blk_alloc_new _ _
def arrL : Array Value := #[.int .u64 6346243789798364141, .int .u64 1503914060200516822, .int .u64 0, .int .u64 1152921504606846976]
theorem arrL_at : ∀ i, i < 4 → arrL[i]? = some (.int .u64 (lim i)) := by
  intro i hi
  match i, hi with
  | 0, _ => rfl
  | 1, _ => rfl
  | 2, _ => rfl
  | 3, _ => rfl

set_option maxRecDepth 100000 in
set_option maxHeartbeats 2000000 in
theorem shl_walk (k : Nat) (hk : k ≤ 260) (w : World) :
    Calls Ybad.prog 5 #[.int .u64 k] w fun e w' => e = .returned (.agg (arr9 fun j => (cellk k 4 j : Nat))) ∧ Keeps (fun _ => False) w w' := by
  have hq4 : k / 64 ≤ 4 := by omega
  have hb64 : k % 64 < 64 := by omega
  go_enter Ybad.func5, Ybad.ntmps5
  go_wp2
  go_loopg [7] 4 (fun g i wr => ∃ c : Nat, c + g = 4 ∧ i = .int .u64 c ∧ wr.rowIs (w.heap.size + 1) 27 9 (fun j => .int .u64 (cellk k c j : Nat)) ∧
    wr.rowIs (w.heap.size + 2) 24 4 (fun i => .int .u64 (lim i)) ∧ wr.rowIs w.heap.size 27 9 (fun _ => .int .u64 0) ∧ Keeps (fun _ => False) w wr)
  case atStart =>
    obtain ⟨h0, h1, h2⟩ := heap3 w (.cells (arr9 fun _ => 0) 27) (.cells (arr9 fun _ => 0) 27) (.cells arrL 24)
    exact ⟨0, by omega, rfl, (rowIs_9 _ h1).congr fun j _ => by simp [cellk_zero], ⟨_, h2, rfl, arrL_at⟩, rowIs_9 _ h0, (((Keeps.refl _ _).alloc _).alloc _).alloc _⟩
  case round =>
    obtain ⟨c, hc, rfl, hR, hRl, hR0, hK⟩ := hrel
    have HR := hid hR
    have HRl := hid hRl
    have HR0 := hid hR0
    have HK := hid hK
    by_cases hlt : c < 4
    · have cl := hRl.cell hlt
      have c0 := hR.cell (i := c + k / 64) (by omega)
      have c1 := hR.cell (i := c + k / 64 + 1) (by omega)
      have f0 : wr.frozen? ⟨w.heap.size + 1, c + k / 64, none⟩ = false := hR.frozen _
      have f1 : wr.frozen? ⟨w.heap.size + 1, c + k / 64 + 1, none⟩ = false := hR.frozen _
      clear hR hRl hR0 hK
      obtain ⟨t1, t2, t3, t4⟩ := shl_step k (by omega) c hlt
      have T1 := hid t1
      have T2 := hid t2
      have T3 := hid t3
      have T4 := hid t4
      clear t1 t2 t3 t4
      have ne0 : ¬ w.heap.size + 2 = w.heap.size + 1 := by omega
      have ne1 : ¬ w.heap.size = w.heap.size + 1 := by omega
      have nk : ¬ w.heap.size + 1 < w.heap.size := by omega
      by_cases hb0 : k % 64 = 0
      · go_wp2
        go_region
        go_wp2
        go_roundg (4 - (c + 1))
        case measure => omega
        case rel =>
          refine ⟨c + 1, by omega, by go_num, (HR.out.set (c + k / 64) _).drew.congr fun j hj => ?_, (HRl.out.setOther ne0 _).drew, (HR0.out.setOther ne1 _).drew, (HK.out.setCell _ _ (fun e => absurd e nk)).drew⟩
          by_cases e0 : j = c + k / 64
          · subst e0
            have t1 := T1.out
            rw [hb0, Nat.pow_zero, Nat.mul_one, Nat.mod_eq_of_lt (lim_lt c)] at t1
            rw [if_pos rfl, wrap_one (lim_lt c), or_cell (cellk_lt _ _ _) (lim_lt c), t1]
          · rw [if_neg e0]
            by_cases e1 : j = c + k / 64 + 1
            · subst e1; rw [T3.out hb0]
            · rw [T4.out j hj e0 e1]
      · go_wp2
        go_region
        go_wp2
        go_region
        go_wp2
        go_roundg (4 - (c + 1))
        case measure => omega
        case rel =>
          refine ⟨c + 1, by omega, by go_num, ((HR.out.set (c + k / 64) _).set (c + k / 64 + 1) _).drew.drew.congr fun j hj => ?_, ((HRl.out.setOther ne0 _).setOther ne0 _).drew.drew, ((HR0.out.setOther ne1 _).setOther ne1 _).drew.drew, ((HK.out.setCell _ _ (fun e => absurd e nk)).setCell _ _ (fun e => absurd e nk)).drew.drew⟩
          by_cases e1 : j = c + k / 64 + 1
          · subst e1
            rw [if_pos rfl, div_cell, or_cell (cellk_lt _ _ _) (Nat.lt_of_le_of_lt (Nat.div_le_self _ _) (lim_lt _)), T2.out hb0]
          · rw [if_neg e1]
            by_cases e0 : j = c + k / 64
            · subst e0
              rw [if_pos rfl, wrap_cell, or_cell (cellk_lt _ _ _) (Nat.mod_lt _ (by decide)), T1.out]
            · rw [if_neg e0, T4.out j hj e0 e1]
    · obtain rfl : c = 4 := by omega
      have s0 := hR.cell (i := 0) (by omega)
      have s1 := hR.cell (i := 1) (by omega)
      have s2 := hR.cell (i := 2) (by omega)
      have s3 := hR.cell (i := 3) (by omega)
      have s4 := hR.cell (i := 4) (by omega)
      have s5 := hR.cell (i := 5) (by omega)
      have s6 := hR.cell (i := 6) (by omega)
      have s7 := hR.cell (i := 7) (by omega)
      have s8 := hR.cell (i := 8) (by omega)
      have r0 : wr.cell? ⟨w.heap.size, 0, none⟩ = some (.int .u64 0) := hR0.cell (i := 0) (by omega)
      have g0 : wr.frozen? ⟨w.heap.size, 0, none⟩ = false := hR0.frozen _
      have r1 : wr.cell? ⟨w.heap.size, 1, none⟩ = some (.int .u64 0) := hR0.cell (i := 1) (by omega)
      have g1 : wr.frozen? ⟨w.heap.size, 1, none⟩ = false := hR0.frozen _
      have r2 : wr.cell? ⟨w.heap.size, 2, none⟩ = some (.int .u64 0) := hR0.cell (i := 2) (by omega)
      have g2 : wr.frozen? ⟨w.heap.size, 2, none⟩ = false := hR0.frozen _
      have r3 : wr.cell? ⟨w.heap.size, 3, none⟩ = some (.int .u64 0) := hR0.cell (i := 3) (by omega)
      have g3 : wr.frozen? ⟨w.heap.size, 3, none⟩ = false := hR0.frozen _
      have r4 : wr.cell? ⟨w.heap.size, 4, none⟩ = some (.int .u64 0) := hR0.cell (i := 4) (by omega)
      have g4 : wr.frozen? ⟨w.heap.size, 4, none⟩ = false := hR0.frozen _
      have r5 : wr.cell? ⟨w.heap.size, 5, none⟩ = some (.int .u64 0) := hR0.cell (i := 5) (by omega)
      have g5 : wr.frozen? ⟨w.heap.size, 5, none⟩ = false := hR0.frozen _
      have r6 : wr.cell? ⟨w.heap.size, 6, none⟩ = some (.int .u64 0) := hR0.cell (i := 6) (by omega)
      have g6 : wr.frozen? ⟨w.heap.size, 6, none⟩ = false := hR0.frozen _
      have r7 : wr.cell? ⟨w.heap.size, 7, none⟩ = some (.int .u64 0) := hR0.cell (i := 7) (by omega)
      have g7 : wr.frozen? ⟨w.heap.size, 7, none⟩ = false := hR0.frozen _
      have r8 : wr.cell? ⟨w.heap.size, 8, none⟩ = some (.int .u64 0) := hR0.cell (i := 8) (by omega)
      have g8 : wr.frozen? ⟨w.heap.size, 8, none⟩ = false := hR0.frozen _
      clear hR hRl hR0 hK
      go_wp2
      refine bodyPost_ret (v := .agg (arr9 fun j => (cellk k 4 j : Nat))) (by simp [results, Ybad.results5, go_sem, arr9, r0, r1, r2, r3, r4, r5, r6, r7, r8]) rfl ⟨rfl, ?_⟩
      iterate 9 refine Keeps.setCell ?_ _ _ (fun e => absurd e (Nat.lt_irrefl _))
      exact HK.out
end Go.Proofs.YbulkebvgDoor
