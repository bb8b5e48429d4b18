import Derived.Test.YbulkebsaBase
import Derived.Lib.SliceRun
import Derived.Laws.EntriesVeiled
import Derived.Deep.CutBlock
import Derived.Deep.DeepCutAuto
namespace Go.Proofs.Ybulkebsa
open Go.RowKit Go.Deep

/-- 'make' of a slice of structs of six cells. -/
theorem run_make6 {P : Program} (t e : TypeId) (zs : Array Value) (bytes : Nat) (ht : P.underlying t = some (.slice e)) (hinfo : (P.info? e).map (fun i => (i.zero, i.size, i.bytes)) = some (some (.agg zs), 6, bytes))
    (kl kc : IntKind) (n : Nat) (hbytes : bytes * n ≤ 281474976710656) (h63 : n ≤ 9223372036854775807) (w : World) :
    (Instr.makeSlice t (.int kl (n : Int)) (.int kc (n : Int))).run P w = .ok (.slice (some ⟨w.heap.size, 0, none⟩) n n) (w.alloc (.cells (madeCells zs (n * 6)) e)) := by
  obtain ⟨i, hi, hzz⟩ := Option.map_eq_some_iff.1 hinfo
  simp only [Prod.mk.injEq] at hzz
  obtain ⟨hz, hs, hb⟩ := hzz
  have hb' : (i.bytes : Int) * (n : Int) ≤ 281474976710656 := by
    have h : ((i.bytes * n : Nat) : Int) ≤ 281474976710656 := by rw [hb]; omega
    rwa [Int.natCast_mul] at h
  have hr := run_make (P := P) w t e i _ ht hi hz kl kc n n (by omega) (Int.le_refl _) hb' (by omega)
  simp only [Int.toNat_natCast, hs] at hr
  exact hr

/-- The zero field's cells. -/
def zv : Nat → Value
  | 0 => .string ⟨#[]⟩
  | 1 => .nilFunc
  | 2 => .nilFunc
  | 3 => .string ⟨#[]⟩
  | 4 => .bool false
  | _ => .string ⟨#[]⟩
/-- The cells of the field that is named s. -/
def fv (s : ByteArray) : Nat → Value
  | 0 => .string s
  | 1 => .nilFunc
  | 2 => .nilFunc
  | 3 => .string (⟨#[117]⟩ ++ s)
  | 4 => .bool false
  | _ => .string ⟨#[112]⟩
def fcell (N : Nat → ByteArray) (k : Nat) : Value := fv (N (k / 6)) (k % 6)
def zarr : Array Value := #[.string ⟨#[]⟩, .nilFunc, .nilFunc, .string ⟨#[]⟩, .bool false, .string ⟨#[]⟩]
theorem Yba.info40 : (Yba.prog.info? 40).map (fun i => (i.zero, i.size, i.bytes)) = some (some (.agg zarr), 6, 72) := by kernel_rfl

theorem rowIs_made6 (w : World) (n : Nat) (t : TypeId) : (w.alloc (.cells (madeCells zarr (n * 6)) t)).rowIs w.heap.size t (n * 6) (fun i => zv (i % 6)) := by
  refine ⟨_, blk_alloc_new _ _, size_madeCells _ _, fun i hi => ?_⟩
  simp only [madeCells, Array.getElem?_map, Array.getElem?_range, hi, if_true, Option.map_some]
  rcases (show i % 6 = 0 ∨ i % 6 = 1 ∨ i % 6 = 2 ∨ i % 6 = 3 ∨ i % 6 = 4 ∨ i % 6 = 5 from by omega) with h | h | h | h | h | h <;> simp [h, zv, zarr]

/-- A slice that came in, told by what its cells hold. -/
def ArgRow (w : World) (a : Option Addr) (n : Nat) (f : Nat → Value) : Prop := n = 0 ∨ ∃ b o, a = some ⟨b, o, none⟩ ∧ ∀ j, j < n → w.cell? ⟨b, o + j, none⟩ = some (f j)
theorem Keeps.cell {w w' : World} (k : Keeps (fun _ => False) w w') {a : Addr} {v : Value} (h : w.cell? a = some v) : w'.cell? a = some v := by
  have hlt : a.block < w.heap.size := by
    rcases Nat.lt_or_ge a.block w.heap.size with h1 | h1
    · exact h1
    · have e : w.heap[a.block]? = none := by simp [h1]
      simp [World.cell?, e] at h
  have := k.block a.block hlt (fun h => h)
  simpa [World.cell?, this] using h
theorem ArgRow.keeps {w w' : World} {a : Option Addr} {n : Nat} {f : Nat → Value} (h : ArgRow w a n f) (k : Keeps (fun _ => False) w w') : ArgRow w' a n f := by
  rcases h with h0 | ⟨b, o, ha, hc⟩
  · exact .inl h0
  · exact .inr ⟨b, o, ha, fun j hj => k.cell (hc j hj)⟩
theorem ArgRow.at' {w : World} {a : Option Addr} {n : Nat} {f : Nat → Value} (h : ArgRow w a n f) {j : Nat} (hj : j < n) : ∃ b o, a = some ⟨b, o, none⟩ ∧ w.cell? ⟨b, o + j, none⟩ = some (f j) := by
  rcases h with h0 | ⟨b, o, ha, hc⟩
  · omega
  · exact ⟨b, o, ha, hc j hj⟩

theorem fstep (N : Nat → ByteArray) (j i : Nat) : (if i = j * 6 + 5 then fv (N j) 5 else if i = j * 6 + 4 then fv (N j) 4 else if i = j * 6 + 3 then fv (N j) 3 else if i = j * 6 + 2 then fv (N j) 2 else if i = j * 6 + 1 then fv (N j) 1 else if i = j * 6 then fv (N j) 0
    else if i < j * 6 then fcell N i else zv (i % 6)) = if i < (j + 1) * 6 then fcell N i else zv (i % 6) := by
  have t0 : fcell N (j * 6) = fv (N j) 0 := by unfold fcell; rw [show j * 6 / 6 = j from by omega, show j * 6 % 6 = 0 from by omega]
  have t1 : fcell N (j * 6 + 1) = fv (N j) 1 := by unfold fcell; rw [show (j * 6 + 1) / 6 = j from by omega, show (j * 6 + 1) % 6 = 1 from by omega]
  have t2 : fcell N (j * 6 + 2) = fv (N j) 2 := by unfold fcell; rw [show (j * 6 + 2) / 6 = j from by omega, show (j * 6 + 2) % 6 = 2 from by omega]
  have t3 : fcell N (j * 6 + 3) = fv (N j) 3 := by unfold fcell; rw [show (j * 6 + 3) / 6 = j from by omega, show (j * 6 + 3) % 6 = 3 from by omega]
  have t4 : fcell N (j * 6 + 4) = fv (N j) 4 := by unfold fcell; rw [show (j * 6 + 4) / 6 = j from by omega, show (j * 6 + 4) % 6 = 4 from by omega]
  have t5 : fcell N (j * 6 + 5) = fv (N j) 5 := by unfold fcell; rw [show (j * 6 + 5) / 6 = j from by omega, show (j * 6 + 5) % 6 = 5 from by omega]
  by_cases e : i < (j + 1) * 6
  · rw [if_pos e]
    split
    · subst i; exact t5.symm
    split
    · subst i; exact t4.symm
    split
    · subst i; exact t3.symm
    split
    · subst i; exact t2.symm
    split
    · subst i; exact t1.symm
    split
    · subst i; exact t0.symm
    rw [if_pos (by omega)]
  · rw [if_neg e, if_neg (by omega), if_neg (by omega), if_neg (by omega), if_neg (by omega), if_neg (by omega), if_neg (by omega), if_neg (by omega)]

/-- What 'fields' hands back. -/
def FsIs (w : World) (v : Value) (n : Nat) (N : Nat → ByteArray) : Prop := (v = .slice none 0 0 ∧ n = 0) ∨ ∃ b, v = .slice (some ⟨b, 0, none⟩) n n ∧ w.rowIs b 40 (n * 6) (fcell N)
theorem FsIs.keeps {w w' : World} {v : Value} {n : Nat} {N : Nat → ByteArray} (h : FsIs w v n N) (k : Keeps (fun _ => False) w w') : FsIs w' v n N := by
  rcases h with h0 | ⟨b, hv, hr⟩
  · exact .inl h0
  · exact .inr ⟨b, hv, k.row hr (fun h => h)⟩

set_option maxRecDepth 100000 in
set_option maxHeartbeats 2000000 in
theorem fields_walk (a : Option Addr) (len cap : Nat) (N : Nat → ByteArray) (w : World) (hn : a = none → len = 0) (hN : ArgRow w a len (fun i => .string (N i))) (hl : len ≤ 1048576) (hs : ∀ i, i < len → (N i).size ≤ 140737488351232) :
    Calls Yba.prog 4 #[.slice a len cap] w fun e w' => ∃ v, e = .returned v ∧ FsIs w' v len N ∧ Keeps (fun _ => False) w w' := by
  have q22 : ∀ (w : World) (a : Option Addr) (n c n' c' : Nat), (binOp .eql 22 (.slice a n c) (.slice none n' c')).run Yba.prog w = .ok (.bool a.isNone) w := fun w a n c n' c' => Lib.run_eql_slice_nil w _ _ a n c n' c' Yba.underlying22
  have HN := hid hN
  have HS := hid hs
  clear hN hs
  cases a with
  | none =>
    have := hn rfl
    subst this
    go_enter Yba.func4, Yba.ntmps4
    go_wp2
    go_returns
    exact ⟨_, rfl, .inl ⟨rfl, rfl⟩, Keeps.refl _ _⟩
  | some ad =>
    have hmk := run_make6 (P := Yba.prog) 24 40 zarr 72 Yba.underlying24 Yba.info40 .i64 .i64 len (by omega) (by omega)
    clear hn
    go_enter Yba.func4, Yba.ntmps4
    go_wp2
    go_loopg [4] len (fun g i wr => ∃ j : Nat, j + g = len ∧ i = .int .i64 j ∧ wr.rowIs w.heap.size 40 (len * 6) (fun i => if i < j * 6 then fcell N i else zv (i % 6)) ∧ Keeps (fun _ => False) w wr)
    case atStart => exact ⟨0, by omega, rfl, (rowIs_made6 _ _ _).congr fun i _ => by simp, (Keeps.refl _ _).alloc _⟩
    case round =>
      obtain ⟨j, hj, rfl, hR, hK1⟩ := hrel
      have HR := hid hR
      have HK1 := hid hK1
      by_cases hjl : j < len
      · obtain ⟨vb, vo, hadr, cb⟩ := (HN.out.keeps hK1).at' hjl
        simp only [Option.some.injEq] at hadr
        subst hadr
        have hsj := HS.out j hjl
        obtain ⟨v0, c0⟩ : ∃ v0, wr.cell? ⟨w.heap.size, j * 6, none⟩ = some v0 := ⟨_, hR.cell (by omega)⟩
        obtain ⟨v1, c1⟩ : ∃ v0, wr.cell? ⟨w.heap.size, j * 6 + 1, none⟩ = some v0 := ⟨_, hR.cell (by omega)⟩
        obtain ⟨v2, c2⟩ : ∃ v0, wr.cell? ⟨w.heap.size, j * 6 + 2, none⟩ = some v0 := ⟨_, hR.cell (by omega)⟩
        obtain ⟨v3, c3⟩ : ∃ v0, wr.cell? ⟨w.heap.size, j * 6 + 3, none⟩ = some v0 := ⟨_, hR.cell (by omega)⟩
        obtain ⟨v4, c4⟩ : ∃ v0, wr.cell? ⟨w.heap.size, j * 6 + 4, none⟩ = some v0 := ⟨_, hR.cell (by omega)⟩
        obtain ⟨v5, c5⟩ : ∃ v0, wr.cell? ⟨w.heap.size, j * 6 + 5, none⟩ = some v0 := ⟨_, hR.cell (by omega)⟩
        have f0 : wr.frozen? ⟨w.heap.size, j * 6, none⟩ = false := hR.frozen _
        have f1 : wr.frozen? ⟨w.heap.size, j * 6 + 1, none⟩ = false := hR.frozen _
        have f2 : wr.frozen? ⟨w.heap.size, j * 6 + 2, none⟩ = false := hR.frozen _
        have f3 : wr.frozen? ⟨w.heap.size, j * 6 + 3, none⟩ = false := hR.frozen _
        have f4 : wr.frozen? ⟨w.heap.size, j * 6 + 4, none⟩ = false := hR.frozen _
        have f5 : wr.frozen? ⟨w.heap.size, j * 6 + 5, none⟩ = false := hR.frozen _
        clear hR hK1
        go_wp2
        go_region
        all_goals
          go_wp2
          go_roundg (len - (j + 1))
          case measure => omega
          case rel =>
            exact ⟨j + 1, by omega, by go_num, ((((((HR.out.set (j * 6) (.string (N j))).set (j * 6 + 1) (.nilFunc)).set (j * 6 + 2) (.nilFunc)).set (j * 6 + 3) (.string (⟨#[117]⟩ ++ N j))).set (j * 6 + 4) (.bool false)).set (j * 6 + 5) (.string ⟨#[112]⟩)).drew.congr fun i _ => fstep N j i, ((((((HK1.out.setCell _ _ (fun e => absurd e (Nat.lt_irrefl _))).setCell _ _ (fun e => absurd e (Nat.lt_irrefl _))).setCell _ _ (fun e => absurd e (Nat.lt_irrefl _))).setCell _ _ (fun e => absurd e (Nat.lt_irrefl _))).setCell _ _ (fun e => absurd e (Nat.lt_irrefl _))).setCell _ _ (fun e => absurd e (Nat.lt_irrefl _))).drew⟩
      · clear hR hK1
        go_wp2
        go_returns
        obtain rfl : j = len := by omega
        refine ⟨_, rfl, .inr ⟨_, rfl, HR.out.congr fun i hi => by simp [hi]⟩, HK1.out⟩
end Go.Proofs.Ybulkebsa
