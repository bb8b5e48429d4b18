import Derived.Test.YbulkebvgWhere
import Derived.Lib.SliceRun
namespace Go.Proofs.Ybulkebvg
open Go.RowKit Go.Deep

set_option maxRecDepth 100000 in
theorem charset_walk (tb cb n cap : Nat) (a : Option Addr) (t m : Nat → Int) (q : Bool) (w : World) (hn : n ≤ 65536)
    (hT : w.cell? ⟨tb, 3, none⟩ = some (.slice a n cap)) (ha : n = 0 ∨ a = some ⟨cb, 0, none⟩)
    (h2 : ∀ i, i < n → w.cell? ⟨cb, i * 9 + 2, none⟩ = some (.int .u8 (t i))) (h5 : ∀ i, i < n → w.cell? ⟨cb, i * 9 + 5, none⟩ = some (.int .u16 (m i))) :
    Calls Yba.prog 5 #[.pointer (some ⟨tb, 0, none⟩), .bool q] w fun e w' =>
      ∃ v, e = .returned v ∧ w'.ownsRow (w.heap.size + 1) 38 1 v (keptL (fun i => keepP (t i) (m i) q) n).length (ptrs cb (keptL (fun i => keepP (t i) (m i) q) n)) ∧ (v = .slice none 0 0 ↔ (keptL (fun i => keepP (t i) (m i) q) n) = []) ∧ Keeps (fun _ => False) w w' := by
  have k1 : Keeps (fun _ => False) w (w.alloc (.cells #[.bool q] 4)) := (Keeps.refl _ _).alloc _
  have C := where_walk tb w.heap.size cb n cap a t m q (w.alloc (.cells #[.bool q] 4)) hn (k1.cell hT) ha (by rw [cell_of_blk (blk_alloc_new _ _)]; rfl) (fun i hi => k1.cell (h2 i hi)) (fun i hi => k1.cell (h5 i hi))
  rw [nblk_alloc] at C
  have hmf : ∀ (fn : Fn) (first cap : Array Value) (w : World), (Instr.makeFunc fn first cap).run Yba.prog w = .ok (.func fn first cap) w := fun _ _ _ _ => rfl
  clear hT h2 h5
  go_enter Yba.func5, Yba.ntmps5
  go_wp2_with (go_at_call 7; refine C.mono ?_; rintro e w1 ⟨v, rfl, hO, hN, hK⟩)
  go_returns
  exact ⟨_, rfl, hO, hN, k1.trans hK (fun _ _ h => h)⟩

/-- The columns' plain data. -/
structure Cols where
  sel : Nat → Int
  raw : Nat → Int
  mt : Nat → Int
  nm : Nat → ByteArray
  un : Nat → Bool
namespace Cols
variable (D : Cols)
def ty (i : Nat) : Int := typ (D.sel i) (D.raw i)
def me (i : Nat) : Int := bits .xor .u16 (D.mt i) 254
structure Ok (n : Nat) : Prop where
  s : ∀ i, i < n → 0 ≤ D.sel i ∧ D.sel i < 256
  r : ∀ i, i < n → 0 ≤ D.raw i ∧ D.raw i < 256
/-- The i-th column's cells. -/
def cv (i : Nat) : Nat → Value
  | 0 => .int .i64 i
  | 1 => .string (D.nm i)
  | 2 => .int .u8 (D.ty i)
  | 3 => .bool (D.un i)
  | 4 => .bool false
  | 5 => .int .u16 (D.me i)
  | 6 => .bool false
  | 7 => .int .u64 i
  | _ => .slice none 0 0
def cell (k : Nat) : Value := D.cv (k / 9) (k % 9)
end Cols
/-- The i-th of the argument's cells. -/
structure ColIs (w : World) (b o : Nat) (D : Cols) (i : Nat) : Prop where
  c0 : w.cell? ⟨b, o + i * 5, none⟩ = some (.int .u8 (D.sel i))
  c1 : w.cell? ⟨b, o + i * 5 + 1, none⟩ = some (.int .u8 (D.raw i))
  c2 : w.cell? ⟨b, o + i * 5 + 2, none⟩ = some (.int .u16 (D.mt i))
  c3 : w.cell? ⟨b, o + i * 5 + 3, none⟩ = some (.string (D.nm i))
  c4 : w.cell? ⟨b, o + i * 5 + 4, none⟩ = some (.bool (D.un i))
theorem ColIs.keeps {w w' : World} {b o : Nat} {D : Cols} {i : Nat} (h : ColIs w b o D i) (k : Keeps (fun _ => False) w w') : ColIs w' b o D i :=
  ⟨k.cell h.c0, k.cell h.c1, k.cell h.c2, k.cell h.c3, k.cell h.c4⟩

/-- A zero column's cells. -/
def zv : Nat → Value
  | 0 => .int .i64 0
  | 1 => .string ⟨#[]⟩
  | 2 => .int .u8 0
  | 3 => .bool false
  | 4 => .bool false
  | 5 => .int .u16 0
  | 6 => .bool false
  | 7 => .int .u64 0
  | _ => .slice none 0 0
def zarr : Array Value := #[.int .i64 0, .string ⟨#[]⟩, .int .u8 0, .bool false, .bool false, .int .u16 0, .bool false, .int .u64 0, .slice none 0 0]
theorem Yba.info35 : (Yba.prog.info? 35).map (fun i => (i.zero, i.size, i.bytes)) = some (some (.agg zarr), 9, 64) := by kernel_rfl

/-- 'make' of a slice of structs of nine cells. -/
theorem run_make9 {P : Program} (t e : TypeId) (zs : Array Value) (bytes : Nat) (ht : P.underlying t = some (.slice e)) (hinfo : (P.info? e).map (fun i => (i.zero, i.size, i.bytes)) = some (some (.agg zs), 9, bytes))
    (kl kc : IntKind) (n : Nat) (hbytes : bytes * n ≤ 281474976710656) (h63 : n ≤ 9223372036854775807) (w : World) :
    (Instr.makeSlice t (.int kl (n : Int)) (.int kc (n : Int))).run P w = .ok (.slice (some ⟨w.heap.size, 0, none⟩) n n) (w.alloc (.cells (madeCells zs (n * 9)) e)) := by
  obtain ⟨i, hi, hzz⟩ := Option.map_eq_some_iff.1 hinfo
  simp only [Prod.mk.injEq] at hzz
  obtain ⟨hz, hs, hb⟩ := hzz
  have hb' : (i.bytes : Int) * (n : Int) ≤ 281474976710656 := by
    have h : ((i.bytes * n : Nat) : Int) ≤ 281474976710656 := by rw [hb]; omega
    rwa [Int.natCast_mul] at h
  have hr := run_make (P := P) w t e i _ ht hi hz kl kc n n (by omega) (Int.le_refl _) hb' (by omega)
  simp only [Int.toNat_natCast, hs] at hr
  exact hr
theorem rowIs_made9 (w : World) (n : Nat) (t : TypeId) : (w.alloc (.cells (madeCells zarr (n * 9)) t)).rowIs w.heap.size t (n * 9) (fun i => zv (i % 9)) := by
  refine ⟨_, blk_alloc_new _ _, size_madeCells _ _, fun i hi => ?_⟩
  simp only [madeCells, Array.getElem?_map, Array.getElem?_range, hi, if_true, Option.map_some]
  rcases (show i % 9 = 0 ∨ i % 9 = 1 ∨ i % 9 = 2 ∨ i % 9 = 3 ∨ i % 9 = 4 ∨ i % 9 = 5 ∨ i % 9 = 6 ∨ i % 9 = 7 ∨ i % 9 = 8 from by omega) with h | h | h | h | h | h | h | h | h <;> simp [h, zv, zarr]

/-- Nine stores. -/
def st9 (w : World) (b o : Nat) (f : Nat → Value) : World :=
  ((((((((w.setCell ⟨b, o, none⟩ (f 0)).setCell ⟨b, o + 1, none⟩ (f 1)).setCell ⟨b, o + 2, none⟩ (f 2)).setCell ⟨b, o + 3, none⟩ (f 3)).setCell ⟨b, o + 4, none⟩ (f 4)).setCell ⟨b, o + 5, none⟩ (f 5)).setCell ⟨b, o + 6, none⟩ (f 6)).setCell ⟨b, o + 7, none⟩ (f 7)).setCell ⟨b, o + 8, none⟩ (f 8)
theorem st9_row {w : World} {b n : Nat} {t : TypeId} (D : Cols) (c : Nat) (h : w.rowIs b t n (fun k => if k < c * 9 then D.cell k else zv (k % 9))) :
    (st9 w b (c * 9) (D.cv c)).rowIs b t n (fun k => if k < (c + 1) * 9 then D.cell k else zv (k % 9)) := by
  refine (((((((((h.set (c * 9) _).set (c * 9 + 1) _).set (c * 9 + 2) _).set (c * 9 + 3) _).set (c * 9 + 4) _).set (c * 9 + 5) _).set (c * 9 + 6) _).set (c * 9 + 7) _).set (c * 9 + 8) _).congr fun j hj => ?_
  by_cases h1 : j < c * 9
  · have n0 : ¬ j = c * 9 := by omega
    have n1 : ¬ j = c * 9 + 1 := by omega
    have n2 : ¬ j = c * 9 + 2 := by omega
    have n3 : ¬ j = c * 9 + 3 := by omega
    have n4 : ¬ j = c * 9 + 4 := by omega
    have n5 : ¬ j = c * 9 + 5 := by omega
    have n6 : ¬ j = c * 9 + 6 := by omega
    have n7 : ¬ j = c * 9 + 7 := by omega
    have n8 : ¬ j = c * 9 + 8 := by omega
    have n9 : j < (c + 1) * 9 := by omega
    simp [n0, n1, n2, n3, n4, n5, n6, n7, n8, n9, h1]
  · by_cases h2 : j < (c + 1) * 9
    · obtain ⟨d, hd, rfl⟩ : ∃ d, d < 9 ∧ j = c * 9 + d := ⟨j - c * 9, by omega, by omega⟩
      have e1 : (c * 9 + d) / 9 = c := by omega
      have e2 : (c * 9 + d) % 9 = d := by omega
      rw [if_pos h2]
      simp only [Cols.cell, e1, e2]
      rcases (show d = 0 ∨ d = 1 ∨ d = 2 ∨ d = 3 ∨ d = 4 ∨ d = 5 ∨ d = 6 ∨ d = 7 ∨ d = 8 by omega) with rfl | rfl | rfl | rfl | rfl | rfl | rfl | rfl | rfl <;> simp
    · have n0 : ¬ j = c * 9 := by omega
      have n1 : ¬ j = c * 9 + 1 := by omega
      have n2 : ¬ j = c * 9 + 2 := by omega
      have n3 : ¬ j = c * 9 + 3 := by omega
      have n4 : ¬ j = c * 9 + 4 := by omega
      have n5 : ¬ j = c * 9 + 5 := by omega
      have n6 : ¬ j = c * 9 + 6 := by omega
      have n7 : ¬ j = c * 9 + 7 := by omega
      have n8 : ¬ j = c * 9 + 8 := by omega
      simp [n0, n1, n2, n3, n4, n5, n6, n7, n8, h1, h2]
theorem st9_other {w : World} {b c n : Nat} {t : TypeId} {f : Nat → Value} (o : Nat) (g : Nat → Value) (hb : ¬ c = b) (h : w.rowIs c t n f) : (st9 w b o g).rowIs c t n f :=
  ((((((((h.setOther hb _).setOther hb _).setOther hb _).setOther hb _).setOther hb _).setOther hb _).setOther hb _).setOther hb _).setOther hb _
theorem st9_keeps {v w : World} {b : Nat} (o : Nat) (g : Nat → Value) (hb : ¬ b < v.heap.size) (h : Keeps (fun _ => False) v w) : Keeps (fun _ => False) v (st9 w b o g) :=
  ((((((((h.setCell _ _ (fun e => absurd e hb)).setCell _ _ (fun e => absurd e hb)).setCell _ _ (fun e => absurd e hb)).setCell _ _ (fun e => absurd e hb)).setCell _ _ (fun e => absurd e hb)).setCell _ _ (fun e => absurd e hb)).setCell _ _ (fun e => absurd e hb)).setCell _ _ (fun e => absurd e hb)).setCell _ _ (fun e => absurd e hb)
end Go.Proofs.Ybulkebvg
