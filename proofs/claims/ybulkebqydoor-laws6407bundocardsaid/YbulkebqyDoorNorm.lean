import Derived.Test.YbulkebqyDoorBuildA
import Derived.Deep.CutBlock
import Derived.Deep.DeepCutAuto
namespace Go.Proofs.YbulkebqyDoor
open Go.RowKit Go.Deep

/-- The transactions that came in, as plain data. -/
structure Tx where
  kp : Nat → Bool
  pl : Nat → Bool
  rd : Nat → Bool
  wt : Nat → Int
  mb : Nat → Nat
  L : Nat → Nat
  A : Nat → Option Addr
  C : Nat → Nat
  Y : Nat → Nat → Nat

structure TxsIs (w : World) (xb xo n : Nat) (X : Tx) : Prop where
  c0 : ∀ i, i < n → w.cell? ⟨xb, xo + i * 6, none⟩ = some (.bool (X.kp i))
  c1 : ∀ i, i < n → w.cell? ⟨xb, xo + i * 6 + 1, none⟩ = some (.bool (X.pl i))
  c2 : ∀ i, i < n → w.cell? ⟨xb, xo + i * 6 + 2, none⟩ = some (.int .i64 (X.wt i))
  c3 : ∀ i, i < n → w.cell? ⟨xb, xo + i * 6 + 3, none⟩ = some (.slice (X.A i) (X.L i) (X.C i))
  c4 : ∀ i, i < n → w.cell? ⟨xb, xo + i * 6 + 4, none⟩ = some (.int .u16 (X.mb i))
  c5 : ∀ i, i < n → w.cell? ⟨xb, xo + i * 6 + 5, none⟩ = some (.bool (X.rd i))
  su : ∀ i, i < n → ArgRow w (X.A i) (X.L i) (fun j => .int .u16 (X.Y i j))

theorem TxsIs.keeps {w w' : World} {xb xo n : Nat} {X : Tx} (h : TxsIs w xb xo n X) (k : Keeps (fun _ => False) w w') : TxsIs w' xb xo n X :=
  ⟨fun i hi => k.cell (h.c0 i hi), fun i hi => k.cell (h.c1 i hi), fun i hi => k.cell (h.c2 i hi), fun i hi => k.cell (h.c3 i hi), fun i hi => k.cell (h.c4 i hi), fun i hi => k.cell (h.c5 i hi), fun i hi => (h.su i hi).keeps k⟩

/-- What 'norm' has laid. -/
structure NormIs (w : World) (B n : Nat) (X : Tx) : Prop where
  kp : w.rowIs B 4 n (fun i => .bool (X.kp i))
  pl : w.rowIs (B + 1) 4 n (fun i => .bool (X.pl i))
  rd : w.rowIs (B + 2) 4 n (fun i => .bool (X.rd i))
  wt : w.rowIs (B + 3) 3 n (fun i => .int .i64 (X.wt i))
  mb : w.rowIs (B + 4) 3 n (fun i => .int .i64 ((X.mb i % n : Nat) : Int))
  sc : w.rowIs (B + 5) 30 n (fun i => .slice (some ⟨B + 6 + i, 0, none⟩) (X.L i) (X.L i))
  su : ∀ i, i < n → w.rowIs (B + 6 + i) 3 (X.L i) (fun j => .int .i64 ((X.Y i j % n : Nat) : Int))

def upto (i : Nat) (f : Nat → Value) (z : Value) : Nat → Value := fun k => if k < i then f k else z
theorem upto_step (i : Nat) (f : Nat → Value) (z : Value) (k : Nat) : (if k = i then f i else upto i f z k) = upto (i + 1) f z k := by
  unfold upto
  by_cases e : k = i
  · subst e; simp
  · have : (k < i + 1) = (k < i) := by simp; omega
    simp [e, this]
theorem upto_all {i : Nat} {f : Nat → Value} {z : Value} : ∀ k, k < i → upto i f z k = f k := fun k hk => by simp [upto, hk]
theorem upto_zero {f : Nat → Value} {z : Value} : ∀ k, z = upto 0 f z k := fun k => by simp [upto]

/-- .. behind i of its rounds. -/
structure NormAt (w : World) (B n i : Nat) (X : Tx) : Prop where
  kp : w.rowIs B 4 n (upto i (fun i => .bool (X.kp i)) (.bool false))
  pl : w.rowIs (B + 1) 4 n (upto i (fun i => .bool (X.pl i)) (.bool false))
  rd : w.rowIs (B + 2) 4 n (upto i (fun i => .bool (X.rd i)) (.bool false))
  wt : w.rowIs (B + 3) 3 n (upto i (fun i => .int .i64 (X.wt i)) (.int .i64 0))
  mb : w.rowIs (B + 4) 3 n (upto i (fun i => .int .i64 ((X.mb i % n : Nat) : Int)) (.int .i64 0))
  sc : w.rowIs (B + 5) 30 n (upto i (fun i => .slice (some ⟨B + 6 + i, 0, none⟩) (X.L i) (X.L i)) (.slice none 0 0))
  su : ∀ k, k < i → w.rowIs (B + 6 + k) 3 (X.L k) (fun j => .int .i64 ((X.Y k j % n : Nat) : Int))
  sz : w.heap.size = B + 6 + i

/-- The five plain stores of a round. -/
theorem norm_step5 {wr w5 : World} {B n c : Nat} {X : Tx} (h : NormAt wr B n c X)
    (e : w5 = ((((wr.setCell ⟨B, c, none⟩ (.bool (X.kp c))).setCell ⟨B + 1, c, none⟩ (.bool (X.pl c))).setCell ⟨B + 3, c, none⟩ (.int .i64 (X.wt c))).setCell ⟨B + 4, c, none⟩ (.int .i64 (↑(X.mb c) % ↑n))).setCell ⟨B + 2, c, none⟩ (.bool (X.rd c))) :
    w5.rowIs B 4 n (upto (c + 1) (fun i => .bool (X.kp i)) (.bool false)) ∧ w5.rowIs (B + 1) 4 n (upto (c + 1) (fun i => .bool (X.pl i)) (.bool false)) ∧ w5.rowIs (B + 2) 4 n (upto (c + 1) (fun i => .bool (X.rd i)) (.bool false)) ∧
    w5.rowIs (B + 3) 3 n (upto (c + 1) (fun i => .int .i64 (X.wt i)) (.int .i64 0)) ∧ w5.rowIs (B + 4) 3 n (upto (c + 1) (fun i => .int .i64 ((X.mb i % n : Nat) : Int)) (.int .i64 0)) ∧
    w5.rowIs (B + 5) 30 n (upto c (fun i => .slice (some ⟨B + 6 + i, 0, none⟩) (X.L i) (X.L i)) (.slice none 0 0)) ∧
    (∀ k, k < c → w5.rowIs (B + 6 + k) 3 (X.L k) (fun j => .int .i64 ((X.Y k j % n : Nat) : Int))) ∧ w5.heap.size = B + 6 + c := by
  have o : ∀ {w : World} {b b' t m : Nat} {f : Nat → Value} {i : Nat} {v : Value}, w.rowIs b t m f → b ≠ b' → (w.setCell ⟨b', i, none⟩ v).rowIs b t m f := fun h hb => h.setOther hb _
  have m1 : Value.int .i64 (↑(X.mb c) % ↑n) = .int .i64 ((X.mb c % n : Nat) : Int) := by simp
  rw [m1] at e
  subst e
  refine ⟨?_, ?_, ?_, ?_, ?_, ?_, fun k hk => ?_, ?_⟩
  · exact o (o (o (o ((h.kp.set c _).congr fun k _ => upto_step c (fun i => .bool (X.kp i)) _ k) (by omega)) (by omega)) (by omega)) (by omega)
  · exact o (o (o (((o h.pl (by omega)).set c _).congr fun k _ => upto_step c (fun i => .bool (X.pl i)) _ k) (by omega)) (by omega)) (by omega)
  · exact ((o (o (o (o h.rd (by omega)) (by omega)) (by omega)) (by omega)).set c _).congr fun k _ => upto_step c (fun i => .bool (X.rd i)) _ k
  · exact o (o (((o (o h.wt (by omega)) (by omega)).set c _).congr fun k _ => upto_step c (fun i => .int .i64 (X.wt i)) _ k) (by omega)) (by omega)
  · exact o (((o (o (o h.mb (by omega)) (by omega)) (by omega)).set c _).congr fun k _ => upto_step c (fun i => .int .i64 ((X.mb i % n : Nat) : Int)) _ k) (by omega)
  · exact o (o (o (o (o h.sc (by omega)) (by omega)) (by omega)) (by omega)) (by omega)
  · exact o (o (o (o (o (h.su k hk) (by omega)) (by omega)) (by omega)) (by omega)) (by omega)
  · simp only [nblk_setCell]; exact h.sz

theorem norm_keep5 {w wr w5 : World} {c : Nat} {a b d e f : Value} (k : Keeps (fun _ => False) w wr)
    (h : w5 = ((((wr.setCell ⟨w.heap.size, c, none⟩ a).setCell ⟨w.heap.size + 1, c, none⟩ b).setCell ⟨w.heap.size + 3, c, none⟩ d).setCell ⟨w.heap.size + 4, c, none⟩ e).setCell ⟨w.heap.size + 2, c, none⟩ f) : Keeps (fun _ => False) w w5 := by
  subst h
  have z : ∀ j, ¬ w.heap.size + j < w.heap.size := fun j => by omega
  exact ((((k.setCell _ _ (fun e => absurd e (z 0))).setCell _ _ (fun e => absurd e (z 1))).setCell _ _ (fun e => absurd e (z 3))).setCell _ _ (fun e => absurd e (z 4))).setCell _ _ (fun e => absurd e (z 2))

theorem made_at (w : World) (z : Value) (n t B : Nat) (h : w.heap.size = B) : (w.alloc (.cells (madeCells #[z] n) t)).rowIs B t n (fun _ => z) := by subst h; exact World.rowIs_made _ _ _ _
theorem norm_start (w : World) (n : Nat) (X : Tx) : NormAt ((((((w.alloc (.cells (madeCells #[.bool false] n) 4)).alloc (.cells (madeCells #[.bool false] n) 4)).alloc (.cells (madeCells #[.bool false] n) 4)).alloc (.cells (madeCells #[.int .i64 0] n) 3)).alloc (.cells (madeCells #[.int .i64 0] n) 3)).alloc (.cells (madeCells #[.slice none 0 0] n) 30)) w.heap.size n 0 X := by
  refine ⟨?_, ?_, ?_, ?_, ?_, ?_, fun k hk => absurd hk (Nat.not_lt_zero _), by simp only [nblk_alloc]⟩
  · exact ((((((made_at w _ n 4 _ rfl).alloc _).alloc _).alloc _).alloc _).alloc _).congr fun k _ => upto_zero k
  · exact (((((made_at _ _ n 4 (w.heap.size + 1) (by simp only [nblk_alloc])).alloc _).alloc _).alloc _).alloc _).congr fun k _ => upto_zero k
  · exact ((((made_at _ _ n 4 (w.heap.size + 2) (by simp only [nblk_alloc])).alloc _).alloc _).alloc _).congr fun k _ => upto_zero k
  · exact (((made_at _ _ n 3 (w.heap.size + 3) (by simp only [nblk_alloc])).alloc _).alloc _).congr fun k _ => upto_zero k
  · exact ((made_at _ _ n 3 (w.heap.size + 4) (by simp only [nblk_alloc])).alloc _).congr fun k _ => upto_zero k
  · exact (made_at _ _ n 30 (w.heap.size + 5) (by simp only [nblk_alloc])).congr fun k _ => upto_zero k

theorem norm_round {w5 w6 w2 : World} {B n c : Nat} {X : Tx}
    (h : w5.rowIs B 4 n (upto (c + 1) (fun i => .bool (X.kp i)) (.bool false)) ∧ w5.rowIs (B + 1) 4 n (upto (c + 1) (fun i => .bool (X.pl i)) (.bool false)) ∧ w5.rowIs (B + 2) 4 n (upto (c + 1) (fun i => .bool (X.rd i)) (.bool false)) ∧
    w5.rowIs (B + 3) 3 n (upto (c + 1) (fun i => .int .i64 (X.wt i)) (.int .i64 0)) ∧ w5.rowIs (B + 4) 3 n (upto (c + 1) (fun i => .int .i64 ((X.mb i % n : Nat) : Int)) (.int .i64 0)) ∧
    w5.rowIs (B + 5) 30 n (upto c (fun i => .slice (some ⟨B + 6 + i, 0, none⟩) (X.L i) (X.L i)) (.slice none 0 0)) ∧
    (∀ k, k < c → w5.rowIs (B + 6 + k) 3 (X.L k) (fun j => .int .i64 ((X.Y k j % n : Nat) : Int))) ∧ w5.heap.size = B + 6 + c)
    (hs : w5.heap.size = B + 6 + c) (k56 : Keeps (fun k => k = B + 5) w5 w6) (hsc : w6.rowIs (B + 5) 30 n (upto (c + 1) (fun i => .slice (some ⟨B + 6 + i, 0, none⟩) (X.L i) (X.L i)) (.slice none 0 0))) (hz : w6.heap.size = w5.heap.size + 1)
    (hr : w2.rowIs w5.heap.size 3 (X.L c) (fun j => .int .i64 ((X.Y c j % n : Nat) : Int))) (k62 : Keeps (fun k => k = w5.heap.size) w6 w2) (hz2 : w2.heap.size = w6.heap.size) : NormAt w2 B n (c + 1) X := by
  obtain ⟨h0, h1, h2, h3, h4, _, h6, _⟩ := h
  have q : ∀ {b t m : Nat} {f : Nat → Value}, w5.rowIs b t m f → b ≠ B + 5 → b ≠ w5.heap.size → w2.rowIs b t m f := fun h e1 e2 => k62.row (k56.row h e1) e2
  refine ⟨q h0 (by omega) (by omega), q h1 (by omega) (by omega), q h2 (by omega) (by omega), q h3 (by omega) (by omega), q h4 (by omega) (by omega), k62.row hsc (fun e => by omega), fun k hk => ?_, by omega⟩
  by_cases e : k = c
  · subst e
    rw [hs] at hr
    exact hr
  · exact q (h6 k (by omega)) (by omega) (by omega)

set_option maxRecDepth 100000 in
set_option maxHeartbeats 2000000 in
theorem norm_any (xb xo n xc : Nat) (X : Tx) (w : World) (hX : TxsIs w xb xo n X) (h1 : 1 ≤ n) (h2 : n ≤ 4096) (hL : ∀ i, i < n → X.L i ≤ 65536) (hM : ∀ i, i < n → X.mb i < 65536) (hY : ∀ i j, i < n → j < X.L i → X.Y i j < 65536) :
    Calls Ybad.prog 5 #[.slice (some ⟨xb, xo, none⟩) n xc] w fun e w' =>
      e = .returned (.tuple #[.slice (some ⟨w.heap.size, 0, none⟩) n n, .slice (some ⟨w.heap.size + 1, 0, none⟩) n n, .slice (some ⟨w.heap.size + 3, 0, none⟩) n n, .slice (some ⟨w.heap.size + 5, 0, none⟩) n n, .slice (some ⟨w.heap.size + 4, 0, none⟩) n n, .slice (some ⟨w.heap.size + 2, 0, none⟩) n n]) ∧
      NormIs w' w.heap.size n X ∧ Keeps (fun _ => False) w w' := by
  have hmkB := run_make_row' (P := Ybad.prog) 29 4 (.bool false) 1 Ybad.underlying29 Ybad.info4 rfl .i64 .i64 n (by omega) (by omega)
  have hmkI := run_make_row' (P := Ybad.prog) 30 3 (.int .i64 0) 8 Ybad.underlying30 Ybad.info3 rfl .i64 .i64 n (by omega) (by omega)
  have hmkS := run_make_row' (P := Ybad.prog) 31 30 (.slice none 0 0) 24 Ybad.underlying31 Ybad.info30 rfl .i64 .i64 n (by omega) (by omega)
  have HX := hid hX
  have HL := hid hL
  have HM := hid hM
  have HY := hid hY
  have hxb : xb < w.heap.size := cell_lt (hX.c0 0 (by omega))
  clear hX hL hM hY
  go_enter Ybad.func5, Ybad.ntmps5
  go_wp2
  go_loopg [9] n (fun g i wr => ∃ c : Nat, c + g = n ∧ i = .int .i64 c ∧ NormAt wr w.heap.size n c X ∧ Keeps (fun _ => False) w wr)
  case atStart =>
    refine ⟨0, by omega, rfl, norm_start w n X, (((((((Keeps.refl _ _).alloc _).alloc _).alloc _).alloc _).alloc _).alloc _)⟩
  case round =>
    obtain ⟨c, hc, rfl, hN, hK⟩ := hrel
    have HN := hid hN
    have HK := hid hK
    by_cases hlt : c < n
    · have hx := HX.out.keeps hK
      have x0 := hx.c0 c hlt
      have x1 := hx.c1 c hlt
      have x2 := hx.c2 c hlt
      have x3 := hx.c3 c hlt
      have x4 := hx.c4 c hlt
      have x5 := hx.c5 c hlt
      obtain ⟨v0, k0⟩ : ∃ v, wr.cell? ⟨w.heap.size, c, none⟩ = some v := ⟨_, hN.kp.cell hlt⟩
      obtain ⟨v1, k1⟩ : ∃ v, wr.cell? ⟨w.heap.size + 1, c, none⟩ = some v := ⟨_, hN.pl.cell hlt⟩
      obtain ⟨v2, k2⟩ : ∃ v, wr.cell? ⟨w.heap.size + 2, c, none⟩ = some v := ⟨_, hN.rd.cell hlt⟩
      obtain ⟨v3, k3⟩ : ∃ v, wr.cell? ⟨w.heap.size + 3, c, none⟩ = some v := ⟨_, hN.wt.cell hlt⟩
      obtain ⟨v4, k4⟩ : ∃ v, wr.cell? ⟨w.heap.size + 4, c, none⟩ = some v := ⟨_, hN.mb.cell hlt⟩
      obtain ⟨v5, k5⟩ : ∃ v, wr.cell? ⟨w.heap.size + 5, c, none⟩ = some v := ⟨_, hN.sc.cell hlt⟩
      have f0 : wr.frozen? ⟨w.heap.size, c, none⟩ = false := hN.kp.frozen c
      have f1 : wr.frozen? ⟨w.heap.size + 1, c, none⟩ = false := hN.pl.frozen c
      have f2 : wr.frozen? ⟨w.heap.size + 2, c, none⟩ = false := hN.rd.frozen c
      have f3 : wr.frozen? ⟨w.heap.size + 3, c, none⟩ = false := hN.wt.frozen c
      have f4 : wr.frozen? ⟨w.heap.size + 4, c, none⟩ = false := hN.mb.frozen c
      have f5 : wr.frozen? ⟨w.heap.size + 5, c, none⟩ = false := hN.sc.frozen c
      have hsz : w.heap.size + 6 ≤ wr.heap.size := by rw [hN.sz]; omega
      have hLc := HL.out c hlt
      have hMc := HM.out c hlt
      have hmkL := run_make_row' (P := Ybad.prog) 30 3 (.int .i64 0) 8 Ybad.underlying30 Ybad.info3 rfl .i64 .i64 (X.L c) (by omega) (by omega)
      clear hN hK hx hmkB hmkS hmkI
      go_upto_region 16 with fail
      obtain ⟨w5, hw5⟩ : ∃ w5, w5 = ((((wr.setCell { block := w.heap.size, off := c } (Value.bool (X.kp c))).setCell { block := w.heap.size + 1, off := c } (Value.bool (X.pl c))).setCell { block := w.heap.size + 1 + 1 + 1, off := c } (Value.int IntKind.i64 (X.wt c))).setCell { block := w.heap.size + 1 + 1 + 1 + 1, off := c } (Value.int IntKind.i64 (↑(X.mb c) % ↑n))).setCell { block := w.heap.size + 1 + 1, off := c } (Value.bool (X.rd c)) := ⟨_, rfl⟩
      rw [← hw5]
      have hN5 := norm_step5 HN.out hw5
      have hK5 := norm_keep5 HK.out hw5
      have HN5 := hid hN5
      have HK5 := hid hK5
      have y3 : w5.cell? ⟨xb, xo + c * 6 + 3, none⟩ = some (.slice (X.A c) (X.L c) (X.C c)) := (HX.out.keeps hK5).c3 c hlt
      obtain ⟨z5, g5⟩ : ∃ v, w5.cell? ⟨w.heap.size + 5, c, none⟩ = some v := ⟨_, hN5.2.2.2.2.2.1.cell hlt⟩
      have e5 : w5.frozen? ⟨w.heap.size + 5, c, none⟩ = false := hN5.2.2.2.2.2.1.frozen c
      have hs5 : w5.heap.size = w.heap.size + 6 + c := hN5.2.2.2.2.2.2.2
      clear hw5 hN5 hK5 x0 x1 x2 x3 x4 x5 k0 k1 k2 k3 k4 k5 f0 f1 f2 f3 f4 f5 hsz hMc
      have Hs5 := hid hs5
      have hs6 : w.heap.size + 6 ≤ w5.heap.size := by omega
      have g5' : ∀ o, (w5.alloc o).cell? ⟨w.heap.size + 1 + 1 + 1 + 1 + 1, c, none⟩ = some z5 := fun o => (World.cell?_of_block (w := w5) (blk_alloc_lt _ _ _ (by show w.heap.size + 5 < _; omega))).trans g5
      have e5' : ∀ o, (w5.alloc o).frozen? ⟨w.heap.size + 1 + 1 + 1 + 1 + 1, c, none⟩ = false := fun o => (World.frozen?_of_block (w := w5) (blk_alloc_lt _ _ _ (by show w.heap.size + 5 < _; omega))).trans e5
      clear hs5
      go_upto_block 2 with fail
      obtain ⟨w6, hw6⟩ : ∃ w6, w6 = (w5.alloc (Obj.cells (madeCells #[Value.int IntKind.i64 0] (X.L c)) 3)).setCell { block := w.heap.size + 1 + 1 + 1 + 1 + 1, off := c } (Value.slice (some { block := w5.heap.size, off := 0 }) (X.L c) (X.L c)) := ⟨_, rfl⟩
      rw [← hw6]
      have r6 : w6.rowIs w5.heap.size 3 (X.L c) (fun _ => .int .i64 0) := by
        rw [hw6]; exact (World.rowIs_made _ _ _ _).setOther (a := ⟨w.heap.size + 5, c, none⟩) (by show w5.heap.size ≠ w.heap.size + 5; omega) _
      have hK56 : Keeps (fun k => k = w.heap.size + 5) w5 w6 := by rw [hw6]; exact ((Keeps.refl _ _).alloc _).setCell _ _ (fun _ => rfl)
      have hsc6 : w6.rowIs (w.heap.size + 5) 30 n (upto (c + 1) (fun i => .slice (some ⟨w.heap.size + 6 + i, 0, none⟩) (X.L i) (X.L i)) (.slice none 0 0)) := by
        rw [hw6, Hs5.out]
        exact ((HN5.out.2.2.2.2.2.1.alloc _).set c _).congr fun k _ => upto_step c (fun i => .slice (some ⟨w.heap.size + 6 + i, 0, none⟩) (X.L i) (X.L i)) _ k
      have hK6 : Keeps (fun _ => False) w w6 := HK5.out.trans (hK56.mono (S' := fun k => k = w.heap.size + 5) (fun _ _ e => e)) (fun k hk e => by omega)
      have hz6 : w6.heap.size = w5.heap.size + 1 := by rw [hw6, nblk_setCell, nblk_alloc]
      have HR6 := hid r6
      have HK56 := hid hK56
      have HSC6 := hid hsc6
      have HK6 := hid hK6
      have HZ6 := hid hz6
      clear hw6 r6 hK56 hsc6 hK6 hz6 g5' e5' g5 e5 hmkL y3
      go_wp2
      go_loopg [10] (X.L c) (fun g i wr => ∃ j : Nat, j + g = X.L c ∧ i = .int .i64 j ∧ wr.rowIs w5.heap.size 3 (X.L c) (upto j (fun j => .int .i64 ((X.Y c j % n : Nat) : Int)) (.int .i64 0)) ∧ Keeps (fun k => k = w5.heap.size) w6 wr ∧ wr.heap.size = w6.heap.size)
      case atStart => exact ⟨0, by omega, rfl, HR6.out.congr fun k _ => upto_zero k, Keeps.refl _ _, rfl⟩
      case round =>
        obtain ⟨j, hj, rfl, hR, hK1, hz1⟩ := hrel
        have HR := hid hR
        have HK1 := hid hK1
        have HZ1 := hid hz1
        have kx : Keeps (fun _ => False) w wr := HK6.out.trans hK1 (fun k hk e => by omega)
        have x3 : wr.cell? ⟨xb, xo + c * 6 + 3, none⟩ = some (.slice (X.A c) (X.L c) (X.C c)) := (HX.out.keeps kx).c3 c hlt
        by_cases hjl : j < X.L c
        · obtain ⟨vb, vo, hA, cy⟩ := ((HX.out.su c hlt).keeps kx).at' hjl
          rw [hA] at x3
          have hYc := HY.out c j hlt hjl
          have csc : wr.cell? ⟨w.heap.size + 5, c, none⟩ = some (.slice (some ⟨w5.heap.size, 0, none⟩) (X.L c) (X.L c)) := by
            have := (hK1.row HSC6.out (fun e => by omega)).cell hlt
            rw [this]
            simp [upto, Hs5.out]
          obtain ⟨v0, cr⟩ : ∃ v, wr.cell? ⟨w5.heap.size, j, none⟩ = some v := ⟨_, hR.cell hjl⟩
          have fr : wr.frozen? ⟨w5.heap.size, j, none⟩ = false := hR.frozen j
          clear hR hK1 hz1 kx hA
          go_wp2
          go_region
          all_goals
            go_wp2
            go_roundg (X.L c - (j + 1))
            case measure => omega
            case rel =>
              refine ⟨j + 1, by omega, by go_num, (HR.out.set j (.int .i64 (↑(X.Y c j) % ↑n))).drew.congr fun k _ => ?_, (HK1.out.setCell _ _ (fun _ => rfl)).drew, (nblk_setCell _ _ _).trans HZ1.out⟩
              rw [← upto_step]
              simp
        · clear hR hK1 hz1
          obtain rfl : j = X.L c := by omega
          go_wp2
          go_roundg (n - (c + 1))
          case measure => omega
          case rel => exact ⟨c + 1, by omega, by go_num, norm_round HN5.out Hs5.out HK56.out HSC6.out HZ6.out (HR.out.congr upto_all) HK1.out HZ1.out, HK6.out.trans HK1.out (fun k hk e => by omega)⟩
    · obtain rfl : c = n := by omega
      clear hN hK
      go_wp2
      go_returns
      exact ⟨rfl, ⟨HN.out.kp.congr upto_all, HN.out.pl.congr upto_all, HN.out.rd.congr upto_all, HN.out.wt.congr upto_all, HN.out.mb.congr upto_all, HN.out.sc.congr upto_all, HN.out.su⟩, HK.out⟩
end Go.Proofs.YbulkebqyDoor
