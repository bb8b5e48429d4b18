import Derived.Test.YbulkebqyDoorPartA
import Derived.LaidMore
import Derived.Stop.Joined
import Derived.SizedLaws
import Derived.Deep.Slices
namespace Go.Proofs.YbulkebqyDoor
open Go.ChangeShapes Go.WideShapes Go.ChangeAt Go.RowKit Go.Deep

theorem Ybad.own : ownKnob Ybad.prog.godebug = none := by kernel_rfl
theorem Ybad.laidOut : laidOutB Ybad.prog = true := by kernel_rfl
theorem Ybad.cells28 : Ybad.prog.cellsOf 28 = 6 := by kernel_rfl
theorem Ybad.cells37 : Ybad.prog.cellsOf 37 = 1 := by kernel_rfl
theorem Ybad.cells26 : Ybad.prog.cellsOf 26 = 1 := by kernel_rfl
theorem Ybad.cells25 : Ybad.prog.cellsOf 25 = 1 := by kernel_rfl
theorem Ybad.cells4' : Ybad.prog.cellsOf 4 = 1 := by kernel_rfl
theorem Ybad.cells3' : Ybad.prog.cellsOf 3 = 1 := by kernel_rfl
theorem Ybad.bytes26 : Ybad.prog.bytesOf 26 = 2 := by kernel_rfl
theorem reach_eq : reachBytes = 140737488351232 := rfl

def LAID : List (String × DataW Unit) := Rows.lawS6407BPartRow.laid

/-- The door's own heap meets the condition. -/
theorem door_met (os : Os) (args : Array Value) : laidMetH Ybad.prog LAID ((World.doorLaid Ybad.prog 14 os).forCall (fun _ _ => 0) ⟨#[], args, []⟩).memory :=
  laidMetH_of_parts3 (fuel := 8) (laidMet_of_run' 8 (by kernel_rfl) (by kernel_rfl)) (by kernel_rfl) (by kernel_rfl)

section
variable {H : Type} {enc : TypeId × Value → H} {W : World}

/-- A row of u64 that an argument leads to. -/
theorem open_row64 {a : Option Addr} {len cap : Nat} {d : DataW H} {p : List MemPlace} (h : DataW.Trod enc Ybad.prog W 0 (fun _ => true) true 24 (.slice a len cap) d p) :
    len ≤ 9223372036854775807 ∧ ∃ f : Nat → Int, ArgRow W a len (fun j => .int .u64 (f j)) := by
  obtain ⟨fuel, hf⟩ := h
  rcases open_ints Ybad.underlying24 Ybad.underlying37 Ybad.cells37 hf with ⟨hc, _⟩ | ⟨a', len', cap', zs, hc, _, hl, hm, hz, _, hcell, _⟩
  · simp [Value.cells] at hc
    obtain ⟨_, rfl, _⟩ := hc
    exact ⟨by omega, fun _ => 0, Or.inl rfl⟩
  · simp [Value.cells] at hc
    obtain ⟨rfl, rfl, rfl⟩ := hc
    simp only [if_true] at hz
    refine ⟨by unfold maxLen at hm; omega, fun j => zs.getD j 0, ?_⟩
    by_cases h0 : len = 0
    · exact Or.inl h0
    · right
      obtain ⟨b, o, s⟩ := a'
      have hs : s = none := by simpa [Addr.add] using World.cell?_spot (hcell 0 (by omega))
      subst hs
      exact ⟨b, o, rfl, fun j hj => by have := hcell j (by omega); rwa [add_plain] at this⟩

theorem weightsAll_mem {P : Program} {e : TypeId} : ∀ {l : List (DataW H)} {d : DataW H}, d ∈ l → ∀ n ∈ d.weights P e, n ∈ DataW.weightsAll P e l
  | d' :: r, d, hd, n, hn => by
    simp only [DataW.weightsAll, List.mem_append]
    rcases List.mem_cons.1 hd with rfl | h
    · exact Or.inl hn
    · exact Or.inr (weightsAll_mem h n hn)

/-- One transaction's cells. -/
structure ElIs (W : World) (a : Addr) (x : Bool × Bool × Bool × Int × Nat × Nat × Option Addr × Nat × (Nat → Nat)) (d : DataW H) : Prop where
  c0 : W.cell? a = some (.bool x.1)
  c1 : W.cell? (a.add 1) = some (.bool x.2.1)
  c2 : W.cell? (a.add 2) = some (.int .i64 x.2.2.2.1)
  c3 : W.cell? (a.add 3) = some (.slice x.2.2.2.2.2.2.1 x.2.2.2.2.2.1 x.2.2.2.2.2.2.2.1)
  c4 : W.cell? (a.add 4) = some (.int .u16 (x.2.2.2.2.1 : Nat))
  c5 : W.cell? (a.add 5) = some (.bool x.2.2.1)
  su : ArgRow W x.2.2.2.2.2.2.1 x.2.2.2.2.2.1 (fun j => .int .u16 (x.2.2.2.2.2.2.2.2 j : Nat))
  mb : x.2.2.2.2.1 < 65536
  yb : ∀ j, j < x.2.2.2.2.2.1 → x.2.2.2.2.2.2.2.2 j < 65536
  wt : (∀ n ∈ d.weights Ybad.prog 28, n ≤ reachBytes) → x.2.2.2.2.2.1 ≤ 70368744177664

theorem six {α : Type} {l : List α} (h : l.length = 6) : ∃ a b c d e f, l = [a, b, c, d, e, f] := by
  match l, h with
  | [a, b, c, d, e, f], _ => exact ⟨a, b, c, d, e, f, rfl⟩

set_option maxRecDepth 100000 in
theorem el_open {fuel : Nat} {a : Addr} {cs : List Value} {d : DataW H} {p : List MemPlace} (hc : W.cells? 0 a 6 = some cs) (h : DataW.trod enc Ybad.prog W 0 (fun _ => true) true fuel 28 cs = some (d, p)) :
    ∃ x, ElIs W a x d := by
  obtain ⟨_, hlen, hcell⟩ := World.cells?_some hc
  obtain ⟨xs, k, _, hxy, _, hxl, hf⟩ := DataW.trod_struct Ybad.underlying28 h
  obtain ⟨y0, y1, y2, y3, y4, y5, rfl⟩ := six hxl
  obtain ⟨v0, v1, v2, v3, v4, v5, rfl⟩ := six hlen
  have g0 := hf 0 _ rfl
  have g1 := hf 1 _ rfl
  have g2 := hf 2 _ rfl
  have g3 := hf 3 _ rfl
  have g4 := hf 4 _ rfl
  have g5 := hf 5 _ rfl
  simp [Ybad.cells25, Ybad.cells26, Ybad.cells4', Ybad.cells3'] at g0 g1 g2 g3 g4 g5
  obtain ⟨b0, e0, _⟩ := DataW.trod_bool Ybad.underlying4 g0
  obtain ⟨b1, e1, _⟩ := DataW.trod_bool Ybad.underlying4 g1
  obtain ⟨i2, e2, _, _⟩ := DataW.trod_int Ybad.underlying3 g2
  obtain ⟨i4, e4, _, hw4⟩ := DataW.trod_int Ybad.underlying26 g4
  obtain ⟨b5, e5, _⟩ := DataW.trod_bool Ybad.underlying4 g5
  simp at e0 e1 e2 e4 e5
  subst e0 e1 e2 e4 e5
  obtain ⟨m, rfl⟩ := Int.eq_ofNat_of_zero_le (bounds_u16 hw4).1
  have hm := (bounds_u16 hw4).2
  have q0 := hcell 0 (by omega)
  have q1 := hcell 1 (by omega)
  have q2 := hcell 2 (by omega)
  have q3 := hcell 3 (by omega)
  have q4 := hcell 4 (by omega)
  have q5 := hcell 5 (by omega)
  simp only [List.getElem?_cons_zero, List.getElem?_cons_succ] at q0 q1 q2 q3 q4 q5
  have q0' : W.cell? a = some (.bool b0) := by simpa [Addr.add] using q0
  simp only [Prod.mk.injEq] at hxy
  obtain ⟨rfl, rfl⟩ := hxy
  rcases open_ints Ybad.underlying25 Ybad.underlying26 Ybad.cells26 g3 with ⟨hc3, _⟩ | ⟨a', len', cap', zs, hc3, _, hl, _, hz, hy3, hcell3, hw⟩
  · simp at hc3
    subst hc3
    exact ⟨(b0, b1, b5, i2, m, 0, none, 0, fun _ => 0), q0', q1, q2, q3, q4, q5, Or.inl rfl, by show m < 65536; omega, fun j hj => absurd hj (Nat.not_lt_zero _), fun _ => Nat.zero_le _⟩
  · simp at hc3
    subst hc3
    simp only [if_true] at hz
    have hnn : ∀ j, j < len' → (zs.getD j 0) = (((zs.getD j 0).toNat : Nat) : Int) ∧ (zs.getD j 0).toNat < 65536 := fun j hj => by
      have hj' : j < zs.length := by omega
      have := bounds_u16 (hw (zs.getD j 0) (by simp [List.getD, hj']))
      omega
    refine ⟨(b0, b1, b5, i2, m, len', some a', cap', fun j => (zs.getD j 0).toNat), q0', q1, q2, q3, q4, q5, ?_, by show m < 65536; omega, fun j hj => (hnn j hj).2, fun hwt => ?_⟩
    · by_cases h0 : len' = 0
      · exact Or.inl h0
      · right
        obtain ⟨b, o, s⟩ := a'
        have hs : s = none := by simpa [Addr.add] using World.cell?_spot (hcell3 0 (by omega))
        subst hs
        refine ⟨b, o, rfl, fun j hj => ?_⟩
        have hj' : j < len' := hj
        have := hcell3 j (by omega)
        rw [add_plain] at this
        rw [this, (hnn j hj').1]
    · subst hy3
      have hthis := hwt (((lits .u16 (zs.take len') : List (DataW H)).length + (lits .u16 (zs.drop len') : List (DataW H)).length) * Ybad.prog.bytesOf 26) (by
        simp [DataW.weights, DataW.weightsEach, Ybad.underlying28, Ybad.underlying25])
      simp only [lits, List.length_map, List.length_take, List.length_drop, Ybad.bytes26, reach_eq] at hthis
      show len' ≤ _
      omega

/-- The transactions that an argument leads to. -/
theorem open_txs {ts : List TypeId} {ds : List (DataW H)} {j : Nat} {a : Option Addr} {len cap : Nat} {d : DataW H} {p : List MemPlace} (h : DataW.Trod enc Ybad.prog W 0 (fun _ => true) true 23 (.slice a len cap) d p)
    (hsz : (DataW.weightsEach Ybad.prog ts ds).all (· ≤ reachBytes) = true) (ht : ts[j]? = some 23) (hd : ds[j]? = some d) :
    len ≤ 9223372036854775807 ∧ ∃ X : Tx, (len = 0 ∨ ∃ xb xo, a = some ⟨xb, xo, none⟩ ∧ TxsIs W xb xo len X) ∧ (∀ i, i < len → X.L i ≤ 70368744177664) ∧ (∀ i, i < len → X.mb i < 65536) ∧ (∀ i j, i < len → j < X.L i → X.Y i j < 65536) := by
  obtain ⟨fuel, hf⟩ := h
  rcases open_slice Ybad.underlying23 hf with ⟨hc, _⟩ | ⟨a', len', cap', m, n, D, Pl, hc, _, hl, hm, hmm, hx, hel⟩
  · simp [Value.cells] at hc
    obtain ⟨_, rfl, _⟩ := hc
    exact ⟨by omega, zeroTx, Or.inl rfl, fun _ h => absurd h (Nat.not_lt_zero _), fun _ h => absurd h (Nat.not_lt_zero _), fun _ _ h => absurd h (Nat.not_lt_zero _)⟩
  · simp [Value.cells] at hc
    obtain ⟨rfl, rfl, rfl⟩ := hc
    simp only [if_true] at hmm
    subst hmm
    refine ⟨by unfold maxLen at hm; omega, ?_⟩
    rw [Ybad.cells28] at hel
    obtain ⟨x, hxs⟩ := choose_lt (n := len) (p := fun i x => ElIs W (a'.add (i * 6)) x (D i)) (fun i hi => by
      obtain ⟨cs', h1, h2⟩ := hel i (by omega)
      exact el_open h1 h2)
    simp only [Prod.mk.injEq] at hx
    obtain ⟨rfl, _⟩ := hx
    have hwt : ∀ i, i < len → ∀ n ∈ (D i).weights Ybad.prog 28, n ≤ reachBytes := fun i hi n hn => by
      refine of_decide_eq_true (List.all_eq_true.1 hsz _ (DataW.weights_mem_each ht hd _ ?_))
      simp only [DataW.weights, Ybad.underlying23, List.mem_cons, List.mem_append]
      exact Or.inr (Or.inl (weightsAll_mem (List.mem_map.2 ⟨i, List.mem_range.2 hi, rfl⟩) _ hn))
    refine ⟨⟨fun i => (x i).1, fun i => (x i).2.1, fun i => (x i).2.2.1, fun i => (x i).2.2.2.1, fun i => (x i).2.2.2.2.1, fun i => (x i).2.2.2.2.2.1, fun i => (x i).2.2.2.2.2.2.1, fun i => (x i).2.2.2.2.2.2.2.1, fun i => (x i).2.2.2.2.2.2.2.2⟩, ?_,
      fun i hi => (hxs i hi).wt (hwt i hi), fun i hi => (hxs i hi).mb, fun i j hi hj => (hxs i hi).yb j hj⟩
    by_cases h0 : len = 0
    · exact Or.inl h0
    · right
      obtain ⟨b, o, s⟩ := a'
      have hs : s = none := by simpa [Addr.add] using World.cell?_spot (hxs 0 (by omega)).c0
      subst hs
      refine ⟨b, o, rfl, ?_⟩
      refine ⟨fun i hi => ?_, fun i hi => ?_, fun i hi => ?_, fun i hi => ?_, fun i hi => ?_, fun i hi => ?_, fun i hi => (hxs i hi).su⟩
      · have := (hxs i hi).c0; simpa only [add_plain] using this
      · have := (hxs i hi).c1; simpa only [add_plain] using this
      · have := (hxs i hi).c2; simpa only [add_plain] using this
      · have := (hxs i hi).c3; simpa only [add_plain] using this
      · have := (hxs i hi).c4; simpa only [add_plain] using this
      · have := (hxs i hi).c5; simpa only [add_plain] using this
end
end Go.Proofs.YbulkebqyDoor
