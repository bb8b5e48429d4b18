import Derived.Test.YbulkebqyDoorTxn
namespace Go.Proofs.YbulkebqyDoor
open Go.RowKit Go.Deep

/-- The placement's struct. -/
def PlBlk (w : World) (qb pb plb pcap n wb wcap mb mcap sb : Nat) (ov fv scv : Value) : Prop :=
  w.heap[qb]? = some (.cells #[.pointer (some ⟨pb, 0, none⟩), ov, .slice (some ⟨plb, 0, none⟩) n pcap, fv, scv, .slice (some ⟨wb, 0, none⟩) n wcap, .slice (some ⟨mb, 0, none⟩) n mcap, .pointer (some ⟨sb, 0, none⟩)] 47 (0, 0))

/-- What 'release' and 'hold' speak of: the counts, the members, the ready set. -/
structure WaitIs (w : World) (qb pb plb pcap n wb wcap mb mcap sb : Nat) (ov fv scv : Value) (wt : Nat → Int) (mem : Nat → Nat) (lb nl lcap : Nat) (bs ss : Nat → Nat) (W : Nat → Nat → Int) : Prop where
  blk : PlBlk w qb pb plb pcap n wb wcap mb mcap sb ov fv scv
  wait : Rw w wb 3 n (fun i => .int .i64 (wt i))
  mems : Rw w mb 3 n (fun i => .int .i64 (mem i))
  txn : TxnIs w sb lb nl lcap bs ss W

def setI (f : Nat → Int) (i : Nat) (v : Int) : Nat → Int := fun j => if j = i then v else f j
/-- What 'release u' makes of counts and words. -/
def relW (nl : Nat) (wt : Nat → Int) (mem : Nat → Nat) (W : Nat → Nat → Int) (u : Nat) : Nat → Nat → Int := if wrap64 (wt u - 1) = 0 then addW nl 0 (mem u) W else W
def holdW (nl : Nat) (wt : Nat → Int) (mem : Nat → Nat) (W : Nat → Nat → Int) (u : Nat) : Nat → Nat → Int := if wt u = 0 then remW nl 0 (mem u) W else W
def WS (wb : Nat) (bs : Nat → Nat) (nl k : Nat) : Prop := k = wb ∨ BS bs nl k

theorem BS_type {w : World} {sb lb nl lcap k : Nat} {bs ss : Nat → Nat} {W : Nat → Nat → Int} (h : TxnIs w sb lb nl lcap bs ss W) {c : Array Value} {t : TypeId} (hk : w.heap[k]? = some (.cells c t (0, 0))) (ht : t ≠ 37) : ¬ BS bs nl k := by
  rintro ⟨i, hi, rfl⟩
  obtain ⟨c', hc'⟩ := row_blk (h.row i hi)
  exact ne_of_types hk hc' ht rfl

theorem WaitIs.stored {w : World} {qb pb plb pcap n wb wcap mb mcap sb : Nat} {ov fv scv : Value} {wt : Nat → Int} {mem : Nat → Nat} {lb nl lcap : Nat} {bs ss : Nat → Nat} {W : Nat → Nat → Int}
    (h : WaitIs w qb pb plb pcap n wb wcap mb mcap sb ov fv scv wt mem lb nl lcap bs ss W) (hwm : ¬ wb = mb) (u : Nat) (v : Int) :
    WaitIs (w.setCell ⟨wb, u, none⟩ (.int .i64 v)) qb pb plb pcap n wb wcap mb mcap sb ov fv scv (setI wt u v) mem lb nl lcap bs ss W := by
  obtain ⟨cw, hcw⟩ := h.wait.blk
  have hk : Keeps (fun k => k = wb) w (w.setCell ⟨wb, u, none⟩ (.int .i64 v)) := (Keeps.refl _ _).setCell _ _ (fun _ => rfl)
  obtain ⟨cl, hcl⟩ := h.txn.lev.blk
  refine ⟨hk.at' h.blk (ne_of_types h.blk hcw (by decide)), (h.wait.set u _).congr fun j _ => ?_, h.mems.keeps hk (fun e => hwm e.symm), h.txn.keeps hk (ne_of_types h.txn.blk hcw (by decide)) (ne_of_types hcl hcw (by decide)) fun i hi => ?_⟩
  · simp only [setI]; split <;> rfl
  · obtain ⟨cb, hcb⟩ := row_blk (h.txn.row i hi)
    exact ne_of_types hcb hcw (by decide)

theorem WaitIs.worded {w w' : World} {qb pb plb pcap n wb wcap mb mcap sb : Nat} {ov fv scv : Value} {wt : Nat → Int} {mem : Nat → Nat} {lb nl lcap : Nat} {bs ss : Nat → Nat} {W W' : Nat → Nat → Int}
    (h : WaitIs w qb pb plb pcap n wb wcap mb mcap sb ov fv scv wt mem lb nl lcap bs ss W) (hk : Keeps (BS bs nl) w w') (ht : TxnIs w' sb lb nl lcap bs ss W') :
    WaitIs w' qb pb plb pcap n wb wcap mb mcap sb ov fv scv wt mem lb nl lcap bs ss W' := by
  obtain ⟨cw, hcw⟩ := h.wait.blk
  obtain ⟨cm, hcm⟩ := h.mems.blk
  exact ⟨hk.at' h.blk (BS_type h.txn h.blk (by decide)), h.wait.keeps hk (BS_type h.txn hcw (by decide)), h.mems.keeps hk (BS_type h.txn hcm (by decide)), ht⟩

theorem WaitIs.drew {w : World} {qb pb plb pcap n wb wcap mb mcap sb : Nat} {ov fv scv : Value} {wt : Nat → Int} {mem : Nat → Nat} {lb nl lcap : Nat} {bs ss : Nat → Nat} {W : Nat → Nat → Int}
    (h : WaitIs w qb pb plb pcap n wb wcap mb mcap sb ov fv scv wt mem lb nl lcap bs ss W) : WaitIs w.drew qb pb plb pcap n wb wcap mb mcap sb ov fv scv wt mem lb nl lcap bs ss W :=
  ⟨h.blk, h.wait, h.mems, h.txn.drew⟩

set_option maxHeartbeats 400000 in
theorem release_any (qb pb plb pcap n wb wcap mb mcap sb : Nat) (ov fv scv : Value) (wt : Nat → Int) (mem : Nat → Nat) (lb nl lcap : Nat) (bs ss : Nat → Nat) (W : Nat → Nat → Int) (u : Nat) (x : Int) (w : World)
    (h : WaitIs w qb pb plb pcap n wb wcap mb mcap sb ov fv scv wt mem lb nl lcap bs ss W) (hwm : ¬ wb = mb) (hx : x = (u : Int)) (hu : u < n) (hnl : nl ≤ 10) (hm : mem u ≤ 1000000) (hf : fits ss nl 0 (mem u)) :
    Calls Ybad.prog 20 #[.pointer (some ⟨qb, 0, none⟩), .int .i64 x] w fun e w' => e = .returned (.tuple #[]) ∧
      WaitIs w' qb pb plb pcap n wb wcap mb mcap sb ov fv scv (setI wt u (wrap64 (wt u - 1))) mem lb nl lcap bs ss (relW nl wt mem W u) ∧ Keeps (WS wb bs nl) w w' := by
  subst hx
  have c5 : w.cell? ⟨qb, 5, none⟩ = some (.slice (some ⟨wb, 0, none⟩) n wcap) := by rw [cell_of_blk h.blk]; rfl
  have c6 : w.cell? ⟨qb, 6, none⟩ = some (.slice (some ⟨mb, 0, none⟩) n mcap) := by rw [cell_of_blk h.blk]; rfl
  have c7 : w.cell? ⟨qb, 7, none⟩ = some (.pointer (some ⟨sb, 0, none⟩)) := by rw [cell_of_blk h.blk]; rfl
  have cw : w.cell? ⟨wb, u, none⟩ = some (.int .i64 (wt u)) := h.wait.cell hu
  have fw : w.frozen? ⟨wb, u, none⟩ = false := h.wait.frozen u
  have cm : w.cell? ⟨mb, u, none⟩ = some (.int .i64 (mem u)) := h.mems.cell hu
  obtain ⟨ccw, hcw⟩ := h.wait.blk
  have nqw : ¬ qb = wb := ne_of_types h.blk hcw (by decide)
  have HS := hid (h.stored hwm u (wrap64 (wt u - 1)))
  have nmw : ¬ mb = wb := fun e => hwm e.symm
  have HF := hid hf
  clear hcw hf h
  by_cases hz : wrap64 (wt u - 1) = 0
  · have hb : (wrap64 (wt u - 1) == 0) = true := by simp [hz]
    have HZ := hid hz
    clear hz
    go_enter Ybad.func20, Ybad.ntmps20
    go_wp2
    go_region_with (go_at_call 28; refine (add_any sb lb nl lcap (mem u) bs ss W _ _ HS.out.txn.drew rfl hm hnl HF.out).mono ?_; rintro e w1 ⟨rfl, hT1, hK1⟩)
    all_goals
      go_wp2
      go_returns
      refine ⟨rfl, ?_, (((Keeps.refl _ w).setCell _ _ (fun _ => .inl rfl)).drew).trans hK1 (fun k _ hk => .inr hk)⟩
      simp only [relW, if_pos HZ.out]
      exact HS.out.drew.worded hK1 hT1
  · have hb : (wrap64 (wt u - 1) == 0) = false := by simp [hz]
    go_enter Ybad.func20, Ybad.ntmps20
    go_wp2
    go_returns
    refine ⟨rfl, ?_, (Keeps.refl _ w).setCell _ _ (fun _ => .inl rfl)⟩
    simp only [relW, if_neg hz]
    exact HS.out

set_option maxHeartbeats 400000 in
theorem hold_any (qb pb plb pcap n wb wcap mb mcap sb : Nat) (ov fv scv : Value) (wt : Nat → Int) (mem : Nat → Nat) (lb nl lcap : Nat) (bs ss : Nat → Nat) (W : Nat → Nat → Int) (u : Nat) (x : Int) (w : World)
    (h : WaitIs w qb pb plb pcap n wb wcap mb mcap sb ov fv scv wt mem lb nl lcap bs ss W) (hwm : ¬ wb = mb) (hx : x = (u : Int)) (hu : u < n) (hnl : nl ≤ 10) (hm : mem u ≤ 1000000) (hf : fits ss nl 0 (mem u)) :
    Calls Ybad.prog 27 #[.pointer (some ⟨qb, 0, none⟩), .int .i64 x] w fun e w' => e = .returned (.tuple #[]) ∧
      WaitIs w' qb pb plb pcap n wb wcap mb mcap sb ov fv scv (setI wt u (wrap64 (wt u + 1))) mem lb nl lcap bs ss (holdW nl wt mem W u) ∧ Keeps (WS wb bs nl) w w' := by
  subst hx
  have c5 : w.cell? ⟨qb, 5, none⟩ = some (.slice (some ⟨wb, 0, none⟩) n wcap) := by rw [cell_of_blk h.blk]; rfl
  have c6 : w.cell? ⟨qb, 6, none⟩ = some (.slice (some ⟨mb, 0, none⟩) n mcap) := by rw [cell_of_blk h.blk]; rfl
  have c7 : w.cell? ⟨qb, 7, none⟩ = some (.pointer (some ⟨sb, 0, none⟩)) := by rw [cell_of_blk h.blk]; rfl
  have cw : w.cell? ⟨wb, u, none⟩ = some (.int .i64 (wt u)) := h.wait.cell hu
  have fw : w.frozen? ⟨wb, u, none⟩ = false := h.wait.frozen u
  have cm : w.cell? ⟨mb, u, none⟩ = some (.int .i64 (mem u)) := h.mems.cell hu
  have HH := hid h
  have HF := hid hf
  clear hf h
  by_cases hz : wt u = 0
  · have hb : (wt u == 0) = true := by simp [hz]
    have HZ := hid hz
    clear hz
    go_enter Ybad.func27, Ybad.ntmps27
    go_wp2
    go_region_with (go_at_call 19; refine (remove_any sb lb nl lcap (mem u) bs ss W _ _ HH.out.txn.drew rfl hm hnl HF.out).mono ?_; rintro e w1 ⟨rfl, hT1, hK1⟩)
    all_goals
      have HX := hid (HH.out.drew.worded hK1 hT1)
      have HK := hid hK1
      have c51 : w1.cell? ⟨qb, 5, none⟩ = some (.slice (some ⟨wb, 0, none⟩) n wcap) := by rw [cell_of_blk HX.out.blk]; rfl
      have cw1 : w1.cell? ⟨wb, u, none⟩ = some (.int .i64 (wt u)) := HX.out.wait.cell hu
      have fw1 : w1.frozen? ⟨wb, u, none⟩ = false := HX.out.wait.frozen u
      clear hK1 hT1
      go_wp2
      go_returns
      refine ⟨rfl, ?_, (((Keeps.refl _ w).drew).trans HK.out (fun k _ hk => .inr hk)).setCell _ _ (fun _ => .inl rfl)⟩
      simp only [holdW, if_pos HZ.out]
      exact HX.out.stored hwm u _
  · have hb : (wt u == 0) = false := by simp [hz]
    go_enter Ybad.func27, Ybad.ntmps27
    go_wp2
    go_returns
    refine ⟨rfl, ?_, (Keeps.refl _ w).setCell _ _ (fun _ => .inl rfl)⟩
    simp only [holdW, if_neg hz]
    exact HH.out.stored hwm u _
end Go.Proofs.YbulkebqyDoor
