import Derived.Test.YbulkebqyDoorPutFirst
namespace Go.Proofs.YbulkebqyDoor
open Go.RowKit Go.Deep

/-- The set of transactions: its struct, its levels, each level's words. -/
structure TxnIs (w : World) (sb lb nl lcap : Nat) (bs ss : Nat → Nat) (W : Nat → Nat → Int) : Prop where
  blk : w.heap[sb]? = some (.cells #[.slice (some ⟨lb, 0, none⟩) nl lcap] 66 (0, 0))
  lev : Rw w lb 24 nl (fun i => .slice (some ⟨bs i, 0, none⟩) (ss i) (ss i))
  row : ∀ i, i < nl → w.rowIs (bs i) 37 (ss i) (fun j => .int .u64 (W i j))
  inj : ∀ i j, i < nl → j < nl → bs i = bs j → i = j

def updW (W : Nat → Nat → Int) (l i : Nat) (v : Int) : Nat → Nat → Int := fun l' j => if l' = l then (if j = i then v else W l' j) else W l' j
def BS (bs : Nat → Nat) (nl k : Nat) : Prop := ∃ i, i < nl ∧ k = bs i

theorem TxnIs.keeps {S : Nat → Prop} {w w' : World} {sb lb nl lcap : Nat} {bs ss : Nat → Nat} {W : Nat → Nat → Int} (h : TxnIs w sb lb nl lcap bs ss W) (hk : Keeps S w w')
    (h1 : ¬ S sb) (h2 : ¬ S lb) (h3 : ∀ i, i < nl → ¬ S (bs i)) : TxnIs w' sb lb nl lcap bs ss W :=
  ⟨hk.at' h.blk h1, h.lev.keeps hk h2, fun i hi => hk.row (h.row i hi) (h3 i hi), h.inj⟩

theorem TxnIs.store {w : World} {sb lb nl lcap : Nat} {bs ss : Nat → Nat} {W : Nat → Nat → Int} (h : TxnIs w sb lb nl lcap bs ss W) {l : Nat} (hl : l < nl) (i : Nat) (v : Int) :
    TxnIs (w.setCell ⟨bs l, i, none⟩ (.int .u64 v)) sb lb nl lcap bs ss (updW W l i v) := by
  obtain ⟨c, hc⟩ := row_blk (h.row l hl)
  obtain ⟨c2, hc2⟩ := h.lev.blk
  have n1 : ¬ sb = bs l := ne_of_types h.blk hc (by decide)
  have n2 : ¬ lb = bs l := ne_of_types hc2 hc (by decide)
  refine ⟨?_, h.lev.of_block (blk_setCell_other _ _ _ _ n2), fun i' hi' => ?_, h.inj⟩
  · rw [blk_setCell_other _ _ _ _ n1]; exact h.blk
  · by_cases e : i' = l
    · subst e
      refine ((h.row i' hi').set i _).congr fun j _ => ?_
      simp only [updW, if_true]
      split <;> rfl
    · refine ((h.row i' hi').setOther (a := ⟨bs l, i, none⟩) (fun e' => e (h.inj _ _ hi' hl e')) _).congr fun j _ => ?_
      simp only [updW, if_neg e]

theorem TxnIs.drew {w : World} {sb lb nl lcap : Nat} {bs ss : Nat → Nat} {W : Nat → Nat → Int} (h : TxnIs w sb lb nl lcap bs ss W) : TxnIs w.drew sb lb nl lcap bs ss W := ⟨h.blk, h.lev, h.row, h.inj⟩

/-- What 'add' makes of the words, from level l on. -/
def addW : Nat → Nat → Nat → (Nat → Nat → Int) → (Nat → Nat → Int)
  | 0, _, _, W => W
  | f + 1, l, t, W => if W l (t / 64) = 0 then addW f (l + 1) (t / 64) (updW W l (t / 64) (orr (W l (t / 64)) (bit1 (t % 64)))) else updW W l (t / 64) (orr (W l (t / 64)) (bit1 (t % 64)))

def andn (a b : Int) : Int := bits BinOp.andNot IntKind.u64 a b
def remW : Nat → Nat → Nat → (Nat → Nat → Int) → (Nat → Nat → Int)
  | 0, _, _, W => W
  | f + 1, l, t, W => if andn (W l (t / 64)) (bit1 (t % 64)) = 0 then remW f (l + 1) (t / 64) (updW W l (t / 64) (andn (W l (t / 64)) (bit1 (t % 64)))) else updW W l (t / 64) (andn (W l (t / 64)) (bit1 (t % 64)))

/-- The places of t on each level from c on lie in the level. -/
def fits (ss : Nat → Nat) (nl c t : Nat) : Prop := ∀ d, c + d < nl → t / 64 ^ (d + 1) < ss (c + d)
theorem fits.here {ss : Nat → Nat} {nl c t : Nat} (h : fits ss nl c t) (hc : c < nl) : t / 64 < ss c := by simpa using h 0 hc
theorem fits.next {ss : Nat → Nat} {nl c t : Nat} (h : fits ss nl c t) : fits ss nl (c + 1) (t / 64) := by
  intro d hd
  have := h (d + 1) (by omega)
  rw [Nat.div_div_eq_div_mul, ← Nat.pow_succ']
  rwa [show c + (d + 1) = c + 1 + d from by omega] at this

set_option maxHeartbeats 400000 in
theorem add_any (sb lb nl lcap t : Nat) (bs ss : Nat → Nat) (W : Nat → Nat → Int) (x : Int) (w : World)
    (h : TxnIs w sb lb nl lcap bs ss W) (hx : x = (t : Int)) (ht : t ≤ 1000000) (hnl : nl ≤ 10) (hf : fits ss nl 0 t) :
    Calls Ybad.prog 28 #[.pointer (some ⟨sb, 0, none⟩), .int .i64 x] w fun e w' => e = .returned (.tuple #[]) ∧
      TxnIs w' sb lb nl lcap bs ss (addW nl 0 t W) ∧ Keeps (BS bs nl) w w' := by
  subst hx
  have c0 : w.cell? ⟨sb, 0, none⟩ = some (.slice (some ⟨lb, 0, none⟩) nl lcap) := by rw [cell_of_blk h.blk]; rfl
  have HT := hid h
  have HF := hid hf
  clear h hf
  go_enter Ybad.func28, Ybad.ntmps28
  go_wp2
  go_loopg [1, 12] nl (fun g tt i wr => ∃ (c tc : Nat) (Wc : Nat → Nat → Int), c + g = nl ∧ i = .int .i64 c ∧ tt = .int .i64 tc ∧ tc ≤ 1000000 ∧ fits ss nl c tc ∧ addW nl 0 t W = addW g c tc Wc ∧ TxnIs wr sb lb nl lcap bs ss Wc ∧ Keeps (BS bs nl) w wr)
  case atStart => exact ⟨0, t, W, by omega, rfl, rfl, ht, HF.out, rfl, HT.out, Keeps.refl _ _⟩
  case round =>
    obtain ⟨c, tc, Wc, hc, rfl, rfl, htc, hf, hW, hTx, hK⟩ := hrel
    have HT' := hid hTx
    have HK := hid hK
    have HW := hid hW
    have HF' := hid hf
    by_cases hlt : c < nl
    · obtain ⟨g, rfl⟩ : ∃ g, gk = g + 1 := ⟨gk - 1, by omega⟩
      have cl : wr.cell? ⟨lb, c, none⟩ = some (.slice (some ⟨bs c, 0, none⟩) (ss c) (ss c)) := hTx.lev.cell hlt
      have hh := hf.here hlt
      have cw : wr.cell? ⟨bs c, tc / 64, none⟩ = some (.int .u64 (Wc c (tc / 64))) := (hTx.row c hlt).cell hh
      have fw : wr.frozen? ⟨bs c, tc / 64, none⟩ = false := (hTx.row c hlt).frozen _
      clear hTx hK hW hf
      by_cases hz : Wc c (tc / 64) = 0
      · have hb : (Wc c (tc / 64) != 0) = false := by simp [hz]
        have HZ := hid hz
        clear hz
        go_wp2
        go_roundg g
        case measure => omega
        case rel =>
          refine ⟨c + 1, tc / 64, _, by omega, by go_num, by go_num, by omega, HF'.out.next, ?_, HT'.out.store hlt (tc / 64) (orr (Wc c (tc / 64)) (bit1 (tc % 64))), HK.out.setCell _ _ (fun _ => ⟨c, hlt, rfl⟩)⟩
          rw [HW.out]
          simp only [addW, if_pos HZ.out]
      · have hb : (Wc c (tc / 64) != 0) = true := by simp [hz]
        go_wp2
        go_returns
        refine ⟨rfl, ?_, HK.out.setCell _ _ (fun _ => ⟨c, hlt, rfl⟩)⟩
        rw [HW.out]
        simp only [addW, if_neg hz]
        exact HT'.out.store hlt (tc / 64) (orr (Wc c (tc / 64)) (bit1 (tc % 64)))
    · obtain rfl : gk = 0 := by omega
      clear hTx hK hW hf
      go_wp2
      go_returns
      refine ⟨rfl, ?_, HK.out⟩
      rw [HW.out]
      exact HT'.out

set_option maxHeartbeats 400000 in
theorem remove_any (sb lb nl lcap t : Nat) (bs ss : Nat → Nat) (W : Nat → Nat → Int) (x : Int) (w : World)
    (h : TxnIs w sb lb nl lcap bs ss W) (hx : x = (t : Int)) (ht : t ≤ 1000000) (hnl : nl ≤ 10) (hf : fits ss nl 0 t) :
    Calls Ybad.prog 19 #[.pointer (some ⟨sb, 0, none⟩), .int .i64 x] w fun e w' => e = .returned (.tuple #[]) ∧
      TxnIs w' sb lb nl lcap bs ss (remW nl 0 t W) ∧ Keeps (BS bs nl) w w' := by
  subst hx
  have c0 : w.cell? ⟨sb, 0, none⟩ = some (.slice (some ⟨lb, 0, none⟩) nl lcap) := by rw [cell_of_blk h.blk]; rfl
  have HT := hid h
  have HF := hid hf
  clear h hf
  go_enter Ybad.func19, Ybad.ntmps19
  go_wp2
  go_loopg [1, 11] nl (fun g tt i wr => ∃ (c tc : Nat) (Wc : Nat → Nat → Int), c + g = nl ∧ i = .int .i64 c ∧ tt = .int .i64 tc ∧ tc ≤ 1000000 ∧ fits ss nl c tc ∧ remW nl 0 t W = remW g c tc Wc ∧ TxnIs wr sb lb nl lcap bs ss Wc ∧ Keeps (BS bs nl) w wr)
  case atStart => exact ⟨0, t, W, by omega, rfl, rfl, ht, HF.out, rfl, HT.out, Keeps.refl _ _⟩
  case round =>
    obtain ⟨c, tc, Wc, hc, rfl, rfl, htc, hf, hW, hTx, hK⟩ := hrel
    have HT' := hid hTx
    have HK := hid hK
    have HW := hid hW
    have HF' := hid hf
    by_cases hlt : c < nl
    · obtain ⟨g, rfl⟩ : ∃ g, gk = g + 1 := ⟨gk - 1, by omega⟩
      have cl : wr.cell? ⟨lb, c, none⟩ = some (.slice (some ⟨bs c, 0, none⟩) (ss c) (ss c)) := hTx.lev.cell hlt
      have hh := hf.here hlt
      have cw : wr.cell? ⟨bs c, tc / 64, none⟩ = some (.int .u64 (Wc c (tc / 64))) := (hTx.row c hlt).cell hh
      have fw : wr.frozen? ⟨bs c, tc / 64, none⟩ = false := (hTx.row c hlt).frozen _
      clear hTx hK hW hf
      by_cases hz : bits BinOp.andNot IntKind.u64 (Wc c (tc / 64)) (IntKind.u64.wrap (2 ^ (tc % 64))) = 0
      · have hb : (bits BinOp.andNot IntKind.u64 (Wc c (tc / 64)) (IntKind.u64.wrap (2 ^ (tc % 64))) != 0) = false := by simp [hz]
        have HZ := hid hz
        clear hz
        go_wp2
        go_region
        all_goals
          go_wp2
          go_roundg g
          case measure => omega
          case rel =>
            refine ⟨c + 1, tc / 64, _, by omega, by go_num, by go_num, by omega, HF'.out.next, ?_, (HT'.out.store hlt (tc / 64) (andn (Wc c (tc / 64)) (bit1 (tc % 64)))).drew, (HK.out.setCell _ _ (fun _ => ⟨c, hlt, rfl⟩)).drew⟩
            rw [HW.out]
            have hz' : andn (Wc c (tc / 64)) (bit1 (tc % 64)) = 0 := HZ.out
            simp only [remW, if_pos hz']
      · have hb : (bits BinOp.andNot IntKind.u64 (Wc c (tc / 64)) (IntKind.u64.wrap (2 ^ (tc % 64))) != 0) = true := by simp [hz]
        go_wp2
        go_region
        all_goals
          go_wp2
          go_returns
          refine ⟨rfl, ?_, (HK.out.setCell _ _ (fun _ => ⟨c, hlt, rfl⟩)).drew⟩
          rw [HW.out]
          have hz' : ¬ andn (Wc c (tc / 64)) (bit1 (tc % 64)) = 0 := hz
          simp only [remW, if_neg hz']
          exact (HT'.out.store hlt (tc / 64) (andn (Wc c (tc / 64)) (bit1 (tc % 64)))).drew
    · obtain rfl : gk = 0 := by omega
      clear hTx hK hW hf
      go_wp2
      go_returns
      refine ⟨rfl, ?_, HK.out⟩
      rw [HW.out]
      exact HT'.out
end Go.Proofs.YbulkebqyDoor
