import Derived.Test.YbulkebqyDoorPlain
import Derived.Test.YbulkebqyDoorBuild
import Derived.Test.YbulkebqyDoorPlace
namespace Go.Proofs.YbulkebqyDoor
open Go.RowKit Go.Deep

set_option maxRecDepth 100000 in
theorem part_long (tx : Value) (xa : Option Addr) (len xc : Nat) (ba : Option Addr) (bl bc : Nat) (ta : Option Addr) (tl tc : Nat) (tr nF eo : Value) (w : World)
    (hl : len ≤ 9223372036854775807) (hb : bl ≤ 9223372036854775807) (ht : tl ≤ 9223372036854775807) (h : 4096 < len ∨ 1048576 < bl ∨ 1048576 < tl) :
    Calls Ybad.prog 3 #[tx, .slice xa len xc, .slice ba bl bc, .slice ta tl tc, tr, nF, eo] w fun e w' => e = .returned (.bool true) ∧ Keeps (fun _ => False) w w' := by
  by_cases h1 : 4096 < len
  · go_enter Ybad.func3, Ybad.ntmps3
    go_wp2
    go_returns
    exact ⟨rfl, Keeps.refl _ _⟩
  · by_cases h2 : 1048576 < bl
    · go_enter Ybad.func3, Ybad.ntmps3
      go_wp2
      go_returns
      exact ⟨rfl, Keeps.refl _ _⟩
    · have h3 : 1048576 < tl := by omega
      go_enter Ybad.func3, Ybad.ntmps3
      go_wp2
      go_returns
      exact ⟨rfl, Keeps.refl _ _⟩

/-- A transaction that is all zeros. -/
def zeroTx : Tx := ⟨fun _ => false, fun _ => false, fun _ => false, fun _ => 0, fun _ => 0, fun _ => 0, fun _ => none, fun _ => 0, fun _ _ => 0⟩
theorem zeroTx_is (w : World) : TxsIs (w.alloc (.cells #[.bool false, .bool false, .int .i64 0, .slice none 0 0, .int .u16 0, .bool false] 28)) w.heap.size 0 1 zeroTx := by
  have hb := blk_alloc_new w (.cells #[.bool false, .bool false, .int .i64 0, .slice none 0 0, .int .u16 0, .bool false] 28)
  refine ⟨?_, ?_, ?_, ?_, ?_, ?_, fun i hi => .inl rfl⟩ <;>
  · intro i hi
    obtain rfl : i = 0 := by omega
    rw [cell_of_blk hb]
    rfl

/-- What the law's rest takes over. -/
structure TxOk (w : World) (xb xo n : Nat) (X : Tx) : Prop where
  is : TxsIs w xb xo n X
  n1 : 1 ≤ n
  n2 : n ≤ 4096
  L : ∀ i, i < n → X.L i ≤ 65536
  M : ∀ i, i < n → X.mb i < 65536
  Y : ∀ i j, i < n → j < X.L i → X.Y i j < 65536

theorem keptL_mono (kp : Nat → Bool) {c n : Nat} (h : c ≤ n) : (keptL kp c).length ≤ (keptL kp n).length := by
  induction n with
  | zero => obtain rfl : c = 0 := by omega
            exact Nat.le_refl _
  | succ n ih =>
    by_cases e : c = n + 1
    · subst e; exact Nat.le_refl _
    · have := ih (by omega)
      cases hk : kp n
      · rw [keptL_no hk]; exact this
      · rw [keptL_yes hk, List.length_append]; omega
theorem num_lt {kp : Nat → Bool} {t n : Nat} (h : t < n) : numOf kp t < ((keptL kp n).length : Int) := by
  unfold numOf
  split
  · rename_i hk
    have := keptL_mono kp (show t + 1 ≤ n from h)
    rw [keptL_yes hk, List.length_append] at this
    simp at this
    omega
  · omega

theorem StIs.pls_lt {h : Sh} {d : Dt} {eo : Bool} {ov tv : Value} {w : World} (st : StIs h d eo ov tv w) : ∀ k, PlS h tv k → k < w.heap.size := by
  rintro k ((rfl | rfl | e) | rfl | rfl | rfl | ⟨i, hi, rfl⟩)
  · exact lt_of_blk st.prec.blk
  · exact st.prec.row.lt
  · have ht := st.prec.trail
    cases hT : d.T with
    | none =>
      rw [hT] at ht
      have : tv = .slice none 0 0 := ht
      subst this
      simp [Value.ownBlock] at e
    | some l =>
      rw [hT] at ht
      exact (ht.1.lt k e).2
  · exact lt_of_blk st.blk
  · exact st.plac.lt
  · exact st.wait.lt
  · exact (st.txn.row i hi).lt

theorem NormIs.keeps2 {w1 w w' : World} {B n : Nat} {X : Tx} {S : Nat → Prop} (h1 : NormIs w1 B n X) (h : NormIs w B n X) (k : Keeps S w w') (hS : ∀ j, j < w1.heap.size → ¬ S j) : NormIs w' B n X :=
  ⟨k.row h.kp (hS _ h1.kp.lt), k.row h.pl (hS _ h1.pl.lt), k.row h.rd (hS _ h1.rd.lt), k.row h.wt (hS _ h1.wt.lt), k.row h.mb (hS _ h1.mb.lt), k.row h.sc (hS _ h1.sc.lt), fun i hi => k.row (h.su i hi) (hS _ (h1.su i hi).lt)⟩
theorem NormIs.alloc {w : World} {B n : Nat} {X : Tx} (h : NormIs w B n X) (o : Obj) : NormIs (w.alloc o) B n X := h.keeps ((Keeps.refl (fun _ => False) w).alloc o) (fun _ _ e => e)

/-- The law's 'k' behind c rounds of its first loop. -/
def kAt (kp : Nat → Bool) (t c : Nat) : Int := if t < c ∧ kp t = true then ((keptL kp t).length : Int) else -1
theorem kAt_end (kp : Nat → Bool) {t n : Nat} (h : t < n) : kAt kp t n = numOf kp t := by unfold kAt numOf; simp [h]
theorem kAt_skip {kp : Nat → Bool} {t c : Nat} (h : ¬ c = t ∨ kp c = false) : kAt kp t (c + 1) = kAt kp t c := by
  unfold kAt
  rcases h with h | h
  · have : (t < c + 1) = (t < c) := by simp; omega
    simp [this]
  · by_cases e : c = t
    · subst e; simp [h]
    · have : (t < c + 1) = (t < c) := by simp; omega
      simp [this]
theorem kAt_hit {kp : Nat → Bool} {t : Nat} (h : kp t = true) : kAt kp t (t + 1) = ((keptL kp t).length : Int) := by unfold kAt; simp [h]
end Go.Proofs.YbulkebqyDoor
