import Derived.Test.YbulkebqyDoorUnL
namespace Go.Proofs.YbulkebqyDoor
open Go.RowKit Go.Deep

set_option maxRecDepth 100000 in
theorem undo_long (tx : Value) (xa : Option Addr) (len xc : Nat) (ba : Option Addr) (bl bc : Nat) (ta : Option Addr) (tl tc : Nat) (nF eo : Value) (w : World)
    (hl : len ≤ 9223372036854775807) (hb : bl ≤ 9223372036854775807) (ht : tl ≤ 9223372036854775807) (h : 4096 < len ∨ 1048576 < bl ∨ 1048576 < tl) :
    Calls Ybad.prog 4 #[tx, .slice xa len xc, .slice ba bl bc, .slice ta tl tc, nF, eo] w fun e w' => e = .returned (.bool true) ∧ Keeps (fun _ => False) w w' := by
  by_cases h1 : 4096 < len
  · go_enter Ybad.func4, Ybad.ntmps4
    go_wp2
    go_returns
    exact ⟨rfl, Keeps.refl _ _⟩
  · by_cases h2 : 1048576 < bl
    · go_enter Ybad.func4, Ybad.ntmps4
      go_wp2
      go_returns
      exact ⟨rfl, Keeps.refl _ _⟩
    · have h3 : 1048576 < tl := by omega
      go_enter Ybad.func4, Ybad.ntmps4
      go_wp2
      go_returns
      exact ⟨rfl, Keeps.refl _ _⟩

set_option maxRecDepth 100000 in
set_option maxHeartbeats 4000000 in
theorem undo_walk (tx : Int) (htx0 : 0 ≤ tx) (htx1 : tx ≤ 18446744073709551615) (xa : Option Addr) (len xc : Nat) (ba : Option Addr) (bl bc : Nat) (ta : Option Addr) (tl tc : Nat) (nF : Int) (hnF0 : 0 ≤ nF) (hnF1 : nF ≤ 255) (eo : Bool) (X : Tx) (bt td : Nat → Int) (w : World)
    (hx : len = 0 ∨ ∃ xb xo, xa = some ⟨xb, xo, none⟩ ∧ TxsIs w xb xo len X) (hL : ∀ i, i < len → X.L i ≤ 70368744177664) (hM : ∀ i, i < len → X.mb i < 65536) (hY : ∀ i j, i < len → j < X.L i → X.Y i j < 65536)
    (hl : len ≤ 4096) (hb : bl ≤ 1048576) (ht : tl ≤ 1048576)
    (hbt : ArgRow w ba bl (fun j => .int .u64 (bt j))) (htd : ArgRow w ta tl (fun j => .int .u64 (td j))) :
    Calls Ybad.prog 4 #[.int .u64 tx, .slice xa len xc, .slice ba bl bc, .slice ta tl tc, .int .u8 nF, .bool eo] w fun e w' => e = .returned (.bool true) ∧ Keeps (fun _ => False) w w' := by
  have HX := hid hx
  have HL := hid hL
  have HM := hid hM
  have HY := hid hY
  have HBT := hid hbt
  have HTD := hid htd
  have hsum : ∀ c, c ≤ len → sumL X.L c ≤ c * 70368744177664 := sumL_le hL
  have HSum := hid hsum
  clear hx hL hM hY hbt htd hsum
  go_enter Ybad.func4, Ybad.ntmps4
  refine wp_of_stmts ?_
  show wpStmts Ybad.prog (stmtsFrom Ybad.f4 0) _ _ _
  refine wpStmts_k (ss := stmtsFrom Ybad.f4 1) rfl fun K hK => ?_
  have Hk := hid hK
  clear hK
  go_wp2
  refine Hk.out _ _ ?_
  clear Hk K
  refine wpStmts_k (ss := stmtsFrom Ybad.f4 2) rfl fun K hK => ?_
  have Hk := hid hK
  clear hK
  go_wp2
  refine Hk.out _ _ ?_
  clear Hk K
  refine wpStmts_k (ss := stmtsFrom Ybad.f4 3) rfl fun K hK => ?_
  have Hk := hid hK
  clear hK
  go_wp2
  refine Hk.out _ _ ?_
  clear Hk K
  refine wpStmts_k (ss := stmtsFrom Ybad.f4 4) rfl fun K hK => ?_
  have Hk := hid hK
  clear hK
  go_wp2
  refine Hk.out _ _ ?_
  clear Hk K
  refine wpStmts_k (ss := stmtsFrom Ybad.f4 5) rfl fun K hK => ?_
  have Hk := hid hK
  clear hK
  go_wp2
  refine Hk.out _ _ ?_
  clear Hk K
  refine wpStmts_k (ss := stmtsFrom Ybad.f4 6) rfl fun K hK => ?_
  have Hk := hid hK
  clear hK
  go_wp2
  go_loopg [13, 14] len (fun g tot i wr => ∃ c : Nat, c + g = len ∧ i = .int .i64 c ∧ tot = .int .i64 (sumL X.L c) ∧ wr = w)
  case atStart => exact ⟨0, by omega, rfl, rfl, rfl⟩
  case round =>
    obtain ⟨c, hc, rfl, rfl, hwr⟩ := hrel
    subst hwr
    by_cases hlt : c < len
    · have hs := HSum.out c (by omega)
      have hLc := HL.out c hlt
      rcases HX.out with h0 | ⟨xb, xo, rfl, hT⟩
      · omega
      have x3 := hT.c3 c hlt
      clear hT
      go_wp2
      go_roundg (len - (c + 1))
      case measure => omega
      case rel => exact ⟨c + 1, by omega, by go_num, by simp [sumL], rfl⟩
    · obtain rfl : c = len := by omega
      go_wp2
      refine Hk.out _ _ ?_
      clear Hk
      by_cases hT : sumL X.L c ≤ 65536
      · have HT := hid hT
        refine wpStmts_k (ss := stmtsFrom Ybad.f4 7) rfl fun K hK => ?_
        have Hk := hid hK
        clear hK
        go_wp2
        refine Hk.out _ _ ?_
        clear Hk K
        refine wpStmts_k (ss := stmtsFrom Ybad.f4 8) rfl fun K hK => ?_
        have Hk := hid hK
        clear hK
        go_wp2
        refine Hk.out _ _ ?_
        clear Hk K
        refine wpStmts_k (ss := stmtsFrom Ybad.f4 9) rfl fun K hK => ?_
        have Hk := hid hK
        clear hK
        go_wp2
        refine Hk.out _ _ ?_
        clear Hk K
        refine wpStmts_k (ss := stmtsFrom Ybad.f4 10) rfl fun K hK => ?_
        have Hk := hid hK
        clear hK
        by_cases h0 : c = 0
        · subst h0
          go_wp2
          refine Hk.out _ _ ?_
          exact undo_A _ _ _ _ _ _ _ _ _ _ _ _ _ _ _ _ _ _ _ _ _ _ _ _ _ _ _ _ _ _ _ _ _ _ _ _ _ _ _ _ _ _ _ _ _ _ _ _ _ _ _ _ _ _ _ _ _ _ _ _ _ _ _ _ _ _ _ _ _ _ _ _ _ _ _ _ _ _ _ _ _ _ _ _ _ _ _ _ _ _ _ _ _ _ _ _ _ _ _ _ _ _ _ _ _ _ _ _ _ _ _ _ _ _ _ _ _ _ _ _ _ _ _ _ _ _ _ _ _ _ _ _ _ _ _ _ _ _ _ _ _ _ _ _ _ _ _ _ _ _ _ _ _ _ _ _ _ _ _ _ _ _ _ _ _ _ _ _ _ _ _ _ _ _ _ _ _ _ _ _ tx nF _ _ 1 _ bl bc tl tc ba ta zeroTx bt td eo wr _ htx0 htx1 hnF0 hnF1 ⟨zeroTx_is _, by omega, by omega, fun _ _ => Nat.zero_le _, fun _ _ => Nat.zero_lt_succ _, fun _ _ _ _ => Nat.zero_lt_succ _⟩ hb ht (HBT.out.keeps ((Keeps.refl _ _).alloc _)) (HTD.out.keeps ((Keeps.refl _ _).alloc _)) ((Keeps.refl _ _).alloc _)
        · rcases HX.out with h0' | ⟨xb, xo, rfl, hTx⟩
          · omega
          have HTx := hid hTx
          clear hTx
          go_wp2
          refine Hk.out _ _ ?_
          exact undo_A _ _ _ _ _ _ _ _ _ _ _ _ _ _ _ _ _ _ _ _ _ _ _ _ _ _ _ _ _ _ _ _ _ _ _ _ _ _ _ _ _ _ _ _ _ _ _ _ _ _ _ _ _ _ _ _ _ _ _ _ _ _ _ _ _ _ _ _ _ _ _ _ _ _ _ _ _ _ _ _ _ _ _ _ _ _ _ _ _ _ _ _ _ _ _ _ _ _ _ _ _ _ _ _ _ _ _ _ _ _ _ _ _ _ _ _ _ _ _ _ _ _ _ _ _ _ _ _ _ _ _ _ _ _ _ _ _ _ _ _ _ _ _ _ _ _ _ _ _ _ _ _ _ _ _ _ _ _ _ _ _ _ _ _ _ _ _ _ _ _ _ _ _ _ _ _ _ _ _ _ tx nF xb xo c xc bl bc tl tc ba ta X bt td eo wr wr htx0 htx1 hnF0 hnF1 ⟨HTx.out, by omega, hl, fun i hi => Nat.le_trans (sumL_ge X.L c i hi) HT.out, HM.out, HY.out⟩ hb ht HBT.out HTD.out (Keeps.refl _ _)
      · refine wpStmts_k (ss := stmtsFrom Ybad.f4 7) rfl fun K hK => ?_
        have Hk := hid hK
        clear hK
        go_wp2
        refine Hk.out _ _ ?_
        clear Hk K
        refine wpStmts_k (ss := stmtsFrom Ybad.f4 8) rfl fun K hK => ?_
        have Hk := hid hK
        clear hK
        go_wp2
        go_returns
        exact ⟨rfl, Keeps.refl _ _⟩
end Go.Proofs.YbulkebqyDoor
