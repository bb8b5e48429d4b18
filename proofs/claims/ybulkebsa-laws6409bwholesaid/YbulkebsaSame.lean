import Derived.Test.YbulkebsaFields
namespace Go.Proofs.Ybulkebsa
open Go.RowKit Go.Deep

theorem row_name {w : World} {b n : Nat} {N : Nat → ByteArray} (h : w.rowIs b 40 (n * 6) (fcell N)) {j : Nat} (hj : j < n) :
    w.cell? ⟨b, j * 6, none⟩ = some (.string (N j)) ∧ w.cell? ⟨b, j * 6 + 1, none⟩ = some .nilFunc ∧ w.cell? ⟨b, j * 6 + 2, none⟩ = some .nilFunc ∧ w.cell? ⟨b, j * 6 + 3, none⟩ = some (.string (⟨#[117]⟩ ++ N j)) ∧
    w.cell? ⟨b, j * 6 + 4, none⟩ = some (.bool false) ∧ w.cell? ⟨b, j * 6 + 5, none⟩ = some (.string ⟨#[112]⟩) := by
  refine ⟨?_, ?_, ?_, ?_, ?_, ?_⟩
  · rw [h.cell (i := j * 6) (by omega)]; unfold fcell; rw [show j * 6 / 6 = j from by omega, show j * 6 % 6 = 0 from by omega]; rfl
  · rw [h.cell (i := j * 6 + 1) (by omega)]; unfold fcell; rw [show (j * 6 + 1) / 6 = j from by omega, show (j * 6 + 1) % 6 = 1 from by omega]; rfl
  · rw [h.cell (i := j * 6 + 2) (by omega)]; unfold fcell; rw [show (j * 6 + 2) / 6 = j from by omega, show (j * 6 + 2) % 6 = 2 from by omega]; rfl
  · rw [h.cell (i := j * 6 + 3) (by omega)]; unfold fcell; rw [show (j * 6 + 3) / 6 = j from by omega, show (j * 6 + 3) % 6 = 3 from by omega]; rfl
  · rw [h.cell (i := j * 6 + 4) (by omega)]; unfold fcell; rw [show (j * 6 + 4) / 6 = j from by omega, show (j * 6 + 4) % 6 = 4 from by omega]; rfl
  · rw [h.cell (i := j * 6 + 5) (by omega)]; unfold fcell; rw [show (j * 6 + 5) / 6 = j from by omega, show (j * 6 + 5) % 6 = 5 from by omega]; rfl

set_option maxRecDepth 100000 in
set_option maxHeartbeats 2000000 in
theorem same_walk (v : Value) (a : Option Addr) (len cap : Nat) (N : Nat → ByteArray) (w : World) (hF : FsIs w v len N) (hN : ArgRow w a len (fun i => .string (N i))) (hl : len ≤ 1048576) (hs : ∀ i, i < len → (N i).size ≤ 140737488351232) :
    Calls Yba.prog 6 #[v, .slice a len cap] w fun e w' => e = .returned (.bool true) ∧ Keeps (fun _ => False) w w' := by
  have HN := hid hN
  have HS := hid hs
  clear hN hs
  rcases hF with ⟨rfl, rfl⟩ | ⟨b, rfl, hR⟩
  · go_enter Yba.func6, Yba.ntmps6
    go_wp2
    go_loopg [5] 0 (fun g i wr => i = .int .i64 0 ∧ wr = w)
    case atStart => exact ⟨rfl, rfl⟩
    case round =>
      obtain ⟨rfl, rfl⟩ := hrel
      go_wp2
      go_returns
      exact ⟨rfl, Keeps.refl _ _⟩
  · have HR := hid hR
    clear hR
    go_enter Yba.func6, Yba.ntmps6
    go_wp2
    go_loopg [5] len (fun g i wr => ∃ j : Nat, j + g = len ∧ i = .int .i64 j ∧ Keeps (fun _ => False) w wr)
    case atStart => exact ⟨0, by omega, rfl, Keeps.refl _ _⟩
    case round =>
      obtain ⟨j, hj, rfl, hK1⟩ := hrel
      have HK1 := hid hK1
      by_cases hjl : j < len
      · obtain ⟨vb, vo, rfl, cb⟩ := (HN.out.keeps hK1).at' hjl
        have hsj := HS.out j hjl
        obtain ⟨c0, _, _, c3, _, c5⟩ := row_name (HK1.out.row HR.out (fun h => h)) hjl
        clear hK1
        go_wp2
        go_quiet (fail)
        go_wp2
        go_roundg (len - (j + 1))
        case measure => omega
        case rel => exact ⟨j + 1, by omega, by go_num, HK1.out.drewN _⟩
      · clear hK1
        go_wp2
        go_returns
        exact ⟨rfl, HK1.out⟩
end Go.Proofs.Ybulkebsa
