import Derived.Test.YbulkebqyDoorClone
namespace Go.Proofs.YbulkebqyDoor
open Go.RowKit Go.Deep

/-- slices.Equal at []bool, the same elements. -/
theorem equal22_row (b1 b2 n c1 c2 : Nat) (x : Nat → Bool) (w : World) (h1 : ∀ i, i < n → w.cell? ⟨b1, i, none⟩ = some (.bool (x i))) (h2 : ∀ i, i < n → w.cell? ⟨b2, i, none⟩ = some (.bool (x i))) (hn : n ≤ 100000000) :
    Calls Ybad.prog 22 #[.slice (some ⟨b1, 0, none⟩) n c1, .slice (some ⟨b2, 0, none⟩) n c2] w fun e w' => e = .returned (.bool true) ∧ ∃ k, w' = w.drewN k := by
  have H1 := hid h1
  have H2 := hid h2
  clear h1 h2
  go_enter Ybad.func22, Ybad.ntmps22
  go_wp2
  go_loopg [13] n (fun g i wr => ∃ c k : Nat, c + g = n ∧ i = .int .i64 c ∧ wr = w.drewN k)
  case atStart => exact ⟨0, 0, by omega, rfl, rfl⟩
  case round =>
    obtain ⟨c, k, hc, rfl, rfl⟩ := hrel
    by_cases hlt : c < n
    · have g1 : w.cell? ⟨b1, c, none⟩ = some (.bool (x c)) := H1.out c hlt
      have g2 : w.cell? ⟨b2, c, none⟩ = some (.bool (x c)) := H2.out c hlt
      have hx : (x c != x c) = false := by simp
      go_wp2
      go_quiet (fail)
      go_wp2
      go_roundg (n - (c + 1))
      case measure => omega
      case rel => exact ⟨c + 1, _, by omega, by go_num, rfl⟩
    · go_wp2
      go_returns
      exact ⟨rfl, k, rfl⟩

theorem equal22_none (a1 a2 : Option Addr) (c1 c2 : Nat) (w : World) :
    Calls Ybad.prog 22 #[.slice a1 0 c1, .slice a2 0 c2] w fun e w' => e = .returned (.bool true) ∧ ∃ k, w' = w.drewN k := by
  go_enter Ybad.func22, Ybad.ntmps22
  go_wp2
  go_rounds 1
  go_returns
  exact ⟨rfl, 0, rfl⟩

/-- slices.Equal at []int, the same elements. -/
theorem equal23_row (b1 b2 n c1 c2 : Nat) (x : Nat → Int) (w : World) (h1 : ∀ i, i < n → w.cell? ⟨b1, i, none⟩ = some (.int .i64 (x i))) (h2 : ∀ i, i < n → w.cell? ⟨b2, i, none⟩ = some (.int .i64 (x i))) (hn : n ≤ 100000000) :
    Calls Ybad.prog 23 #[.slice (some ⟨b1, 0, none⟩) n c1, .slice (some ⟨b2, 0, none⟩) n c2] w fun e w' => e = .returned (.bool true) ∧ ∃ k, w' = w.drewN k := by
  have H1 := hid h1
  have H2 := hid h2
  clear h1 h2
  go_enter Ybad.func23, Ybad.ntmps23
  go_wp2
  go_loopg [13] n (fun g i wr => ∃ c k : Nat, c + g = n ∧ i = .int .i64 c ∧ wr = w.drewN k)
  case atStart => exact ⟨0, 0, by omega, rfl, rfl⟩
  case round =>
    obtain ⟨c, k, hc, rfl, rfl⟩ := hrel
    by_cases hlt : c < n
    · have g1 : w.cell? ⟨b1, c, none⟩ = some (.int .i64 (x c)) := H1.out c hlt
      have g2 : w.cell? ⟨b2, c, none⟩ = some (.int .i64 (x c)) := H2.out c hlt
      have hx : (x c != x c) = false := by simp
      go_wp2
      go_quiet (fail)
      go_wp2
      go_roundg (n - (c + 1))
      case measure => omega
      case rel => exact ⟨c + 1, _, by omega, by go_num, rfl⟩
    · go_wp2
      go_returns
      exact ⟨rfl, k, rfl⟩

theorem equal23_none (a1 a2 : Option Addr) (c1 c2 : Nat) (w : World) :
    Calls Ybad.prog 23 #[.slice a1 0 c1, .slice a2 0 c2] w fun e w' => e = .returned (.bool true) ∧ ∃ k, w' = w.drewN k := by
  go_enter Ybad.func23, Ybad.ntmps23
  go_wp2
  go_rounds 1
  go_returns
  exact ⟨rfl, 0, rfl⟩

/-- slices.Equal at []uint64, the same elements. -/
theorem equal24_row (b1 b2 n c1 c2 : Nat) (x : Nat → Int) (w : World) (h1 : ∀ i, i < n → w.cell? ⟨b1, i, none⟩ = some (.int .u64 (x i))) (h2 : ∀ i, i < n → w.cell? ⟨b2, i, none⟩ = some (.int .u64 (x i))) (hn : n ≤ 100000000) :
    Calls Ybad.prog 24 #[.slice (some ⟨b1, 0, none⟩) n c1, .slice (some ⟨b2, 0, none⟩) n c2] w fun e w' => e = .returned (.bool true) ∧ ∃ k, w' = w.drewN k := by
  have H1 := hid h1
  have H2 := hid h2
  clear h1 h2
  go_enter Ybad.func24, Ybad.ntmps24
  go_wp2
  go_loopg [13] n (fun g i wr => ∃ c k : Nat, c + g = n ∧ i = .int .i64 c ∧ wr = w.drewN k)
  case atStart => exact ⟨0, 0, by omega, rfl, rfl⟩
  case round =>
    obtain ⟨c, k, hc, rfl, rfl⟩ := hrel
    by_cases hlt : c < n
    · have g1 : w.cell? ⟨b1, c, none⟩ = some (.int .u64 (x c)) := H1.out c hlt
      have g2 : w.cell? ⟨b2, c, none⟩ = some (.int .u64 (x c)) := H2.out c hlt
      have hx : (x c != x c) = false := by simp
      go_wp2
      go_quiet (fail)
      go_wp2
      go_roundg (n - (c + 1))
      case measure => omega
      case rel => exact ⟨c + 1, _, by omega, by go_num, rfl⟩
    · go_wp2
      go_returns
      exact ⟨rfl, k, rfl⟩

theorem equal24_none (a1 a2 : Option Addr) (c1 c2 : Nat) (w : World) :
    Calls Ybad.prog 24 #[.slice a1 0 c1, .slice a2 0 c2] w fun e w' => e = .returned (.bool true) ∧ ∃ k, w' = w.drewN k := by
  go_enter Ybad.func24, Ybad.ntmps24
  go_wp2
  go_rounds 1
  go_returns
  exact ⟨rfl, 0, rfl⟩

/-- slices.Equal at []change, the same elements. -/
theorem equal25_row (b1 b2 n c1 c2 : Nat) (x y : Nat → Int) (w : World) (h1 : ∀ i, i < n → w.cell? ⟨b1, i * 2, none⟩ = some (.int .i64 (x i)) ∧ w.cell? ⟨b1, i * 2 + 1, none⟩ = some (.int .u64 (y i)))
    (h2 : ∀ i, i < n → w.cell? ⟨b2, i * 2, none⟩ = some (.int .i64 (x i)) ∧ w.cell? ⟨b2, i * 2 + 1, none⟩ = some (.int .u64 (y i))) (hn : n ≤ 100000000) :
    Calls Ybad.prog 25 #[.slice (some ⟨b1, 0, none⟩) n c1, .slice (some ⟨b2, 0, none⟩) n c2] w fun e w' => e = .returned (.bool true) ∧ ∃ k, w' = w.drewN k := by
  have H1 := hid h1
  have H2 := hid h2
  clear h1 h2
  go_enter Ybad.func25, Ybad.ntmps25
  go_wp2
  go_loopg [13] n (fun g i wr => ∃ c k : Nat, c + g = n ∧ i = .int .i64 c ∧ wr = w.drewN k)
  case atStart => exact ⟨0, 0, by omega, rfl, rfl⟩
  case round =>
    obtain ⟨c, k, hc, rfl, rfl⟩ := hrel
    by_cases hlt : c < n
    · obtain ⟨g1, g1'⟩ := H1.out c hlt
      obtain ⟨g2, g2'⟩ := H2.out c hlt
      have hx : (x c == x c) = true := by simp
      have hy : (y c == y c) = true := by simp
      go_wp2
      go_quiet (fail)
      go_wp2
      go_roundg (n - (c + 1))
      case measure => omega
      case rel => exact ⟨c + 1, _, by omega, by go_num, rfl⟩
    · go_wp2
      go_returns
      exact ⟨rfl, k, rfl⟩

theorem equal25_none (a1 a2 : Option Addr) (c1 c2 : Nat) (w : World) :
    Calls Ybad.prog 25 #[.slice a1 0 c1, .slice a2 0 c2] w fun e w' => e = .returned (.bool true) ∧ ∃ k, w' = w.drewN k := by
  go_enter Ybad.func25, Ybad.ntmps25
  go_wp2
  go_rounds 1
  go_returns
  exact ⟨rfl, 0, rfl⟩
end Go.Proofs.YbulkebqyDoor
