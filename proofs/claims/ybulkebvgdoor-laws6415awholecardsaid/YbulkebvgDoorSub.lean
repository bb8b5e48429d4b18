import Derived.Test.YbulkebvgDoorBase
import Derived.Shelf.Spec.BitsCarry
import Derived.Laws.BitsAllLaws
namespace Go.Proofs.YbulkebvgDoor
open Go.RowKit Go.Deep

/-- The borrow, under a name. -/
def bor (x y b : Int) : Int := if x < y + b then 1 else 0
theorem bor_01 (x y b : Int) : bor x y b = 0 ∨ bor x y b = 1 := by unfold bor; split <;> simp

theorem sub64 (x y b : Int) (hx : 0 ≤ x) (hy : 0 ≤ y) (hy' : y < 18446744073709551616) (hb0 : 0 ≤ b) (hb : b ≤ 1) (w : World) : (callFunc 8 #[.int .u64 x, .int .u64 y, .int .u64 b]).run Ybad.prog w =
    .ok (.value (.tuple #[.int .u64 ((x - y - b) % 18446744073709551616), .int .u64 (bor x y b)])) w := by
  obtain ⟨x, rfl⟩ := Int.eq_ofNat_of_zero_le hx
  obtain ⟨y, rfl⟩ := Int.eq_ofNat_of_zero_le hy
  obtain ⟨b, rfl⟩ := Int.eq_ofNat_of_zero_le hb0
  have e1 : (((x + 18446744073709551616 - y - b) % 18446744073709551616 : Nat) : Int) = ((x : Int) - y - b) % 18446744073709551616 := by omega
  have e2 : ((if x < y + b then 1 else 0 : Nat) : Int) = bor x y b := by unfold bor; split <;> split <;> omega
  rw [← e1, ← e2]
  rw [run_callFunc_extern Ybad.func8 (by kernel_rfl) (by kernel_rfl) (by kernel_rfl) (e := sub64Entry) (by kernel_rfl), run_sub64 x y b (by omega)]
  rfl
end Go.Proofs.YbulkebvgDoor
