import Derived.Test.YbulkebvgSet
import Derived.Lib.Builder
namespace Go.Proofs.Ybulkebvg
open Go.RowKit Go.Deep

set_option maxRecDepth 100000 in
set_option maxHeartbeats 2000000 in
theorem law_long (v0 v1 v2 v4 : Value) (a : Option Addr) (n cap : Nat) (w : World) (hn : n ≤ 9223372036854775807) (hbig : 65536 < n) :
    Calls Yba.prog 3 #[v0, v1, v2, .slice a n cap, v4] w fun e w' => e = .returned (.bool true) ∧ Keeps (fun _ => False) w w' := by
  go_enter Yba.func3, Yba.ntmps3
  go_wp2
  go_returns
  exact ⟨rfl, Keeps.refl _ _⟩

set_option maxRecDepth 100000 in
set_option maxHeartbeats 2000000 in
theorem law_nil (id : Int) (sc nm : ByteArray) (cap : Nat) (q : Bool) (w : World) :
    Calls Yba.prog 3 #[.int .u64 id, .string sc, .string nm, .slice none 0 cap, .bool q] w fun e w' => e = .returned (.bool true) ∧ Keeps (fun _ => False) w w' := by
  have k1 : Keeps (fun _ => False) w (w.alloc (.cells #[.int .u64 id, .string sc, .string nm, .slice none 0 0] 27)) := (Keeps.refl _ _).alloc _
  have C := charset_walk w.heap.size 0 0 0 none (fun _ => 0) (fun _ => 0) q (w.alloc (.cells #[.int .u64 id, .string sc, .string nm, .slice none 0 0] 27)) (by omega) (by rw [cell_of_blk (blk_alloc_new _ _)]; rfl) (.inl rfl) (fun i hi => by omega) (fun i hi => by omega)
  have HC := hid C
  have HK := hid k1
  have c0 : ∀ k, k < 4 → (w.alloc (.cells #[.int .u64 id, .string sc, .string nm, .slice none 0 0] 27)).cell? ⟨w.heap.size, k, none⟩ = (#[.int .u64 id, .string sc, .string nm, .slice none 0 0] : Array Value)[k]? := fun k _ => cell_of_blk (blk_alloc_new _ _) k
  have H0 := hid c0
  clear C k1 c0
  go_enter Yba.func3, Yba.ntmps3
  go_wp2
  refine wp_loop_rounds 1 ?_
  rw [rounds_succ]
  go_wp2_with (go_at_call 5; refine HC.out.mono ?_; rintro e w1 ⟨v, rfl, hO, hN, hK1⟩; obtain rfl := hN.2 rfl; have b0 : w1.cell? ⟨w.heap.size, 0, none⟩ = some (.int .u64 id) := hK1.cell (H0.out 0 (by omega)); have b1 : w1.cell? ⟨w.heap.size, 1, none⟩ = some (.string sc) := hK1.cell (H0.out 1 (by omega)); have b2 : w1.cell? ⟨w.heap.size, 2, none⟩ = some (.string nm) := hK1.cell (H0.out 2 (by omega)); have b3 : w1.cell? ⟨w.heap.size, 3, none⟩ = some (.slice none 0 0) := hK1.cell (H0.out 3 (by omega)); have HK1 := hid hK1; clear hO hN hK1)
  refine wp_loop_rounds 1 ?_
  rw [rounds_succ]
  go_wp2
  go_returns
  exact ⟨rfl, HK.out.trans HK1.out (fun _ _ h => h)⟩
end Go.Proofs.Ybulkebvg
