import Derived.Test.YbulkebqyDoorEqual
namespace Go.Proofs.YbulkebqyDoor
open Go.RowKit Go.Deep

theorem force_nil (p q : Value) (w : World) :
    Calls Ybad.prog 16 #[p, .slice none 0 0, q] w fun e w' => e = .returned (.tuple #[.slice none 0 0, .bool true]) ∧ w' = w := by
  go_enter Ybad.func16, Ybad.ntmps16
  go_wp2_with (go_at_call 30; refine (clone30_nil _).mono ?_; rintro e w1 ⟨rfl, rfl⟩)
  refine wp_loop_rounds 2 ?_
  rw [rounds_succ]
  go_wp2
  refine wp_loop_rounds 1 ?_
  rw [rounds_succ]
  go_wp2
  rw [rounds_succ]
  go_wp2
  go_returns
  exact ⟨rfl, rfl⟩

theorem force_some (p q : Value) (a : Addr) (c : Nat) (w : World) :
    Calls Ybad.prog 16 #[p, .slice (some a) 0 c, q] w fun e w' => ∃ g cap, e = .returned (.tuple #[.slice (some ⟨g, 0, none⟩) 0 cap, .bool true]) ∧ Keeps (fun _ => False) w w' := by
  go_enter Ybad.func16, Ybad.ntmps16
  go_wp2_with (go_at_call 30; refine (clone30_some a 0 c [] _ rfl (by simp) (by simp) (by omega)).mono ?_; rintro e w1 ⟨g, cap, rfl, hg, hown, hk⟩)
  have HK := hid hk
  clear hown hk
  refine wp_loop_rounds 2 ?_
  rw [rounds_succ]
  go_wp2
  refine wp_loop_rounds 1 ?_
  rw [rounds_succ]
  go_wp2
  rw [rounds_succ]
  go_wp2
  go_returns
  exact ⟨g, cap, rfl, HK.out⟩

theorem canMeet_none (p : Value) (a : Option Addr) (c : Nat) (w : World) :
    Calls Ybad.prog 17 #[p, .slice a 0 c] w fun e w' => e = .returned (.bool true) ∧ w' = w := by
  go_enter Ybad.func17, Ybad.ntmps17
  go_wp2
  go_returns
  exact ⟨rfl, rfl⟩

theorem follow_none (qb nf fb : Nat) (w : World) (h : w.cell? ⟨qb, 3, none⟩ = some (.slice (some ⟨fb, 0, none⟩) nf nf)) (x : Int) (hx : x = (nf : Int)) :
    Calls Ybad.prog 21 #[.pointer (some ⟨qb, 0, none⟩), .int .i64 x] w fun e w' => e = .returned (.tuple #[]) ∧ w' = w := by
  subst hx
  go_enter Ybad.func21, Ybad.ntmps21
  go_wp2
  go_rounds 1
  go_returns
  exact ⟨rfl, rfl⟩
end Go.Proofs.YbulkebqyDoor
