import Derived.Test.YbulkebsaSame
import Derived.Lib.AppendZeros
namespace Go.Proofs.Ybulkebsa
open Go.RowKit Go.Deep

theorem info_parts {P : Program} {e : TypeId} {z : Value} {s b : Nat} (h : (P.info? e).map (fun i => (i.zero, i.size, i.bytes)) = some (some z, s, b)) : ∃ i, P.info? e = some i ∧ i.zero = some z ∧ i.size = s ∧ i.bytes = b := by
  obtain ⟨i, hi, hzz⟩ := Option.map_eq_some_iff.1 h
  simp only [Prod.mk.injEq] at hzz
  exact ⟨i, hi, hzz.1, hzz.2.1, hzz.2.2⟩

set_option maxRecDepth 100000 in
set_option maxHeartbeats 2000000 in
theorem grow_walk (x : Int) (n : Nat) (hx : x = n) (w : World) (hn : n ≤ 2097152) :
    Calls Yba.prog 8 #[.slice none 0 0, .int .i64 x] w fun e w' => ∃ v, e = .returned v ∧ w'.ownsRow w.heap.size 40 6 v 0 [] ∧ (v = .slice none 0 0 ↔ n = 0) ∧ Keeps (fun _ => False) w w' := by
  subst hx
  obtain ⟨i, hi, hz, hsz, hby⟩ := info_parts Yba.info40
  by_cases h0 : n = 0
  · subst h0
    go_enter Yba.func8, Yba.ntmps8
    go_wp2
    go_returns
    exact ⟨_, rfl, ⟨rfl, .inl ⟨rfl, rfl⟩⟩, by simp, Keeps.refl _ _⟩
  · have hr := Lib.run_append_nil_zeros (P := Yba.prog) w 24 3 24 40 i (.agg zarr) .i64 .i64 Yba.underlying24 Yba.underlying3 hi hz n (by omega) (by omega) (by omega) (by rw [hby]; omega)
    have hge := grownCap_ge w n 0 40
    have hle := grownCap_le_maxLen w n 0 40 (by unfold maxLen; omega)
    generalize grownCap w n 0 40 = C at hr hge hle
    go_enter Yba.func8, Yba.ntmps8
    go_wp2_with (at_builtin; refine Lib.wpList_append_run _ rfl _ _ _ _ rfl _ _ rfl rfl _ _ hr ?_)
    go_returns
    refine ⟨_, rfl, ⟨rfl, .inr ⟨w.heap.size, C, _, rfl, Nat.le_refl _, blk_alloc_new _ _, Nat.zero_le _, hle, ?_, by simp⟩⟩, by simp [h0], ((Keeps.refl _ _).drew).alloc _⟩
    have hz6 : zarr.size = 6 := rfl
    rw [Array.size_append, size_zeroCells, size_zeroCells]
    show n * zarr.size + (C - n) * zarr.size = C * 6
    rw [hz6]
    omega
end Go.Proofs.Ybulkebsa
