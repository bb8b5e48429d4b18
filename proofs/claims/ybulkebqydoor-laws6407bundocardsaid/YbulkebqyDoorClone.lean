import Derived.Test.YbulkebqyDoorRelease
namespace Go.Proofs.YbulkebqyDoor
open Go.RowKit Go.Deep

theorem Ybad.info3 : (Ybad.prog.info? 3).map (fun i => (i.zero, i.size, i.bytes)) = some (some (.int .i64 0), 1, 8) := by kernel_rfl
theorem Ybad.info4 : (Ybad.prog.info? 4).map (fun i => (i.zero, i.size, i.bytes)) = some (some (.bool false), 1, 1) := by kernel_rfl
theorem Ybad.info83 : (Ybad.prog.info? 83).map (fun i => (i.zero, i.size, i.bytes)) = some (some (.agg #[.int .i64 0, .int .i64 0, .int .i64 0, .int .i64 0]), 4, 32) := by kernel_rfl

theorem owns_rw {w : World} {base : Nat} {e g n cap : Nat} {xs : List Value} (h : w.ownsRow base e 1 (.slice (some ⟨g, 0, none⟩) n cap) n xs) : Rw w g e n (fun i => xs.getD i undef) := by
  rcases h.2 with ⟨hv, _⟩ | ⟨g', cap', cur, hv, hbg, hh, hn, hm, hs, ht⟩
  · simp at hv
  · simp only [Value.slice.injEq, Option.some.injEq, Addr.mk.injEq, true_and, and_true] at hv
    obtain ⟨rfl, rfl⟩ := hv
    refine ⟨cur, hh, fun i hi => ?_⟩
    have h1 : i < cur.size := by omega
    rw [← ht]
    simp [List.getD, hi, h1]

/-- slices.Clone at []uint64: not nil. -/
theorem clone7_some (a : Addr) (m c : Nat) (xs : List Value) (w : World) (hl : xs.length = m * 1) (hc : ∀ j u, xs[j]? = some u → w.cell? (a.add j) = some u) (h1 : ∀ u ∈ xs, u.oneCell' = true) (hm : m ≤ 100000000) :
    Calls Ybad.prog 7 #[.slice (some a) m c] w fun e w' => ∃ g cap, e = .returned (.slice (some ⟨g, 0, none⟩) m cap) ∧ w.heap.size ≤ g ∧
      w'.ownsRow w.heap.size 37 1 (.slice (some ⟨g, 0, none⟩) m cap) m xs ∧ Keeps (fun _ => False) w w' := by
  obtain ⟨i0, hi0, hz0, hz1, hz2⟩ := info_parts Ybad.info37
  have HC := hid hc
  have H1 := hid h1
  clear hc h1
  have hnil := fun (w : World) => Lib.run_eql_slice_nil (P := Ybad.prog) w 24 37 (some a) m c 0 0 Ybad.underlying24
  go_enter Ybad.func7, Ybad.ntmps7
  go_wp2_with (at_builtin; refine wpList_append_own' _ rfl (.tmp 5) (.tmp 6) 24 rfl w.heap.size 37 i0 (.int .u64 0) 1 8 Ybad.underlying24 hi0 hz0 hz1 hz2 rfl (by decide) (.slice (some ⟨w.heap.size, 0, none⟩) 0 0) 0 [] rfl ?o a m c xs rfl hl ?c1 H1.out ?b1 ?b2 ?b3 ?_)
  case o => exact World.ownsRow_made w #[] 0 (Nat.le_refl _) (by unfold maxLen; omega) (by simp)
  case c1 =>
    intro j u hj
    have := HC.out j u hj
    rw [World.cell?_of_block (w := w) (Below.heap_alloc _ _ _ ?_)]
    · exact this
    · simp only [World.cell?] at this
      simp only [Addr.add] at this ⊢
      split at this
      · rename_i h; exact lt_of_blk h
      · simp at this
  case b1 => unfold maxLen; omega
  case b2 => omega
  case b3 => simp
  · intro v' w1 hown hgrow hnl _
    obtain ⟨g, cap, cur, hv, hg⟩ := owns_shape hown hnl
    have HK := hid (((Keeps.refl (fun _ => False) w).alloc (.cells #[] 37)).grown hgrow (fun k e hk => by simp [Value.ownBlock] at e; omega))
    rw [hv] at hown ⊢
    have HO := hid hown
    clear hown hgrow hnl hg hv
    go_wp2
    go_returns
    refine ⟨g, cap, rfl, ?_, HO.out, HK.out⟩
    exact (HO.out.lt g rfl).1

theorem clone7_nil (w : World) : Calls Ybad.prog 7 #[.slice none 0 0] w fun e w' => e = .returned (.slice none 0 0) ∧ w' = w := by
  have hnil := fun (w : World) => Lib.run_eql_slice_nil (P := Ybad.prog) w 24 37 none 0 0 0 0 Ybad.underlying24
  go_enter Ybad.func7, Ybad.ntmps7
  go_wp2
  go_returns
  exact ⟨rfl, rfl⟩

/-- slices.Clone at []change: not nil. -/
theorem clone8_some (a : Addr) (m c : Nat) (xs : List Value) (w : World) (hl : xs.length = m * 2) (hc : ∀ j u, xs[j]? = some u → w.cell? (a.add j) = some u) (h1 : ∀ u ∈ xs, u.oneCell' = true) (hm : m ≤ 100000000) :
    Calls Ybad.prog 8 #[.slice (some a) m c] w fun e w' => ∃ g cap, e = .returned (.slice (some ⟨g, 0, none⟩) m cap) ∧ w.heap.size ≤ g ∧
      w'.ownsRow w.heap.size 50 2 (.slice (some ⟨g, 0, none⟩) m cap) m xs ∧ Keeps (fun _ => False) w w' := by
  obtain ⟨i0, hi0, hz0, hz1, hz2⟩ := info_parts Ybad.info50
  have HC := hid hc
  have H1 := hid h1
  clear hc h1
  have hnil := fun (w : World) => Lib.run_eql_slice_nil (P := Ybad.prog) w 38 50 (some a) m c 0 0 Ybad.underlying38
  go_enter Ybad.func8, Ybad.ntmps8
  go_wp2_with (at_builtin; refine wpList_append_own' _ rfl (.tmp 5) (.tmp 6) 38 rfl w.heap.size 50 i0 (.agg #[.int .i64 0, .int .u64 0]) 2 16 Ybad.underlying38 hi0 hz0 hz1 hz2 rfl (by decide) (.slice (some ⟨w.heap.size, 0, none⟩) 0 0) 0 [] rfl ?o a m c xs rfl hl ?c1 H1.out ?b1 ?b2 ?b3 ?_)
  case o => exact World.ownsRow_made w #[] 0 (Nat.le_refl _) (by unfold maxLen; omega) (by simp)
  case c1 =>
    intro j u hj
    have := HC.out j u hj
    rw [World.cell?_of_block (w := w) (Below.heap_alloc _ _ _ ?_)]
    · exact this
    · simp only [World.cell?] at this
      simp only [Addr.add] at this ⊢
      split at this
      · rename_i h; exact lt_of_blk h
      · simp at this
  case b1 => unfold maxLen; omega
  case b2 => omega
  case b3 => simp
  · intro v' w1 hown hgrow hnl _
    obtain ⟨g, cap, cur, hv, hg⟩ := owns_shape hown hnl
    have HK := hid (((Keeps.refl (fun _ => False) w).alloc (.cells #[] 50)).grown hgrow (fun k e hk => by simp [Value.ownBlock] at e; omega))
    rw [hv] at hown ⊢
    have HO := hid hown
    clear hown hgrow hnl hg hv
    go_wp2
    go_returns
    refine ⟨g, cap, rfl, ?_, HO.out, HK.out⟩
    exact (HO.out.lt g rfl).1

theorem clone8_nil (w : World) : Calls Ybad.prog 8 #[.slice none 0 0] w fun e w' => e = .returned (.slice none 0 0) ∧ w' = w := by
  have hnil := fun (w : World) => Lib.run_eql_slice_nil (P := Ybad.prog) w 38 50 none 0 0 0 0 Ybad.underlying38
  go_enter Ybad.func8, Ybad.ntmps8
  go_wp2
  go_returns
  exact ⟨rfl, rfl⟩

/-- slices.Clone at []bool: not nil. -/
theorem clone11_some (a : Addr) (m c : Nat) (xs : List Value) (w : World) (hl : xs.length = m * 1) (hc : ∀ j u, xs[j]? = some u → w.cell? (a.add j) = some u) (h1 : ∀ u ∈ xs, u.oneCell' = true) (hm : m ≤ 100000000) :
    Calls Ybad.prog 11 #[.slice (some a) m c] w fun e w' => ∃ g cap, e = .returned (.slice (some ⟨g, 0, none⟩) m cap) ∧ w.heap.size ≤ g ∧
      w'.ownsRow w.heap.size 4 1 (.slice (some ⟨g, 0, none⟩) m cap) m xs ∧ Keeps (fun _ => False) w w' := by
  obtain ⟨i0, hi0, hz0, hz1, hz2⟩ := info_parts Ybad.info4
  have HC := hid hc
  have H1 := hid h1
  clear hc h1
  have hnil := fun (w : World) => Lib.run_eql_slice_nil (P := Ybad.prog) w 29 4 (some a) m c 0 0 Ybad.underlying29
  go_enter Ybad.func11, Ybad.ntmps11
  go_wp2_with (at_builtin; refine wpList_append_own' _ rfl (.tmp 5) (.tmp 6) 29 rfl w.heap.size 4 i0 (.bool false) 1 1 Ybad.underlying29 hi0 hz0 hz1 hz2 rfl (by decide) (.slice (some ⟨w.heap.size, 0, none⟩) 0 0) 0 [] rfl ?o a m c xs rfl hl ?c1 H1.out ?b1 ?b2 ?b3 ?_)
  case o => exact World.ownsRow_made w #[] 0 (Nat.le_refl _) (by unfold maxLen; omega) (by simp)
  case c1 =>
    intro j u hj
    have := HC.out j u hj
    rw [World.cell?_of_block (w := w) (Below.heap_alloc _ _ _ ?_)]
    · exact this
    · simp only [World.cell?] at this
      simp only [Addr.add] at this ⊢
      split at this
      · rename_i h; exact lt_of_blk h
      · simp at this
  case b1 => unfold maxLen; omega
  case b2 => omega
  case b3 => simp
  · intro v' w1 hown hgrow hnl _
    obtain ⟨g, cap, cur, hv, hg⟩ := owns_shape hown hnl
    have HK := hid (((Keeps.refl (fun _ => False) w).alloc (.cells #[] 4)).grown hgrow (fun k e hk => by simp [Value.ownBlock] at e; omega))
    rw [hv] at hown ⊢
    have HO := hid hown
    clear hown hgrow hnl hg hv
    go_wp2
    go_returns
    refine ⟨g, cap, rfl, ?_, HO.out, HK.out⟩
    exact (HO.out.lt g rfl).1

theorem clone11_nil (w : World) : Calls Ybad.prog 11 #[.slice none 0 0] w fun e w' => e = .returned (.slice none 0 0) ∧ w' = w := by
  have hnil := fun (w : World) => Lib.run_eql_slice_nil (P := Ybad.prog) w 29 4 none 0 0 0 0 Ybad.underlying29
  go_enter Ybad.func11, Ybad.ntmps11
  go_wp2
  go_returns
  exact ⟨rfl, rfl⟩

/-- slices.Clone at []int: not nil. -/
theorem clone12_some (a : Addr) (m c : Nat) (xs : List Value) (w : World) (hl : xs.length = m * 1) (hc : ∀ j u, xs[j]? = some u → w.cell? (a.add j) = some u) (h1 : ∀ u ∈ xs, u.oneCell' = true) (hm : m ≤ 100000000) :
    Calls Ybad.prog 12 #[.slice (some a) m c] w fun e w' => ∃ g cap, e = .returned (.slice (some ⟨g, 0, none⟩) m cap) ∧ w.heap.size ≤ g ∧
      w'.ownsRow w.heap.size 3 1 (.slice (some ⟨g, 0, none⟩) m cap) m xs ∧ Keeps (fun _ => False) w w' := by
  obtain ⟨i0, hi0, hz0, hz1, hz2⟩ := info_parts Ybad.info3
  have HC := hid hc
  have H1 := hid h1
  clear hc h1
  have hnil := fun (w : World) => Lib.run_eql_slice_nil (P := Ybad.prog) w 30 3 (some a) m c 0 0 Ybad.underlying30
  go_enter Ybad.func12, Ybad.ntmps12
  go_wp2_with (at_builtin; refine wpList_append_own' _ rfl (.tmp 5) (.tmp 6) 30 rfl w.heap.size 3 i0 (.int .i64 0) 1 8 Ybad.underlying30 hi0 hz0 hz1 hz2 rfl (by decide) (.slice (some ⟨w.heap.size, 0, none⟩) 0 0) 0 [] rfl ?o a m c xs rfl hl ?c1 H1.out ?b1 ?b2 ?b3 ?_)
  case o => exact World.ownsRow_made w #[] 0 (Nat.le_refl _) (by unfold maxLen; omega) (by simp)
  case c1 =>
    intro j u hj
    have := HC.out j u hj
    rw [World.cell?_of_block (w := w) (Below.heap_alloc _ _ _ ?_)]
    · exact this
    · simp only [World.cell?] at this
      simp only [Addr.add] at this ⊢
      split at this
      · rename_i h; exact lt_of_blk h
      · simp at this
  case b1 => unfold maxLen; omega
  case b2 => omega
  case b3 => simp
  · intro v' w1 hown hgrow hnl _
    obtain ⟨g, cap, cur, hv, hg⟩ := owns_shape hown hnl
    have HK := hid (((Keeps.refl (fun _ => False) w).alloc (.cells #[] 3)).grown hgrow (fun k e hk => by simp [Value.ownBlock] at e; omega))
    rw [hv] at hown ⊢
    have HO := hid hown
    clear hown hgrow hnl hg hv
    go_wp2
    go_returns
    refine ⟨g, cap, rfl, ?_, HO.out, HK.out⟩
    exact (HO.out.lt g rfl).1

theorem clone12_nil (w : World) : Calls Ybad.prog 12 #[.slice none 0 0] w fun e w' => e = .returned (.slice none 0 0) ∧ w' = w := by
  have hnil := fun (w : World) => Lib.run_eql_slice_nil (P := Ybad.prog) w 30 3 none 0 0 0 0 Ybad.underlying30
  go_enter Ybad.func12, Ybad.ntmps12
  go_wp2
  go_returns
  exact ⟨rfl, rfl⟩

/-- slices.Clone at []choice: not nil. -/
theorem clone30_some (a : Addr) (m c : Nat) (xs : List Value) (w : World) (hl : xs.length = m * 4) (hc : ∀ j u, xs[j]? = some u → w.cell? (a.add j) = some u) (h1 : ∀ u ∈ xs, u.oneCell' = true) (hm : m ≤ 100000000) :
    Calls Ybad.prog 30 #[.slice (some a) m c] w fun e w' => ∃ g cap, e = .returned (.slice (some ⟨g, 0, none⟩) m cap) ∧ w.heap.size ≤ g ∧
      w'.ownsRow w.heap.size 83 4 (.slice (some ⟨g, 0, none⟩) m cap) m xs ∧ Keeps (fun _ => False) w w' := by
  obtain ⟨i0, hi0, hz0, hz1, hz2⟩ := info_parts Ybad.info83
  have HC := hid hc
  have H1 := hid h1
  clear hc h1
  have hnil := fun (w : World) => Lib.run_eql_slice_nil (P := Ybad.prog) w 42 83 (some a) m c 0 0 Ybad.underlying42
  go_enter Ybad.func30, Ybad.ntmps30
  go_wp2_with (at_builtin; refine wpList_append_own' _ rfl (.tmp 5) (.tmp 6) 42 rfl w.heap.size 83 i0 (.agg #[.int .i64 0, .int .i64 0, .int .i64 0, .int .i64 0]) 4 32 Ybad.underlying42 hi0 hz0 hz1 hz2 rfl (by decide) (.slice (some ⟨w.heap.size, 0, none⟩) 0 0) 0 [] rfl ?o a m c xs rfl hl ?c1 H1.out ?b1 ?b2 ?b3 ?_)
  case o => exact World.ownsRow_made w #[] 0 (Nat.le_refl _) (by unfold maxLen; omega) (by simp)
  case c1 =>
    intro j u hj
    have := HC.out j u hj
    rw [World.cell?_of_block (w := w) (Below.heap_alloc _ _ _ ?_)]
    · exact this
    · simp only [World.cell?] at this
      simp only [Addr.add] at this ⊢
      split at this
      · rename_i h; exact lt_of_blk h
      · simp at this
  case b1 => unfold maxLen; omega
  case b2 => omega
  case b3 => simp
  · intro v' w1 hown hgrow hnl _
    obtain ⟨g, cap, cur, hv, hg⟩ := owns_shape hown hnl
    have HK := hid (((Keeps.refl (fun _ => False) w).alloc (.cells #[] 83)).grown hgrow (fun k e hk => by simp [Value.ownBlock] at e; omega))
    rw [hv] at hown ⊢
    have HO := hid hown
    clear hown hgrow hnl hg hv
    go_wp2
    go_returns
    refine ⟨g, cap, rfl, ?_, HO.out, HK.out⟩
    exact (HO.out.lt g rfl).1

theorem clone30_nil (w : World) : Calls Ybad.prog 30 #[.slice none 0 0] w fun e w' => e = .returned (.slice none 0 0) ∧ w' = w := by
  have hnil := fun (w : World) => Lib.run_eql_slice_nil (P := Ybad.prog) w 42 83 none 0 0 0 0 Ybad.underlying42
  go_enter Ybad.func30, Ybad.ntmps30
  go_wp2
  go_returns
  exact ⟨rfl, rfl⟩
end Go.Proofs.YbulkebqyDoor
