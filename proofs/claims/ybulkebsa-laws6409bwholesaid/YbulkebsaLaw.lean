import Derived.Test.YbulkebsaLease
namespace Go.Proofs.Ybulkebsa
open Go.RowKit Go.Deep

theorem FsIs.shape {w : World} {v : Value} {n : Nat} {N : Nat → ByteArray} (h : FsIs w v n N) : ∃ a c, v = .slice a n c ∧ SrcIs w a n c (fcell N) := by
  rcases h with ⟨rfl, rfl⟩ | ⟨b, rfl, hr⟩
  · exact ⟨none, 0, rfl, .inl ⟨rfl, rfl, rfl⟩⟩
  · exact ⟨_, n, rfl, .inr ⟨b, rfl, hr⟩⟩
theorem FsIs.keepsO {S : Nat → Prop} {w w' : World} {v : Value} {n : Nat} {N : Nat → ByteArray} (h : FsIs w v n N) (k : Keeps S w w') (hn : ∀ b cur, w.heap[b]? = some (.cells cur 40 (0, 0)) → ¬ S b) : FsIs w' v n N := by
  rcases h with h0 | ⟨b, hv, hr⟩
  · exact .inl h0
  · obtain ⟨cur, hc, _⟩ := id hr
    exact .inr ⟨b, hv, k.row hr (hn b cur hc)⟩
theorem owns_str {w : World} {base n : Nat} {v : Value} {f : Nat → Value} (h : w.ownsRow base 9 1 v n ((List.range n).map f)) (hv : v = .slice none 0 0 ↔ n = 0) : (n = 0 ∧ v = .slice none 0 0) ∨ (¬ n = 0 ∧ ∃ g cap, v = .slice (some ⟨g, 0, none⟩) n cap ∧ ∀ j, j < n → w.cell? ⟨g, j, none⟩ = some (f j)) := by
  by_cases h0 : n = 0
  · exact .inl ⟨h0, hv.2 h0⟩
  · rcases h.2 with ⟨rfl, rfl⟩ | ⟨g, cap, cur, rfl, _, _⟩
    · exact absurd rfl h0
    · refine .inr ⟨h0, g, cap, rfl, fun j hj => ?_⟩
      have := h.cells (g := g) rfl j (f j) (by simp [hj])
      rwa [WideShapes.add_plain, Nat.zero_add] at this

set_option maxRecDepth 100000 in
theorem law_long (a1 a2 : Option Addr) (l1 l2 c1 c2 : Nat) (w : World) (h1 : l1 ≤ 9223372036854775807) (h2 : l2 ≤ 9223372036854775807) (h : 1048576 < l1 ∨ 1048576 < l2) :
    Calls Yba.prog 3 #[.slice a1 l1 c1, .slice a2 l2 c2] w fun e w' => e = .returned (.bool true) ∧ Keeps (fun _ => False) w w' := by
  by_cases hb : 1048576 < l1
  · go_enter Yba.func3, Yba.ntmps3
    go_wp2
    go_returns
    exact ⟨rfl, Keeps.refl _ _⟩
  · have hb2 : 1048576 < l2 := by omega
    go_enter Yba.func3, Yba.ntmps3
    go_wp2
    go_returns
    exact ⟨rfl, Keeps.refl _ _⟩

set_option maxRecDepth 100000 in
set_option maxHeartbeats 2000000 in
theorem law_walk (a1 a2 : Option Addr) (l1 l2 c1 c2 : Nat) (N1 N2 : Nat → ByteArray) (w : World) (hn1 : a1 = none → l1 = 0) (hn2 : a2 = none → l2 = 0) (hN1 : ArgRow w a1 l1 (fun i => .string (N1 i))) (hN2 : ArgRow w a2 l2 (fun i => .string (N2 i)))
    (hl1 : l1 ≤ 1048576) (hl2 : l2 ≤ 1048576) (hs1 : ∀ i, i < l1 → (N1 i).size ≤ 140737488351232) (hs2 : ∀ i, i < l2 → (N2 i).size ≤ 140737488351232) :
    Calls Yba.prog 3 #[.slice a1 l1 c1, .slice a2 l2 c2] w fun e w' => e = .returned (.bool true) ∧ Keeps (fun _ => False) w w' := by
  have q22 : ∀ (w : World) (a : Option Addr) (n c n' c' : Nat), (binOp .eql 22 (.slice a n c) (.slice none n' c')).run Yba.prog w = .ok (.bool a.isNone) w := fun w a n c n' c' => Lib.run_eql_slice_nil w _ _ a n c n' c' Yba.underlying22
  have HN1 := hid hN1
  have HN2 := hid hN2
  have HS1 := hid hs1
  have HS2 := hid hs2
  have Hn1 := hid hn1
  have Hn2 := hid hn2
  clear hN1 hN2 hs1 hs2 hn1 hn2
  by_cases h0 : l1 + l2 = 0
  · go_enter Yba.func3, Yba.ntmps3
    go_wp2_with (first
      | (go_at_call 4; first
        | (have h1 := HK1.out; clear h1; refine (fields_walk a2 l2 c2 N2 _ Hn2.out (HN2.out.keeps HK1.out) hl2 HS2.out).mono ?_; rintro e w2 ⟨v2, rfl, hF2, hK2⟩; obtain ⟨b2, d2, rfl, hS2⟩ := hF2.shape; have HF2 := hid hF2; have HK2 := hid hK2; have HS2' := hid hS2; clear hF2 hK2 hS2)
        | (refine (fields_walk a1 l1 c1 N1 _ Hn1.out HN1.out hl1 HS1.out).mono ?_; rintro e w1 ⟨v1, rfl, hF1, hK1⟩; obtain ⟨b1, d1, rfl, hS1⟩ := hF1.shape; have HF1 := hid hF1; have HK1 := hid hK1; have HS1' := hid hS1; clear hF1 hK1 hS1))
      | (go_at_call 5; refine (lease_walk w2.heap.size b1 b2 l1 l2 d1 d2 N1 N2 _ _ ((blk_alloc_lt _ _ _ (by rw [nblk_alloc]; omega)).trans (blk_alloc_new _ _)) ((HS1'.out.keeps HK2.out).keeps (((Keeps.refl _ _).alloc _).alloc _)) (HS2'.out.keeps (((Keeps.refl _ _).alloc _).alloc _)) hl1 hl2).mono ?_; rintro e w3 ⟨v3, rfl, hO3, hv3, hb3, hK3⟩; obtain ⟨_, rfl⟩ | ⟨hcon, _⟩ := owns_str hO3 hv3 <;> (first | (exact absurd h0 hcon) | skip);
          have c30 := (cell_of_blk hb3 0); have c31 := (cell_of_blk hb3 1); have c32 := (cell_of_blk hb3 2); simp only [List.getElem?_toArray, List.getElem?_cons_zero, List.getElem?_cons_succ] at c30 c31 c32;
          have HF13 := hid (((HF1.out.keeps HK2.out).keeps (((Keeps.refl _ _).alloc _).alloc _)).keepsO hK3 (rb_ne ((blk_alloc_lt _ _ _ (by rw [nblk_alloc]; omega)).trans (blk_alloc_new _ _))));
          have HF23 := hid ((HF2.out.keeps (((Keeps.refl _ _).alloc _).alloc _)).keepsO hK3 (rb_ne ((blk_alloc_lt _ _ _ (by rw [nblk_alloc]; omega)).trans (blk_alloc_new _ _))));
          have HK3 := hid (((((HK1.out.trans HK2.out (fun _ _ h => h)).alloc _).alloc _).mono (S' := fun k => k = w2.heap.size) (fun _ _ h => h.elim)).trans hK3 (fun _ _ h => h) |>.mono (S' := fun _ => False) (fun k hk h => by have := HK1.out.size; have := HK2.out.size; omega));
          clear hb3 hK3 hO3 hv3)
      | (go_at_call 6; first
        | (have h1 := HK4.out; clear h1; refine (same_walk (.slice b2 l2 d2) a2 l2 c2 N2 _ (HF23.out.keeps HK4.out) (HN2.out.keeps (HK3.out.trans HK4.out (fun _ _ h => h))) hl2 HS2.out).mono ?_; rintro e w5 ⟨rfl, hK5⟩; have HK5 := hid hK5; clear hK5)
        | (refine (same_walk (.slice b1 l1 d1) a1 l1 c1 N1 _ HF13.out (HN1.out.keeps HK3.out) hl1 HS1.out).mono ?_; rintro e w4 ⟨rfl, hK4⟩; have c41 := hK4.cell c31; have HK4 := hid hK4; clear hK4)))
    go_returns
    exact ⟨rfl, (HK3.out.trans HK4.out (fun _ _ h => h)).trans HK5.out (fun _ _ h => h)⟩
  · go_enter Yba.func3, Yba.ntmps3
    go_wp2_with (first
      | (go_at_call 4; first
        | (have h1 := HK1.out; clear h1; refine (fields_walk a2 l2 c2 N2 _ Hn2.out (HN2.out.keeps HK1.out) hl2 HS2.out).mono ?_; rintro e w2 ⟨v2, rfl, hF2, hK2⟩; obtain ⟨b2, d2, rfl, hS2⟩ := hF2.shape; have HF2 := hid hF2; have HK2 := hid hK2; have HS2' := hid hS2; clear hF2 hK2 hS2)
        | (refine (fields_walk a1 l1 c1 N1 _ Hn1.out HN1.out hl1 HS1.out).mono ?_; rintro e w1 ⟨v1, rfl, hF1, hK1⟩; obtain ⟨b1, d1, rfl, hS1⟩ := hF1.shape; have HF1 := hid hF1; have HK1 := hid hK1; have HS1' := hid hS1; clear hF1 hK1 hS1))
      | (go_at_call 5; refine (lease_walk w2.heap.size b1 b2 l1 l2 d1 d2 N1 N2 _ _ ((blk_alloc_lt _ _ _ (by rw [nblk_alloc]; omega)).trans (blk_alloc_new _ _)) ((HS1'.out.keeps HK2.out).keeps (((Keeps.refl _ _).alloc _).alloc _)) (HS2'.out.keeps (((Keeps.refl _ _).alloc _).alloc _)) hl1 hl2).mono ?_; rintro e w3 ⟨v3, rfl, hO3, hv3, hb3, hK3⟩; obtain ⟨hcon, _⟩ | ⟨_, g, cap, rfl, hgc⟩ := owns_str hO3 hv3 <;> (first | (exact absurd hcon h0) | (have HGC := hid hgc; clear hgc));
          have c30 := (cell_of_blk hb3 0); have c31 := (cell_of_blk hb3 1); have c32 := (cell_of_blk hb3 2); simp only [List.getElem?_toArray, List.getElem?_cons_zero, List.getElem?_cons_succ] at c30 c31 c32;
          have HF13 := hid (((HF1.out.keeps HK2.out).keeps (((Keeps.refl _ _).alloc _).alloc _)).keepsO hK3 (rb_ne ((blk_alloc_lt _ _ _ (by rw [nblk_alloc]; omega)).trans (blk_alloc_new _ _))));
          have HF23 := hid ((HF2.out.keeps (((Keeps.refl _ _).alloc _).alloc _)).keepsO hK3 (rb_ne ((blk_alloc_lt _ _ _ (by rw [nblk_alloc]; omega)).trans (blk_alloc_new _ _))));
          have HK3 := hid (((((HK1.out.trans HK2.out (fun _ _ h => h)).alloc _).alloc _).mono (S' := fun k => k = w2.heap.size) (fun _ _ h => h.elim)).trans hK3 (fun _ _ h => h) |>.mono (S' := fun _ => False) (fun k hk h => by have := HK1.out.size; have := HK2.out.size; omega));
          clear hb3 hK3 hO3 hv3)
      | (go_at_call 6; first
        | (have h1 := HK4.out; clear h1; refine (same_walk (.slice b2 l2 d2) a2 l2 c2 N2 _ (HF23.out.keeps HK4.out) (HN2.out.keeps (HK3.out.trans HK4.out (fun _ _ h => h))) hl2 HS2.out).mono ?_; rintro e w5 ⟨rfl, hK5⟩; have HK5 := hid hK5; clear hK5)
        | (refine (same_walk (.slice b1 l1 d1) a1 l1 c1 N1 _ HF13.out (HN1.out.keeps HK3.out) hl1 HS1.out).mono ?_; rintro e w4 ⟨rfl, hK4⟩; have c41 := hK4.cell c31; have HK4 := hid hK4; clear hK4)))
    go_loopg [9] (l1 + l2) (fun g i wr => ∃ c : Nat, c + g = l1 + l2 ∧ i = .int .i64 c ∧ wr = w5)
    case atStart => exact ⟨0, by omega, rfl, rfl⟩
    case round =>
      obtain ⟨c, hc, rfl, hwr⟩ := hrel
      subst hwr
      have HK35 := hid ((HK3.out.trans HK4.out (fun _ _ h => h)).trans HK5.out (fun _ _ h => h))
      by_cases hlt : c < l1 + l2
      · have cg := HK5.out.cell (HK4.out.cell (HGC.out c hlt))
        by_cases hc1 : c < l1
        · obtain ⟨xb, xo, rfl, cx⟩ := (HN1.out.keeps HK35.out).at' hc1
          have ecat : cat l1 N1 N2 c = N1 c := by simp [cat, hc1]
          rw [ecat] at cg
          go_wp2
          go_roundg (l1 + l2 - (c + 1))
          case measure => omega
          case rel => exact ⟨c + 1, by omega, by go_num, rfl⟩
        · obtain ⟨xb, xo, rfl, cx⟩ := (HN2.out.keeps HK35.out).at' (j := c - l1) (by omega)
          have ecat : cat l1 N1 N2 c = N2 (c - l1) := by simp [cat, hc1]
          rw [ecat] at cg
          go_wp2
          go_roundg (l1 + l2 - (c + 1))
          case measure => omega
          case rel => exact ⟨c + 1, by omega, by go_num, rfl⟩
      · go_wp2
        go_returns
        exact ⟨rfl, HK35.out⟩
end Go.Proofs.Ybulkebsa
