import Derived.Test.YbulkebsaConcat
namespace Go.Proofs.Ybulkebsa
open Go.RowKit Go.Deep

theorem Keeps.other {S : Nat → Prop} {w w' : World} (k : Keeps S w w') {a : Addr} {v : Value} (h : w.cell? a = some v) (hn : ¬ S a.block) : w'.cell? a = some v := by
  have hlt : a.block < w.heap.size := by
    rcases Nat.lt_or_ge a.block w.heap.size with h1 | h1
    · exact h1
    · have e : w.heap[a.block]? = none := by simp [h1]
      simp [World.cell?, e] at h
  have := k.block a.block hlt hn
  simpa [World.cell?, this] using h

set_option maxRecDepth 100000 in
theorem rule_walk (rb : Nat) (a1 a2 : Option Addr) (l1 l2 c1 c2 : Nat) (w : World) (hb : w.heap[rb]? = some (.cells #[.slice a1 l1 c1, .slice a2 l2 c2, .int .i64 0] 27 (0, 0))) :
    Calls Yba.prog 25 #[.pointer (some ⟨rb, 0, none⟩)] w fun e w' => e = .returned (.tuple #[.slice a1 l1 c1, .slice a2 l2 c2]) ∧ w'.heap[rb]? = some (.cells #[.slice a1 l1 c1, .slice a2 l2 c2, .int .i64 1] 27 (0, 0)) ∧ Keeps (fun k => k = rb) w w' := by
  have h0 : w.cell? ⟨rb, 0, none⟩ = some (.slice a1 l1 c1) := by rw [cell_of_blk hb]; rfl
  have h1 : w.cell? ⟨rb, 1, none⟩ = some (.slice a2 l2 c2) := by rw [cell_of_blk hb]; rfl
  have h2 : w.cell? ⟨rb, 2, none⟩ = some (.int .i64 0) := by rw [cell_of_blk hb]; rfl
  have f2 : w.frozen? ⟨rb, 2, none⟩ = false := frozen_of_blk hb 2
  have HB := hid hb
  clear hb
  go_enter Yba.func25, Yba.ntmps25
  go_wp2
  go_region
  all_goals
    go_wp2
    go_returns
    refine ⟨rfl, ?_, ((Keeps.refl (fun k => k = rb) _).setCell ⟨rb, 2, none⟩ _ (fun _ => rfl)).drew⟩
    exact blk_set HB.out 2 (.int .i64 1)

theorem SrcIs.keepsO {S : Nat → Prop} {w w' : World} {a : Option Addr} {n c : Nat} {f : Nat → Value} (h : SrcIs w a n c f) (k : Keeps S w w') (hn : ∀ b cur, w.heap[b]? = some (.cells cur 40 (0, 0)) → ¬ S b) : SrcIs w' a n c f := by
  rcases h with h0 | ⟨b, hv, hr⟩
  · exact .inl h0
  · obtain ⟨cur, hc, _⟩ := id hr
    exact .inr ⟨b, hv, k.row hr (hn b cur hc)⟩
theorem rb_ne {w : World} {rb : Nat} {c : Array Value} (hb : w.heap[rb]? = some (.cells c 27 (0, 0))) : ∀ b cur, w.heap[b]? = some (.cells cur 40 (0, 0)) → ¬ b = rb := by
  rintro b cur h rfl
  rw [hb] at h
  simp at h

theorem owns_src {w : World} {base n : Nat} {v : Value} {f : Nat → Value} (h : w.ownsRow base 40 6 v n ((List.range (n * 6)).map f)) : ∃ a cap, v = .slice a n cap ∧ (n = 0 ∨ ∃ g, a = some ⟨g, 0, none⟩ ∧ ∀ j, j < n * 6 → w.cell? ⟨g, j, none⟩ = some (f j)) := by
  rcases h.2 with ⟨rfl, rfl⟩ | ⟨g, cap, cur, rfl, _, _⟩
  · exact ⟨none, 0, rfl, .inl rfl⟩
  · refine ⟨_, cap, rfl, .inr ⟨g, rfl, fun j hj => ?_⟩⟩
    have := h.cells (g := g) rfl j (f j) (by simp [hj])
    rwa [WideShapes.add_plain, Nat.zero_add] at this
theorem fcell_at (N : Nat → ByteArray) (j : Nat) : fcell N (j * 6) = .string (N j) ∧ fcell N (j * 6 + 1) = .nilFunc ∧ fcell N (j * 6 + 2) = .nilFunc ∧ fcell N (j * 6 + 3) = .string (⟨#[117]⟩ ++ N j) ∧ fcell N (j * 6 + 4) = .bool false ∧ fcell N (j * 6 + 5) = .string ⟨#[112]⟩ := by
  refine ⟨?_, ?_, ?_, ?_, ?_, ?_⟩
  · unfold fcell; rw [show j * 6 / 6 = j from by omega, show j * 6 % 6 = 0 from by omega]; rfl
  · unfold fcell; rw [show (j * 6 + 1) / 6 = j from by omega, show (j * 6 + 1) % 6 = 1 from by omega]; rfl
  · unfold fcell; rw [show (j * 6 + 2) / 6 = j from by omega, show (j * 6 + 2) % 6 = 2 from by omega]; rfl
  · unfold fcell; rw [show (j * 6 + 3) / 6 = j from by omega, show (j * 6 + 3) % 6 = 3 from by omega]; rfl
  · unfold fcell; rw [show (j * 6 + 4) / 6 = j from by omega, show (j * 6 + 4) % 6 = 4 from by omega]; rfl
  · unfold fcell; rw [show (j * 6 + 5) / 6 = j from by omega, show (j * 6 + 5) % 6 = 5 from by omega]; rfl
theorem owns_base {w : World} {base e size n : Nat} {v : Value} {xs : List Value} (h : w.ownsRow base e size v n xs) (k : Nat) (hk : v.ownBlock = some k) : base ≤ k := by
  rcases h.2 with ⟨rfl, _⟩ | ⟨g, cap, cur, rfl, hg, _⟩
  · simp [Value.ownBlock] at hk
  · simp [Value.ownBlock] at hk
    omega
theorem owns_less {w : World} {base base' e size n : Nat} {v : Value} {xs : List Value} (h : w.ownsRow base e size v n xs) (hb : base' ≤ base) : w.ownsRow base' e size v n xs := by
  refine ⟨h.1, ?_⟩
  rcases h.2 with h0 | ⟨g, cap, cur, hv, hg, hr⟩
  · exact .inl h0
  · exact .inr ⟨g, cap, cur, hv, Nat.le_trans hb hg, hr⟩
theorem Yba.info9 : (Yba.prog.info? 9).map (fun i => (i.zero, i.size, i.bytes)) = some (some (.string ⟨#[]⟩), 1, 16) := by kernel_rfl

set_option maxRecDepth 100000 in
set_option maxHeartbeats 2000000 in
theorem lease_walk (rb : Nat) (a1 a2 : Option Addr) (l1 l2 c1 c2 : Nat) (N1 N2 : Nat → ByteArray) (s : ByteArray) (w : World) (hb : w.heap[rb]? = some (.cells #[.slice a1 l1 c1, .slice a2 l2 c2, .int .i64 0] 27 (0, 0)))
    (hF1 : SrcIs w a1 l1 c1 (fcell N1)) (hF2 : SrcIs w a2 l2 c2 (fcell N2)) (hl1 : l1 ≤ 1048576) (hl2 : l2 ≤ 1048576) :
    Calls Yba.prog 5 #[.agg #[.iface 23 (.pointer (some ⟨rb, 0, none⟩)), .string s]] w fun e w' => ∃ v, e = .returned v ∧ w'.ownsRow w.heap.size 9 1 v (l1 + l2) ((List.range (l1 + l2)).map fun i => .string (cat l1 N1 N2 i)) ∧ (v = .slice none 0 0 ↔ l1 + l2 = 0) ∧
      w'.heap[rb]? = some (.cells #[.slice a1 l1 c1, .slice a2 l2 c2, .int .i64 1] 27 (0, 0)) ∧ Keeps (fun k => k = rb) w w' := by
  have HF1 := hid hF1
  have HF2 := hid hF2
  have HB := hid hb
  have hrb := lt_of_blk hb
  clear hF1 hF2 hb
  go_enter Yba.func5, Yba.ntmps5
  obtain ⟨i9, hi9, hz9, hs9, hb9⟩ := info_parts Yba.info9
  go_wp2_with (go_at_call 25; refine (rule_walk rb a1 a2 l1 l2 c1 c2 _ ((blk_alloc_lt _ _ _ hrb).trans HB.out)).mono ?_; rintro e w1 ⟨rfl, hb1, hK1⟩)
  have HB1 := hid hb1
  have HK1 := hid (((Keeps.refl (fun k => k = rb) w).alloc (.cells #[.iface 23 (.pointer (some ⟨rb, 0, none⟩)), .string s] 31)).trans hK1 (fun _ _ h => h))
  clear hb1 hK1
  have hblk : (w1.alloc (.cells #[.slice a1 l1 c1, .slice a2 l2 c2] 24)).heap[w1.heap.size]? = some (.cells #[.slice a1 l1 c1, .slice a2 l2 c2] 24 (0, 0)) := blk_alloc_new _ _
  have hc := concat_walk w1.heap.size a1 a2 l1 l2 c1 c2 N1 N2 (w1.alloc (.cells #[.slice a1 l1 c1, .slice a2 l2 c2] 24)) (by rw [cell_of_blk hblk]; rfl) (by rw [cell_of_blk hblk]; rfl)
    ((HF1.out.keepsO HK1.out (rb_ne HB.out)).keeps ((Keeps.refl _ _).alloc _)) ((HF2.out.keepsO HK1.out (rb_ne HB.out)).keeps ((Keeps.refl _ _).alloc _)) hl1 hl2
  have HC := hid hc
  clear hc hblk
  go_wp2_with (go_at_call 7; refine HC.out.mono ?_; rintro e w2 ⟨v, rfl, hO, hK2⟩; obtain ⟨a3, cap3, rfl, hsrc⟩ := owns_src hO)
  have HB2 := hid (hK2.at' ((blk_alloc_lt _ _ _ (lt_of_blk HB1.out)).trans HB1.out) (fun h => h))
  have HK2 := hid ((HK1.out.alloc (.cells #[.slice a1 l1 c1, .slice a2 l2 c2] 24)).trans hK2 (fun _ _ h => h.elim))
  have HSrc := hid hsrc
  have hsz2 : w.heap.size ≤ w2.heap.size := HK2.out.size
  clear hO hK2 hsrc HC
  obtain ⟨T, hT⟩ : ∃ T, l1 + l2 = T := ⟨_, rfl⟩
  rw [hT] at HSrc ⊢
  go_loopg [5, 19] T (fun g nv i wr => ∃ c : Nat, c + g = T ∧ i = .int .i64 c ∧ wr.ownsRow w2.heap.size 9 1 nv c ((List.range c).map fun i => .string (cat l1 N1 N2 i)) ∧ (nv = .slice none 0 0 ↔ c = 0) ∧ Keeps (fun _ => False) w2 wr)
  case atStart => exact ⟨0, by omega, rfl, ⟨rfl, .inl ⟨rfl, rfl⟩⟩, by simp, Keeps.refl _ _⟩
  case round =>
    obtain ⟨c, hc, rfl, hO, hnl, hK3⟩ := hrel
    by_cases hlt : c < T
    · rcases HSrc.out with h0 | ⟨g3, rfl, hcell⟩
      · omega
      obtain ⟨e0, e1, e2, e3, e4, e5⟩ := fcell_at (cat l1 N1 N2) c
      have k0 := hK3.cell ((hcell (c * 6) (by omega)).trans (congrArg some e0))
      have k1 := hK3.cell ((hcell (c * 6 + 1) (by omega)).trans (congrArg some e1))
      have k2 := hK3.cell ((hcell (c * 6 + 2) (by omega)).trans (congrArg some e2))
      have k3 := hK3.cell ((hcell (c * 6 + 3) (by omega)).trans (congrArg some e3))
      have k4 := hK3.cell ((hcell (c * 6 + 4) (by omega)).trans (congrArg some e4))
      have k5 := hK3.cell ((hcell (c * 6 + 5) (by omega)).trans (congrArg some e5))
      have HO := hid hO
      have HNL := hid hnl
      have HK3 := hid hK3
      clear hcell e0 e1 e2 e3 e4 e5 hO hnl hK3
      obtain ⟨W1, hW1⟩ : ∃ W1, W1 = wr.alloc (.cells #[.string (cat l1 N1 N2 c), .nilFunc, .nilFunc, .string (⟨#[117]⟩ ++ cat l1 N1 N2 c), .bool false, .string ⟨#[112]⟩] 40) := ⟨_, rfl⟩
      have hsW : W1.heap.size = wr.heap.size + 1 := by rw [hW1, nblk_alloc]
      have hnew : (W1.alloc (.cells #[.string (cat l1 N1 N2 c)] 9)).heap[wr.heap.size + 1]? = some (.cells #[.string (cat l1 N1 N2 c)] 9 (0, 0)) := by rw [← hsW]; exact blk_alloc_new _ _
      have hsz3 := HK3.out.size
      obtain ⟨v', w3, hr, h2, h3, h4⟩ := run_append_own (P := Yba.prog) (W1.alloc (.cells #[.string (cat l1 N1 N2 c)] 9)) w2.heap.size 22 22 9 i9 (.string ⟨#[]⟩) 1 16 Yba.underlying22 hi9 hz9 hs9 hb9 rfl (by decide) _ c _
        ((by rw [hW1]; exact HO.out.alloc _ : W1.ownsRow w2.heap.size 9 1 _ c _).alloc _) ⟨wr.heap.size + 1, 0, none⟩ 1 1 [.string (cat l1 N1 N2 c)] rfl
        (fun j u hj => by
          have : j = 0 := by
            have := (List.getElem?_eq_some_iff.1 hj).1
            simpa using this
          subst this
          simp at hj
          subst hj
          rw [WideShapes.add_plain, cell_of_blk hnew]; rfl)
        (fun u hu => by simp at hu; subst hu; rfl) (by unfold maxLen; omega) (by omega) (by rw [nblk_alloc, hsW]; omega)
      have HO3 := hid h2
      have HN3 := hid h4
      have HK4 := hid (((by rw [hW1]; exact HK3.out.alloc _ : Keeps (fun _ => False) w2 W1).alloc (.cells #[.string (cat l1 N1 N2 c)] 9)))
      have HG := hid h3
      rw [hW1] at hr
      clear h2 h3 h4 hnew
      go_wp2_with (at_builtin; refine Lib.wpList_append_run _ rfl _ _ _ _ rfl _ _ rfl rfl _ _ hr ?_)
      go_roundg (T - (c + 1))
      case measure => omega
      case rel =>
        refine ⟨c + 1, by omega, by go_num, ?_, ?_, ?_⟩
        · have := HO3.out
          rw [List.range_succ, List.map_append]
          simpa using this
        · have := HN3.out
          constructor
          · intro h
            have := (this.1 h).2
            omega
          · intro h
            omega
        · exact HK4.out.grown HG.out (fun k hk hlt => by have := owns_base HO.out k hk; omega)
    · have hcT : c = T := by omega
      subst hcT
      have HO := hid hO
      have HNL := hid hnl
      have HK3 := hid hK3
      clear hO hnl hK3
      go_wp2
      go_returns
      have hO := HO.out
      have hN := HNL.out
      rw [← hT] at hO hN
      exact ⟨_, rfl, owns_less hO hsz2, hN, HK3.out.at' HB2.out (fun h => h), HK2.out.trans HK3.out (fun _ _ h => h.elim)⟩
end Go.Proofs.Ybulkebsa
