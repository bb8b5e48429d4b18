import Derived.Test.YbulkebqyDoorUndo
import Derived.Test.YbulkebqyDoorOpen
import Derived.Test.YbulkebqyDoorCards
import Derived.Test.YbulkebqyDoorTie
import Derived.SevenTiedAt
namespace Go.Proofs.YbulkebqyDoor
open Go.ChangeShapes Go.WideShapes Go.ChangeAt Go.RowKit Go.Deep

set_option maxHeartbeats 1600000 in
set_option maxRecDepth 100000 in
theorem undo_lifted (os : Os) (started : os.Started) (H : Type) (enc : TypeId × Value → H) :
    ReturnsInHanded {} Ybad.checked os 4 .any (fun w args => (Rows.lawS6407BUndoSpec.pre enc Ybad.prog Ybad.f4 [] false w args ∧ laidMetH Ybad.prog LAID w) ∧ sizedMet enc Ybad.prog Ybad.f4 (OpenSpec.ofChange Rows.lawS6407BUndoSpec) false w args)
      (Rows.lawS6407BUndoSpec.post enc Ybad.prog Ybad.f4 false true false false) := by
  refine returnsInHanded_of_change_and (C := Ybad.checked) (X := fun w _ => laidMetH Ybad.prog LAID w) (fun _ _ _ hh h => h.of_heap hh) Ybad.own started (by kernel_rfl) Ybad.func4
    (ChangeSpec.witness_shaped (enc := enc) (C := Ybad.checked) (os := os) (X := fun w _ => laidMetH Ybad.prog LAID w) false (World.doorLaid Ybad.prog 14 os) #[.int .u64 0, .slice none 0 0, .slice none 0 0, .slice none 0 0, .int .u8 0, .bool false] 8 rfl (World.shaped_of_RefB (by kernel_rfl) (by kernel_rfl)) (by kernel_rfl) (by kernel_rfl) (by kernel_rfl) (door_met os _)) ?_
  intro W base args ds gs before hval0 hW _ hsz0 _ _
  have hsz : (DataW.weightsEach Ybad.prog (Ybad.f4.params.toList ++ Rows.lawS6407BUndoSpec.plain.varTypes Ybad.prog) (ds ++ gs)).all (· ≤ reachBytes) = true := hsz0
  clear hsz0
  have hval : ∀ (j : Nat) t v, Ybad.f4.params[j]? = some t → args[j]? = some v → Value.okWide Ybad.prog W .any base t v := hval0
  have hW' := hW
  obtain ⟨p, q, hA0, hV, rfl, hfz, _⟩ := hW
  have hA : DataW.TrodAll enc Ybad.prog W 0 (fun _ => true) true Ybad.f4.params.toList args.toList ds p := hA0
  rw [Ybad.params4] at hA hval hsz
  obtain ⟨rfl, rfl⟩ := trodVars_none hV
  obtain ⟨v0, vs0, d0, ds0, p0, ps0, e0, rfl, rfl, h0, hA1⟩ := trodAll_cons hA
  obtain ⟨v1, vs1, d1, ds1, p1, ps1, rfl, rfl, rfl, h1, hA2⟩ := trodAll_cons hA1
  obtain ⟨v2, vs2, d2, ds2, p2, ps2, rfl, rfl, rfl, h2, hA3⟩ := trodAll_cons hA2
  obtain ⟨v3, vs3, d3, ds3, p3, ps3, rfl, rfl, rfl, h3, hA4⟩ := trodAll_cons hA3
  obtain ⟨v4, vs4, d4, ds4, p4, ps4, rfl, rfl, rfl, h4, hA5⟩ := trodAll_cons hA4
  obtain ⟨v5, vs5, d5, ds5, p5, ps5, rfl, rfl, rfl, h5, hA6⟩ := trodAll_cons hA5
  obtain ⟨rfl, rfl, rfl⟩ := trodAll_nil hA6
  obtain rfl : args = #[v0, v1, v2, v3, v4, v5] := Array.toList_inj.1 e0
  have k0 := h0
  have k1 := h1
  have k2 := h2
  have k3 := h3
  have k4 := h4
  have k5 := h5
  obtain ⟨tx, rfl, rfl, rfl, wtx⟩ := open_int Ybad.underlying22 (hval 0 22 v0 rfl rfl) h0
  obtain ⟨xa, len, xc, rfl⟩ := okWide_slice Ybad.underlying23 (hval 1 23 v1 rfl rfl)
  obtain ⟨ba, bl, bc, rfl⟩ := okWide_slice Ybad.underlying24 (hval 2 24 v2 rfl rfl)
  obtain ⟨ta, tl, tc, rfl⟩ := okWide_slice Ybad.underlying24 (hval 3 24 v3 rfl rfl)
  obtain ⟨nF, rfl, rfl, rfl, wnF⟩ := open_int Ybad.underlying5 (hval 4 5 v4 rfl rfl) h4
  obtain ⟨eo, rfl, rfl, rfl⟩ := open_bool Ybad.underlying4 (hval 5 4 v5 rfl rfl) h5
  have hlt := hW'.lt
  have fin : ∀ W', Keeps (fun _ => False) W W' → Rows.lawS6407BUndoSpec.post enc Ybad.prog Ybad.f4 false true false false W #[.int .u64 tx, .slice xa len xc, .slice ba bl bc, .slice ta tl tc, .int .u8 nF, .bool eo] (.bool true) W' := by
    intro W' hk
    have hb : Below W.heap.size W W' := hk.below (fun _ h => h.elim) (Nat.le_refl _)
    refine ⟨_, _, _, [], [] ++ (p1 ++ (p2 ++ (p3 ++ ([] ++ [])))), [], hW', trodAll_mk1 (shut_bool Ybad.underlying4 _), ?_, rfl, hb.frame _, fun h => by cases h⟩
    exact trodAll_cons_mk (Below.trod Ybad.laidOut (by kernel_rfl) (of_decide_eq_true (by kernel_rfl)) k0 hb (fun x hx => by cases hx))
      (trodAll_cons_mk (Below.trod Ybad.laidOut (by kernel_rfl) (of_decide_eq_true (by kernel_rfl)) k1 hb (fun x hx => hlt x (by simp [hx])))
      (trodAll_cons_mk (Below.trod Ybad.laidOut (by kernel_rfl) (of_decide_eq_true (by kernel_rfl)) k2 hb (fun x hx => hlt x (by simp [hx])))
      (trodAll_cons_mk (Below.trod Ybad.laidOut (by kernel_rfl) (of_decide_eq_true (by kernel_rfl)) k3 hb (fun x hx => hlt x (by simp [hx])))
      (trodAll_cons_mk (Below.trod Ybad.laidOut (by kernel_rfl) (of_decide_eq_true (by kernel_rfl)) k4 hb (fun x hx => by cases hx))
      (trodAll_mk1 (Below.trod Ybad.laidOut (by kernel_rfl) (of_decide_eq_true (by kernel_rfl)) k5 hb (fun x hx => by cases hx)))))))
  obtain ⟨hlen, X, hx, hL, hM, hY⟩ := open_txs (j := 1) h1 hsz rfl rfl
  obtain ⟨hbl, bt, hbt⟩ := open_row64 h2
  obtain ⟨htl, td, htd⟩ := open_row64 h3
  by_cases hbig : 4096 < len ∨ 1048576 < bl ∨ 1048576 < tl
  · exact (undo_long (.int .u64 tx) xa len xc ba bl bc ta tl tc (.int .u8 nF) (.bool eo) W hlen hbl htl hbig).mono fun e W' ⟨he, hk⟩ => ⟨_, he, fin W' hk⟩
  · exact (undo_walk tx (bounds_u64 wtx).1 (bounds_u64 wtx).2 xa len xc ba bl bc ta tl tc nF (bounds_u8 wnF).1 (bounds_u8 wnF).2 eo X bt td W hx hL hM hY (by omega) (by omega) (by omega) hbt htd).mono fun e W' ⟨he, hk⟩ => ⟨_, he, fin W' hk⟩

theorem undo_holds : Rows.LawS6407BUndoSaid :=
  OpenClaim.holds_of_wide 4 Ybad.f4 rfl rfl rfl rfl rfl rfl rfl ⟨rfl, rfl, rfl, rfl, rfl⟩ rfl rfl rfl rfl rfl (by kernel_rfl) Ybad.func4 (by kernel_rfl)
    (of_decide_eq_true (by kernel_rfl)) (by unfold Func.isWrapper; first | (rw [if_pos (by decide +kernel)]; kernel_rfl) | (rw [if_neg (by decide +kernel)]; exact ⟨rfl, rfl⟩))
    (fun os started H enc _ => undo_lifted os started H enc)

theorem undo_card : Rows.LawS6407BUndoCardSaid :=
  Claim7.holds_tied_plain_at .later [] [.data] true (true, "b4838e737cf0c715b1e301fbc46949f229b72d3f1d988cdde7d782300ba76e21") false
    undo_holds (fun _ h => by cases h) (by kernel_rfl) (fun _ h => by cases h) lawS6407BUndo_row_tie rfl ⟨rfl, rfl⟩ (by kernel_rfl) rfl
    (fun f fn hf hfn => by
      obtain rfl : f = 4 := Option.some.inj ((show Ybad.prog.funcNamed Rows.lawS6407BUndoRow.func = some 4 by kernel_rfl).symm.trans hf) |>.symm
      obtain rfl : fn = Ybad.f4 := (Option.some.inj (Ybad.func4.symm.trans hfn)).symm
      exact ⟨by kernel_rfl, fun j t ht => by
        rw [Ybad.params4] at ht
        have hm : t ∈ [22, 23, 24, 24, 5, 4] := by simpa using Array.mem_of_getElem? ht
        have hall : ([22, 23, 24, 24, 5, 4].all fun u => !Ybad.prog.wantsStandIn u) = true := by kernel_rfl
        exact (show Ybad.prog.wantsStandIn t = false by simpa using List.all_eq_true.1 hall t hm)⟩)
    (by kernel_rfl)
end Go.Proofs.YbulkebqyDoor
