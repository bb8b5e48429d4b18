import Derived.Test.YbulkebvgDoorLaw
import Derived.Test.YbulkebvgDoorCards
import Derived.Test.YbulkebvgDoorTie
import Derived.SevenTiedAt
import Derived.LaidMore
import Derived.Stop.Joined
import Derived.SizedLaws
import Derived.OpenVars
import Derived.Deep.Slices
namespace Go.Proofs.YbulkebvgDoor
open Go.ChangeShapes Go.WideShapes Go.ChangeAt Go.RowKit Go.Deep

theorem Ybad.own : ownKnob Ybad.prog.godebug = none := by kernel_rfl
theorem Ybad.laidOut : laidOutB Ybad.prog = true := by kernel_rfl
theorem Ybad.cells23 : Ybad.prog.cellsOf 23 = 8 := by kernel_rfl
theorem Ybad.cells22 : Ybad.prog.cellsOf 22 = 1 := by kernel_rfl

def LAID : List (String × DataW Unit) := Rows.lawS6415AWholeRow.laid

/-- The door's own heap meets the condition. -/
theorem door_met (os : Os) (args : Array Value) : laidMetH Ybad.prog LAID ((World.doorLaid Ybad.prog 14 os).forCall (fun _ _ => 0) ⟨#[], args, []⟩).memory :=
  laidMetH_of_parts3 (fuel := 8) (laidMet_of_run' 8 (by kernel_rfl) (by kernel_rfl)) (by kernel_rfl) (by kernel_rfl)

theorem gOrder : Ybad.prog.globalNamed (Rows.lawS6415AWholeSpec.vars.headD default) = some 0 := by kernel_rfl
theorem tOrder : (Ybad.prog.globals[0]?).map (·.type) = some 25 := by kernel_rfl

theorem at_take1 {α : Type} {l : List α} {i : Nat} {v : α} (h : (l.drop i).take 1 = [v]) : l[i]? = some v := by
  have e : (l.drop i)[0]? = some v := by
    cases hd : l.drop i with
    | nil => rw [hd] at h; cases h
    | cons a r => rw [hd] at h; simp at h; simp [h]
  simpa [List.getElem?_drop] using e

/-- Eight cells. -/
theorem eight {α : Type} {cs : Array α} (h : cs.size = 8) : ∃ c0 c1 c2 c3 c4 c5 c6 c7, cs = #[c0, c1, c2, c3, c4, c5, c6, c7] := by
  obtain ⟨l⟩ := cs
  match l, h with
  | [c0, c1, c2, c3, c4, c5, c6, c7], _ => exact ⟨c0, c1, c2, c3, c4, c5, c6, c7, rfl⟩

/-- The four limbs of the group's order, off the listed variable. -/
theorem of_laid {W : World} (h : laidMetH Ybad.prog LAID W) : ∀ i, i < 4 → W.cell? ⟨0, i, none⟩ = some (.int .u64 (lim i)) := by
  rw [MakeChecks.laidMetH_plain _ _ _ (by kernel_rfl)] at h
  obtain ⟨ps, ⟨g0, t0, cs0, f0, p0, q0, hg0, ht0, hv0, hd0, _, _⟩, _, _⟩ := h
  obtain rfl := Option.some.inj (gOrder.symm.trans hg0)
  obtain rfl := Option.some.inj (tOrder.symm.trans ht0)
  obtain ⟨xs, m1, rfl, hx1, hlen, hn4, hel⟩ := DataW.trod_array Ybad.underlying25 hd0
  simp only [Prod.mk.injEq] at hx1
  have hx : xs.map (·.1) = [.lit (.int .u64 6346243789798364141), .lit (.int .u64 1503914060200516822), .lit (.int .u64 0), .lit (.int .u64 1152921504606846976)] := by
    have := hx1.1
    simp only [Rows.laid_example_com_wirelog_wirelog_internal_ed25519_order, DataW.agg.injEq] at this
    exact this.symm
  intro i hi
  have h0 := hel i hi
  have hxi : i < xs.length := by omega
  rw [List.getElem?_eq_getElem hxi, Ybad.cells22, Nat.mul_one] at h0
  obtain ⟨k, e1, e2, _⟩ := DataW.trod_int Ybad.underlying22 h0
  have hk : (xs.map (·.1))[i]? = some (.lit (.int .u64 k)) := by
    rw [List.getElem?_map, List.getElem?_eq_getElem hxi, e2]
    rfl
  rw [hx] at hk
  have hc : cs0[i]? = some (.int .u64 k) := by
    have := at_take1 e1
    simpa using this
  have hw := World.var?_cell hg0 hv0 i
  rw [hc] at hw
  rw [hw]
  rcases (show i = 0 ∨ i = 1 ∨ i = 2 ∨ i = 3 by omega) with rfl | rfl | rfl | rfl
  all_goals
    simp at hk
    subst hk
    rfl

section
variable {H : Type} {enc : TypeId × Value → H} {W : World} {base : Nat}

/-- The argument's eight limbs. -/
theorem open_arg {v : Value} {d : DataW H} {p : List MemPlace} (hv : Value.okWide Ybad.prog W .any base 23 v) (h : DataW.Trod enc Ybad.prog W 0 (fun _ => true) true 23 v d p) :
    ∃ N : Nat → Int, Limbs N 8 ∧ v = .agg (arr8 N) := by
  unfold Value.okWide at hv
  rw [Ybad.underlying23] at hv
  obtain ⟨cs, rfl, hsz, _⟩ := hv
  rw [Ybad.cells23] at hsz
  obtain ⟨fuel, hf⟩ := h
  obtain ⟨xs, m1, rfl, _, hlen, hn8, hel⟩ := DataW.trod_array Ybad.underlying23 hf
  have hk : ∀ i, i < 8 → ∃ k : Int, cs[i]? = some (.int .u64 k) ∧ 0 ≤ k ∧ k < 18446744073709551616 := fun i hi => by
    have h0 := hel i hi
    have hxi : i < xs.length := by omega
    rw [List.getElem?_eq_getElem hxi, Ybad.cells22, Nat.mul_one] at h0
    obtain ⟨k, e1, _, hw⟩ := DataW.trod_int Ybad.underlying22 h0
    have hb := bounds_u64 hw
    refine ⟨k, ?_, hb.1, by omega⟩
    have := at_take1 e1
    simpa [Value.cells] using this
  obtain ⟨N, hN⟩ := choose_lt (n := 8) hk
  refine ⟨N, fun i hi => (hN i hi).2, ?_⟩
  obtain ⟨c0, c1, c2, c3, c4, c5, c6, c7, rfl⟩ := eight hsz
  have a0 := (hN 0 (by omega)).1
  have a1 := (hN 1 (by omega)).1
  have a2 := (hN 2 (by omega)).1
  have a3 := (hN 3 (by omega)).1
  have a4 := (hN 4 (by omega)).1
  have a5 := (hN 5 (by omega)).1
  have a6 := (hN 6 (by omega)).1
  have a7 := (hN 7 (by omega)).1
  simp at a0 a1 a2 a3 a4 a5 a6 a7
  subst a0 a1 a2 a3 a4 a5 a6 a7
  rfl
end

set_option maxHeartbeats 1600000 in
set_option maxRecDepth 100000 in
theorem law_lifted (os : Os) (started : os.Started) (H : Type) (enc : TypeId × Value → H) :
    ReturnsInHanded {} Ybad.checked os 3 .any (fun w args => (Rows.lawS6415AWholeSpec.pre enc Ybad.prog Ybad.f3 [] false w args ∧ laidMetH Ybad.prog LAID w) ∧ sizedMet enc Ybad.prog Ybad.f3 (OpenSpec.ofChange Rows.lawS6415AWholeSpec) false w args)
      (Rows.lawS6415AWholeSpec.post enc Ybad.prog Ybad.f3 false true false false) := by
  refine returnsInHanded_of_change_and (C := Ybad.checked) (X := fun w _ => laidMetH Ybad.prog LAID w) (fun _ _ _ hh h => h.of_heap hh) Ybad.own started (by kernel_rfl) Ybad.func3
    (ChangeSpec.witness_shaped (enc := enc) (C := Ybad.checked) (os := os) (X := fun w _ => laidMetH Ybad.prog LAID w) false (World.doorLaid Ybad.prog 14 os) #[.agg #[.int .u64 0, .int .u64 0, .int .u64 0, .int .u64 0, .int .u64 0, .int .u64 0, .int .u64 0, .int .u64 0]] 8 rfl (World.shaped_of_RefB (by kernel_rfl) (by kernel_rfl)) (by kernel_rfl) (by kernel_rfl) (by kernel_rfl) (door_met os _)) ?_
  intro W base args ds gs before hval0 hW _ _ hL _
  have hval : ∀ (j : Nat) t v, Ybad.f3.params[j]? = some t → args[j]? = some v → Value.okWide Ybad.prog W .any base t v := hval0
  have hW' := hW
  obtain ⟨p, q, hA0, hV, rfl, hfz, _⟩ := hW
  have hA : DataW.TrodAll enc Ybad.prog W 0 (fun _ => true) true Ybad.f3.params.toList args.toList ds p := hA0
  rw [Ybad.params3] at hA hval
  obtain ⟨v0, d0, rfl, rfl, h0⟩ := trodAll_one hA
  have k0 := h0
  obtain ⟨N, hN, rfl⟩ := open_arg (hval 0 23 v0 rfl rfl) h0
  have hlt := hW'.lt
  have hO := of_laid hL
  obtain ⟨g, t, cs, fuel, d, pv, rfl, _⟩ := trodVars_one hV
  refine (law_walk N hN W hO).mono fun e W' ⟨he, hk⟩ => ⟨_, he, ?_⟩
  have hb : Below W.heap.size W W' := hk.below (fun _ h => h.elim) (Nat.le_refl _)
  refine ⟨_, _, _, [], p, q, hW', trodAll_mk1 (shut_bool Ybad.underlying4 _), ?_, ?_, hb.frame _, fun h => by cases h⟩
  · exact trodAll_mk1 (Below.trod Ybad.laidOut (by kernel_rfl) (of_decide_eq_true (by kernel_rfl)) k0 hb (fun x hx => hlt x (by simp [hx])))
  · exact Below.trodVars Ybad.laidOut hb (by kernel_rfl) hV

theorem law_holds : Rows.LawS6415AWholeSaid :=
  OpenClaim.holds_of_wide 3 Ybad.f3 rfl rfl rfl rfl rfl rfl rfl ⟨rfl, rfl, rfl, rfl, rfl⟩ rfl rfl rfl rfl rfl (by kernel_rfl) Ybad.func3 (by kernel_rfl)
    (of_decide_eq_true (by kernel_rfl)) (by unfold Func.isWrapper; first | (rw [if_pos (by decide +kernel)]; kernel_rfl) | (rw [if_neg (by decide +kernel)]; exact ⟨rfl, rfl⟩))
    (fun os started H enc _ => law_lifted os started H enc)

theorem law_card : Rows.LawS6415AWholeCardSaid :=
  Claim7.holds_tied_plain_at .later [] [.data] true (true, "dea06dee8a8de842aabc592e808e6b2455b9144aad6386da71999730d6e4609a") false
    law_holds (fun _ h => by cases h) (by kernel_rfl) (fun _ h => by cases h) lawS6415AWhole_row_tie rfl ⟨rfl, rfl⟩ (by kernel_rfl) rfl
    (fun f fn hf hfn => by
      obtain rfl : f = 3 := Option.some.inj ((show Ybad.prog.funcNamed Rows.lawS6415AWholeRow.func = some 3 by kernel_rfl).symm.trans hf) |>.symm
      obtain rfl : fn = Ybad.f3 := (Option.some.inj (Ybad.func3.symm.trans hfn)).symm
      exact ⟨by kernel_rfl, fun j t ht => by
        rw [Ybad.params3] at ht
        have hm : t ∈ [23] := by simpa using Array.mem_of_getElem? ht
        have hall : ([23].all fun u => !Ybad.prog.wantsStandIn u) = true := by kernel_rfl
        exact (show Ybad.prog.wantsStandIn t = false by simpa using List.all_eq_true.1 hall t hm)⟩)
    (by kernel_rfl)
end Go.Proofs.YbulkebvgDoor
