import Derived.Test.YbulkebsaLaw
import Derived.SizedLaws
import Derived.Deep.Slices
namespace Go.Proofs.Ybulkebsa
open Go.ChangeShapes Go.WideShapes Go.ChangeAt Go.RowKit Go.Deep

theorem Yba.own : ownKnob Yba.prog.godebug = none := by kernel_rfl
theorem Yba.laidOut : laidOutB Yba.prog = true := by kernel_rfl
theorem Yba.cells9 : Yba.prog.cellsOf 9 = 1 := by kernel_rfl
theorem reach_eq : reachBytes = 140737488351232 := rfl

section
variable {H : Type} {enc : TypeId × Value → H} {W : World}

theorem weightsAll_mem {P : Program} {e : TypeId} : ∀ {l : List (DataW H)} {d : DataW H}, d ∈ l → ∀ n ∈ d.weights P e, n ∈ DataW.weightsAll P e l
  | d' :: r, d, hd, n, hn => by
    simp only [DataW.weightsAll, List.mem_append]
    rcases List.mem_cons.1 hd with rfl | h
    · exact Or.inl hn
    · exact Or.inr (weightsAll_mem h n hn)

/-- A row of strings that an argument leads to. -/
theorem open_strs {ts : List TypeId} {ds : List (DataW H)} {j : Nat} {a : Option Addr} {len cap : Nat} {d : DataW H} {p : List MemPlace} (h : DataW.Trod enc Yba.prog W 0 (fun _ => true) true 22 (.slice a len cap) d p)
    (hsz : (DataW.weightsEach Yba.prog ts ds).all (· ≤ reachBytes) = true) (ht : ts[j]? = some 22) (hd : ds[j]? = some d) :
    len ≤ 9223372036854775807 ∧ (a = none → len = 0) ∧ ∃ N : Nat → ByteArray, ArgRow W a len (fun i => .string (N i)) ∧ ∀ i, i < len → (N i).size ≤ 140737488351232 := by
  obtain ⟨fuel, hf⟩ := h
  rcases open_slice1 Yba.underlying22 Yba.cells9 hf with ⟨hc, _⟩ | ⟨a', len', cap', m, n, V, D, Pl, hc, _, hl, hm, hmm, hx, hel⟩
  · simp [Value.cells] at hc
    obtain ⟨_, rfl, _⟩ := hc
    exact ⟨by omega, fun _ => rfl, fun _ => ⟨#[]⟩, Or.inl rfl, fun _ h => absurd h (Nat.not_lt_zero _)⟩
  · simp [Value.cells] at hc
    obtain ⟨rfl, rfl, rfl⟩ := hc
    simp only [if_true] at hmm
    subst hmm
    refine ⟨by unfold maxLen at hm; omega, (fun h => by cases h), ?_⟩
    simp only [Prod.mk.injEq] at hx
    obtain ⟨rfl, _⟩ := hx
    obtain ⟨N, hN⟩ := choose_lt (n := len) (p := fun i (s : ByteArray) => W.cell? (a'.add i) = some (.string s) ∧ s.size ≤ 140737488351232) (fun i hi => by
      obtain ⟨h1, h2⟩ := hel i (by omega)
      obtain ⟨s, e1, e2, _⟩ := DataW.trod_string Yba.underlying9 h2
      simp at e1
      rw [e1] at h1
      refine ⟨s, h1, ?_⟩
      simp only [Prod.mk.injEq] at e2
      have hw : s.data.toList.length ≤ reachBytes := by
        refine of_decide_eq_true (List.all_eq_true.1 hsz _ (DataW.weights_mem_each ht hd _ ?_))
        simp only [DataW.weights, Yba.underlying22, List.mem_cons, List.mem_append]
        exact Or.inr (Or.inl (weightsAll_mem (List.mem_map.2 ⟨i, List.mem_range.2 hi, rfl⟩) _ (by rw [e2.1]; simp [DataW.weights])))
      rw [reach_eq] at hw
      have e : s.size = s.data.toList.length := by rw [Array.length_toList]; rfl
      omega)
    refine ⟨N, ?_, fun i hi => (hN i hi).2⟩
    by_cases h0 : len = 0
    · exact Or.inl h0
    · right
      obtain ⟨b, o, s⟩ := a'
      have hs : s = none := by simpa [Addr.add] using World.cell?_spot (hN 0 (by omega)).1
      subst hs
      exact ⟨b, o, rfl, fun j hj => by have := (hN j hj).1; rwa [add_plain] at this⟩
end

set_option maxHeartbeats 1600000 in
set_option maxRecDepth 100000 in
theorem law_lifted (os : Os) (started : os.Started) (H : Type) (enc : TypeId × Value → H) :
    ReturnsInHanded {} Yba.checked os 3 .any (Rows.lawS6409BWholeSpec.pre6 enc Yba.prog Yba.f3 Rows.lawS6409BWholeRow.domain false) (Rows.lawS6409BWholeSpec.post enc Yba.prog Yba.f3 false true false false) := by
  refine returnsInHanded_of_change_sized (C := Yba.checked) Yba.own started (by kernel_rfl) Yba.func3
    (ChangeSpec.witness6 (enc := enc) (C := Yba.checked) false ⟨#[], #[.slice none 0 0, .slice none 0 0], []⟩ 8 (by kernel_rfl) (by kernel_rfl) (by kernel_rfl) (by kernel_rfl)) ?_
  intro W base args ds gs before hval0 hW _ hsz0 _
  have hsz : (DataW.weightsEach Yba.prog (Yba.f3.params.toList ++ Rows.lawS6409BWholeSpec.plain.varTypes Yba.prog) (ds ++ gs)).all (· ≤ reachBytes) = true := hsz0
  clear hsz0
  have hval : ∀ (j : Nat) t v, Yba.f3.params[j]? = some t → args[j]? = some v → Value.okWide Yba.prog W .any base t v := hval0
  have hW' := hW
  obtain ⟨p, q, hA0, hV, rfl, hfz, _⟩ := hW
  have hA : DataW.TrodAll enc Yba.prog W 0 (fun _ => true) true Yba.f3.params.toList args.toList ds p := hA0
  rw [Yba.params3] at hA hval hsz
  obtain ⟨rfl, rfl⟩ := trodVars_none hV
  obtain ⟨v0, v1, d0, d1, p0, p1, rfl, rfl, rfl, h0, h1⟩ := trodAll_two hA
  have k0 := h0
  have k1 := h1
  obtain ⟨a1, l1, c1, rfl⟩ := okWide_slice Yba.underlying22 (hval 0 22 v0 rfl rfl)
  obtain ⟨a2, l2, c2, rfl⟩ := okWide_slice Yba.underlying22 (hval 1 22 v1 rfl rfl)
  have hlt := hW'.lt
  have fin : ∀ W', Keeps (fun _ => False) W W' → Rows.lawS6409BWholeSpec.post enc Yba.prog Yba.f3 false true false false W #[.slice a1 l1 c1, .slice a2 l2 c2] (.bool true) W' := by
    intro W' hk
    have hb : Below W.heap.size W W' := hk.below (fun _ h => h.elim) (Nat.le_refl _)
    refine ⟨_, _, _, [], p0 ++ p1, [], hW', trodAll_mk1 (shut_bool Yba.underlying4 _), ?_, rfl, hb.frame _, fun h => by cases h⟩
    exact trodAll_mk2 (Below.trod Yba.laidOut (by kernel_rfl) (of_decide_eq_true (by kernel_rfl)) k0 hb (fun x hx => hlt x (by simp [hx])))
      (Below.trod Yba.laidOut (by kernel_rfl) (of_decide_eq_true (by kernel_rfl)) k1 hb (fun x hx => hlt x (by simp [hx])))
  obtain ⟨hl1, hn1, N1, hN1, hs1⟩ := open_strs (j := 0) h0 hsz rfl rfl
  obtain ⟨hl2, hn2, N2, hN2, hs2⟩ := open_strs (j := 1) h1 hsz rfl rfl
  by_cases hbig : 1048576 < l1 ∨ 1048576 < l2
  · exact (law_long a1 a2 l1 l2 c1 c2 W hl1 hl2 hbig).mono fun e W' ⟨he, hk⟩ => ⟨_, he, fin W' hk⟩
  · exact (law_walk a1 a2 l1 l2 c1 c2 N1 N2 W hn1 hn2 hN1 hN2 (by omega) (by omega) hs1 hs2).mono fun e W' ⟨he, hk⟩ => ⟨_, he, fin W' hk⟩

theorem law_holds : Rows.LawS6409BWholeSaid :=
  OpenClaim.holds_of_wide 3 Yba.f3 rfl rfl rfl rfl rfl rfl rfl ⟨rfl, rfl, rfl, rfl, rfl⟩ rfl rfl rfl rfl rfl (by kernel_rfl) Yba.func3 (by kernel_rfl)
    (of_decide_eq_true (by kernel_rfl)) (by unfold Func.isWrapper; first | (rw [if_pos (by decide +kernel)]; kernel_rfl) | (rw [if_neg (by decide +kernel)]; exact ⟨rfl, rfl⟩))
    (fun os started H enc _ => law_lifted os started H enc)
end Go.Proofs.Ybulkebsa
