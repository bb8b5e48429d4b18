import Derived.Test.YbulkebvgLaw
import Derived.Test.YbulkebvgNil
import Derived.SizedLaws
import Derived.ChangeMaps5
import Derived.Deep.Slices
namespace Go.Proofs.Ybulkebvg
open Go.ChangeShapes Go.WideShapes Go.ChangeAt Go.RowKit Go.Deep Go.ChangeMaps

theorem Yba.own : ownKnob Yba.prog.godebug = none := by kernel_rfl
theorem Yba.laidOut : laidOutB Yba.prog = true := by kernel_rfl
theorem Yba.cells30 : Yba.prog.cellsOf 30 = 5 := by kernel_rfl
theorem Yba.cells5 : Yba.prog.cellsOf 5 = 1 := by kernel_rfl
theorem Yba.cells28 : Yba.prog.cellsOf 28 = 1 := by kernel_rfl
theorem Yba.cells9 : Yba.prog.cellsOf 9 = 1 := by kernel_rfl
theorem Yba.cells4 : Yba.prog.cellsOf 4 = 1 := by kernel_rfl

theorem five {α : Type} {l : List α} (h : l.length = 5) : ∃ a b c d e, l = [a, b, c, d, e] := by
  match l, h with
  | [a, b, c, d, e], _ => exact ⟨a, b, c, d, e, rfl⟩

section
variable {H : Type} {enc : TypeId × Value → H} {W : World}

/-- One column's cells. -/
structure ElIs (W : World) (a : Addr) (x : Int × Int × Int × ByteArray × Bool) : Prop where
  c0 : W.cell? a = some (.int .u8 x.1)
  c1 : W.cell? (a.add 1) = some (.int .u8 x.2.1)
  c2 : W.cell? (a.add 2) = some (.int .u16 x.2.2.1)
  c3 : W.cell? (a.add 3) = some (.string x.2.2.2.1)
  c4 : W.cell? (a.add 4) = some (.bool x.2.2.2.2)
  s : 0 ≤ x.1 ∧ x.1 < 256
  r : 0 ≤ x.2.1 ∧ x.2.1 < 256

set_option maxRecDepth 100000 in
theorem el_open {fuel : Nat} {a : Addr} {cs : List Value} {d : DataW H} {p : List MemPlace} (hc : W.cells? 0 a 5 = some cs) (h : DataW.trod enc Yba.prog W 0 (fun _ => true) true fuel 30 cs = some (d, p)) :
    ∃ x, ElIs W a x := by
  obtain ⟨_, hlen, hcell⟩ := World.cells?_some hc
  obtain ⟨xs, k, _, hxy, _, hxl, hf⟩ := DataW.trod_struct Yba.underlying30 h
  obtain ⟨y0, y1, y2, y3, y4, rfl⟩ := five hxl
  obtain ⟨v0, v1, v2, v3, v4, rfl⟩ := five hlen
  have g0 := hf 0 _ rfl
  have g1 := hf 1 _ rfl
  have g2 := hf 2 _ rfl
  have g3 := hf 3 _ rfl
  have g4 := hf 4 _ rfl
  simp [Yba.cells5, Yba.cells28, Yba.cells9, Yba.cells4] at g0 g1 g2 g3 g4
  obtain ⟨i0, e0, _, w0⟩ := DataW.trod_int Yba.underlying5 g0
  obtain ⟨i1, e1, _, w1⟩ := DataW.trod_int Yba.underlying5 g1
  obtain ⟨i2, e2, _, _⟩ := DataW.trod_int Yba.underlying28 g2
  obtain ⟨s3, e3, _⟩ := DataW.trod_string Yba.underlying9 g3
  obtain ⟨b4, e4, _⟩ := DataW.trod_bool Yba.underlying4 g4
  simp at e0 e1 e2 e3 e4
  subst e0 e1 e2 e3 e4
  have q0 := hcell 0 (by omega)
  have q1 := hcell 1 (by omega)
  have q2 := hcell 2 (by omega)
  have q3 := hcell 3 (by omega)
  have q4 := hcell 4 (by omega)
  simp only [List.getElem?_cons_zero, List.getElem?_cons_succ] at q0 q1 q2 q3 q4
  have q0' : W.cell? a = some (.int .u8 i0) := by simpa [Addr.add] using q0
  have z0 := bounds_u8 w0
  have z1 := bounds_u8 w1
  exact ⟨(i0, i1, i2, s3, b4), q0', q1, q2, q3, q4, ⟨z0.1, by show i0 < 256; omega⟩, ⟨z1.1, by show i1 < 256; omega⟩⟩

/-- The columns that an argument leads to. -/
theorem open_cols {a : Option Addr} {len cap : Nat} {d : DataW H} {p : List MemPlace} (h : DataW.Trod enc Yba.prog W 0 (fun _ => true) true 23 (.slice a len cap) d p) :
    len ≤ 9223372036854775807 ∧ (a = none → len = 0) ∧ ∃ D : Cols, D.Ok len ∧ (len = 0 ∨ ∃ b o, a = some ⟨b, o, none⟩ ∧ ∀ i, i < len → ColIs W b o D i) := by
  obtain ⟨fuel, hf⟩ := h
  rcases open_slice Yba.underlying23 hf with ⟨hc, _⟩ | ⟨a', len', cap', m, n, D, Pl, hc, _, hl, hm, hmm, hx, hel⟩
  · simp [Value.cells] at hc
    obtain ⟨_, rfl, _⟩ := hc
    exact ⟨by omega, fun _ => rfl, ⟨fun _ => 0, fun _ => 0, fun _ => 0, fun _ => ⟨#[]⟩, fun _ => false⟩, ⟨fun _ h => absurd h (Nat.not_lt_zero _), fun _ h => absurd h (Nat.not_lt_zero _)⟩, Or.inl rfl⟩
  · simp [Value.cells] at hc
    obtain ⟨rfl, rfl, rfl⟩ := hc
    simp only [if_true] at hmm
    subst hmm
    refine ⟨by unfold maxLen at hm; omega, (fun h => by cases h), ?_⟩
    rw [Yba.cells30] at hel
    obtain ⟨x, hxs⟩ := choose_lt (n := len) (p := fun i x => ElIs W (a'.add (i * 5)) x) (fun i hi => by
      obtain ⟨cs', h1, h2⟩ := hel i (by omega)
      exact el_open h1 h2)
    refine ⟨⟨fun i => (x i).1, fun i => (x i).2.1, fun i => (x i).2.2.1, fun i => (x i).2.2.2.1, fun i => (x i).2.2.2.2⟩, ⟨fun i hi => (hxs i hi).s, fun i hi => (hxs i hi).r⟩, ?_⟩
    by_cases h0 : len = 0
    · exact Or.inl h0
    · right
      obtain ⟨b, o, s⟩ := a'
      have hs : s = none := by simpa [Addr.add] using World.cell?_spot (hxs 0 (by omega)).c0
      subst hs
      refine ⟨b, o, rfl, fun i hi => ⟨?_, ?_, ?_, ?_, ?_⟩⟩
      · have := (hxs i hi).c0; simpa only [add_plain] using this
      · have := (hxs i hi).c1; simpa only [add_plain] using this
      · have := (hxs i hi).c2; simpa only [add_plain] using this
      · have := (hxs i hi).c3; simpa only [add_plain] using this
      · have := (hxs i hi).c4; simpa only [add_plain] using this
end

set_option maxHeartbeats 1600000 in
set_option maxRecDepth 100000 in
theorem law_lifted (os : Os) (started : os.Started) (H : Type) (enc : TypeId × Value → H) :
    ReturnsInHanded {} Yba.checked os 3 .any (Rows.lawS6415BWholeSpec.pre6 enc Yba.prog Yba.f3 Rows.lawS6415BWholeRow.domain false) (Rows.lawS6415BWholeSpec.post enc Yba.prog Yba.f3 false true false false) := by
  refine returnsInHanded_of_change_sized (C := Yba.checked) Yba.own started (by kernel_rfl) Yba.func3
    (ChangeSpec.witness6 (enc := enc) (C := Yba.checked) false ⟨#[], #[.int .u64 0, .string ⟨#[]⟩, .string ⟨#[]⟩, .slice none 0 0, .bool false], []⟩ 8 (by kernel_rfl) (by kernel_rfl) (by kernel_rfl) (by kernel_rfl)) ?_
  intro W base args ds gs before hval0 hW _ _ _
  have hval : ∀ (j : Nat) t v, Yba.f3.params[j]? = some t → args[j]? = some v → Value.okWide Yba.prog W .any base t v := hval0
  have hW' := hW
  obtain ⟨p, q, hA0, hV, rfl, hfz, _⟩ := hW
  have hA : DataW.TrodAll enc Yba.prog W 0 (fun _ => true) true Yba.f3.params.toList args.toList ds p := hA0
  rw [Yba.params3] at hA hval
  obtain ⟨rfl, rfl⟩ := trodVars_none hV
  obtain ⟨v0, vs0, d0, ds0, p0, ps0, e0, rfl, rfl, h0, hA1⟩ := trodAll_cons hA
  obtain ⟨v1, vs1, d1, ds1, p1, ps1, rfl, rfl, rfl, h1, hA2⟩ := trodAll_cons hA1
  obtain ⟨v2, vs2, d2, ds2, p2, ps2, rfl, rfl, rfl, h2, hA3⟩ := trodAll_cons hA2
  obtain ⟨v3, vs3, d3, ds3, p3, ps3, rfl, rfl, rfl, h3, hA4⟩ := trodAll_cons hA3
  obtain ⟨v4, vs4, d4, ds4, p4, ps4, rfl, rfl, rfl, h4, hA5⟩ := trodAll_cons hA4
  obtain ⟨rfl, rfl, rfl⟩ := trodAll_nil hA5
  obtain rfl : args = #[v0, v1, v2, v3, v4] := Array.toList_inj.1 e0
  have k0 := h0
  have k1 := h1
  have k2 := h2
  have k3 := h3
  have k4 := h4
  obtain ⟨id, rfl, rfl, rfl, _⟩ := open_int Yba.underlying22 (hval 0 22 v0 rfl rfl) h0
  obtain ⟨sc, rfl, rfl, rfl, _⟩ := open_string Yba.underlying9 (hval 1 9 v1 rfl rfl) h1
  obtain ⟨nm, rfl, rfl, rfl, _⟩ := open_string Yba.underlying9 (hval 2 9 v2 rfl rfl) h2
  obtain ⟨xa, len, xc, rfl⟩ := okWide_slice Yba.underlying23 (hval 3 23 v3 rfl rfl)
  obtain ⟨q, rfl, rfl, rfl⟩ := open_bool Yba.underlying4 (hval 4 4 v4 rfl rfl) h4
  have hlt := hW'.lt
  have fin : ∀ W', Keeps (fun _ => False) W W' → Rows.lawS6415BWholeSpec.post enc Yba.prog Yba.f3 false true false false W #[.int .u64 id, .string sc, .string nm, .slice xa len xc, .bool q] (.bool true) W' := by
    intro W' hk
    have hb : Below W.heap.size W W' := hk.below (fun _ h => h.elim) (Nat.le_refl _)
    refine ⟨_, _, _, [], [] ++ ([] ++ ([] ++ (p3 ++ []))), [], hW', trodAll_mk1 (shut_bool Yba.underlying4 _), ?_, rfl, hb.frame _, fun h => by cases h⟩
    exact trodAll_cons_mk (Below.trod Yba.laidOut (by kernel_rfl) (of_decide_eq_true (by kernel_rfl)) k0 hb (fun x hx => by cases hx))
      (trodAll_cons_mk (Below.trod Yba.laidOut (by kernel_rfl) (of_decide_eq_true (by kernel_rfl)) k1 hb (fun x hx => by cases hx))
      (trodAll_cons_mk (Below.trod Yba.laidOut (by kernel_rfl) (of_decide_eq_true (by kernel_rfl)) k2 hb (fun x hx => by cases hx))
      (trodAll_cons_mk (Below.trod Yba.laidOut (by kernel_rfl) (of_decide_eq_true (by kernel_rfl)) k3 hb (fun x hx => hlt x (by simp [hx])))
      (trodAll_mk1 (Below.trod Yba.laidOut (by kernel_rfl) (of_decide_eq_true (by kernel_rfl)) k4 hb (fun x hx => by cases hx))))))
  obtain ⟨hlen, hnil, D, hD, hcols⟩ := open_cols h3
  by_cases hbig : 65536 < len
  · exact (law_long (.int .u64 id) (.string sc) (.string nm) (.bool q) xa len xc W hlen hbig).mono fun e W' ⟨he, hk⟩ => ⟨_, he, fin W' hk⟩
  · cases xa with
    | none =>
      obtain rfl := hnil rfl
      exact (law_nil id sc nm xc q W).mono fun e W' ⟨he, hk⟩ => ⟨_, he, fin W' hk⟩
    | some ad =>
      have hc : len = 0 ∨ ∃ b o, ad = ⟨b, o, none⟩ ∧ ∀ i, i < len → ColIs W b o D i := by
        rcases hcols with h | ⟨b, o, e, h⟩
        · exact .inl h
        · exact .inr ⟨b, o, Option.some.inj e, h⟩
      exact (law_walk id sc nm ad len xc q D W (by omega) hD hc).mono fun e W' ⟨he, hk⟩ => ⟨_, he, fin W' hk⟩

theorem law_holds : Rows.LawS6415BWholeSaid :=
  OpenClaim.holds_of_wide 3 Yba.f3 rfl rfl rfl rfl rfl rfl rfl ⟨rfl, rfl, rfl, rfl, rfl⟩ rfl rfl rfl rfl rfl (by kernel_rfl) Yba.func3 (by kernel_rfl)
    (of_decide_eq_true (by kernel_rfl)) (by unfold Func.isWrapper; first | (rw [if_pos (by decide +kernel)]; kernel_rfl) | (rw [if_neg (by decide +kernel)]; exact ⟨rfl, rfl⟩))
    (fun os started H enc _ => law_lifted os started H enc)
end Go.Proofs.Ybulkebvg
