import Derived.Test.YbulkebvgCol
namespace Go.Proofs.Ybulkebvg
open Go.RowKit Go.Deep

theorem info_parts {P : Program} {e : TypeId} {z : Value} {s b : Nat} (h : (P.info? e).map (fun i => (i.zero, i.size, i.bytes)) = some (some z, s, b)) : ∃ i, P.info? e = some i ∧ i.zero = some z ∧ i.size = s ∧ i.bytes = b := by
  obtain ⟨i, hi, hzz⟩ := Option.map_eq_some_iff.1 h
  simp only [Prod.mk.injEq] at hzz
  exact ⟨i, hi, hzz.1, hzz.2.1, hzz.2.2⟩
theorem Yba.info38 : (Yba.prog.info? 38).map (fun i => (i.zero, i.size, i.bytes)) = some (some (.pointer none), 1, 8) := by kernel_rfl

theorem one_new (w : World) (a : Value) (t : TypeId) : ∀ j u, ([a] : List Value)[j]? = some u → (w.alloc (.cells #[a] t)).cell? ((⟨w.heap.size, 0, none⟩ : Addr).add j) = some u := by
  intro j u h
  match j, h with
  | 0, h => simp at h; subst h; simp [Addr.add]

theorem Keeps.cell {w w' : World} (k : Keeps (fun _ => False) w w') {a : Addr} {v : Value} (h : w.cell? a = some v) : w'.cell? a = some v := by
  have hlt : a.block < w.heap.size := by
    rcases Nat.lt_or_ge a.block w.heap.size with h1 | h1
    · exact h1
    · have e : w.heap[a.block]? = none := by simp [h1]
      simp [World.cell?, e] at h
  have := k.block a.block hlt (fun h => h)
  simpa [World.cell?, this] using h

/-- The columns that are kept, by number. -/
def keptL (kp : Nat → Bool) (c : Nat) : List Nat := (List.range c).filter (fun i => kp i)
theorem keptL_yes {kp : Nat → Bool} {c : Nat} (h : kp c = true) : keptL kp (c + 1) = keptL kp c ++ [c] := by simp [keptL, List.range_succ, h]
theorem keptL_no {kp : Nat → Bool} {c : Nat} (h : kp c = false) : keptL kp (c + 1) = keptL kp c := by simp [keptL, List.range_succ, h]
theorem keptL_len (kp : Nat → Bool) (c : Nat) : (keptL kp c).length ≤ c := by
  have := List.length_filter_le (fun i => kp i) (List.range c)
  simpa [keptL] using this
/-- .. and as pointers. -/
def ptrs (cb : Nat) (l : List Nat) : List Value := l.map fun i => .pointer (some ⟨cb, i * 9, none⟩)

set_option maxRecDepth 100000 in
set_option maxHeartbeats 2000000 in
theorem where_walk (tb mb cb n cap : Nat) (a : Option Addr) (t m : Nat → Int) (q : Bool) (w : World) (hn : n ≤ 65536)
    (hT : w.cell? ⟨tb, 3, none⟩ = some (.slice a n cap)) (ha : n = 0 ∨ a = some ⟨cb, 0, none⟩) (cq : w.cell? ⟨mb, 0, none⟩ = some (.bool q))
    (h2 : ∀ i, i < n → w.cell? ⟨cb, i * 9 + 2, none⟩ = some (.int .u8 (t i))) (h5 : ∀ i, i < n → w.cell? ⟨cb, i * 9 + 5, none⟩ = some (.int .u16 (m i))) :
    Calls Yba.prog 7 #[.pointer (some ⟨tb, 0, none⟩), .func (Fn.func 8) #[] #[.pointer (some ⟨mb, 0, none⟩)]] w fun e w' =>
      ∃ v, e = .returned v ∧ w'.ownsRow w.heap.size 38 1 v (keptL (fun i => keepP (t i) (m i) q) n).length (ptrs cb (keptL (fun i => keepP (t i) (m i) q) n)) ∧ (v = .slice none 0 0 ↔ (keptL (fun i => keepP (t i) (m i) q) n) = []) ∧ Keeps (fun _ => False) w w' := by
  obtain ⟨i3, hi3, hy0, hy1, hy2⟩ := info_parts Yba.info38
  obtain ⟨kp, hkp⟩ : ∃ kp, kp = fun i => keepP (t i) (m i) q := ⟨_, rfl⟩
  rw [← hkp]
  have H2 := hid h2
  have H5 := hid h5
  have CQ := hid cq
  have HT := hid hT
  clear h2 h5 cq
  go_enter Yba.func7, Yba.ntmps7
  go_wp2
  go_loopg [5, 13] n (fun g sv i wr => ∃ (c : Nat) (kv : Value), kv = sv ∧ c + g = n ∧ i = .int .i64 c ∧ wr.ownsRow w.heap.size 38 1 kv (keptL kp c).length (ptrs cb (keptL kp c)) ∧ (kv = .slice none 0 0 ↔ keptL kp c = []) ∧ Keeps (fun _ => False) w wr)
  case atStart => exact ⟨0, _, rfl, by omega, rfl, ⟨rfl, .inl ⟨rfl, rfl⟩⟩, by simp [keptL], Keeps.refl _ _⟩
  case round =>
    obtain ⟨c, kv, rfl, hc, rfl, hO, hne, hK⟩ := hrel
    have HO := hid hO
    have HNE := hid hne
    have HKr := hid hK
    have hkl2 := keptL_len kp c
    have hsz := hK.size
    by_cases hlt : c < n
    · have cT := hK.cell hT
      obtain rfl : a = some ⟨cb, 0, none⟩ := by rcases ha with h | h; omega; exact h
      have C := clo_walk cb (c * 9) mb (t c) (m c) q wr (hK.cell (H2.out c hlt)) (hK.cell (H5.out c hlt)) (hK.cell CQ.out)
      have hkc : keepP (t c) (m c) q = kp c := by rw [hkp]
      rw [hkc] at C
      clear hO hne hK hT ha hkc hkp
      cases hr : kp c with
      | false =>
        rw [hr] at C
        have HQ := hid hr
        clear hr
        go_wp2_with (go_at_call 8; refine C.mono ?_; rintro e w1 ⟨rfl, hw⟩; obtain rfl := hw.symm)
        go_roundg (n - (c + 1))
        case measure => omega
        case rel =>
          refine ⟨c + 1, _, rfl, by omega, by go_num, ?_, ?_, HKr.out⟩
          · rw [keptL_no HQ.out]; exact HO.out
          · rw [keptL_no HQ.out]; exact HNE.out
      | true =>
        rw [hr] at C
        have HQ := hid hr
        clear hr
        go_wp2_with (first | (go_at_call 8; refine C.mono ?_; rintro e w1 ⟨rfl, hw⟩; obtain rfl := hw.symm) | (at_builtin; go_must (refine wpList_append_own' _ rfl (.tmp 25) (.tmp 27) 36 rfl w.heap.size 38 i3 (.pointer none) 1 8 Yba.underlying36 hi3 hy0 hy1 hy2 rfl (by decide) kv (keptL kp c).length (ptrs cb (keptL kp c)) rfl (HO.out.alloc _) ⟨wr.heap.size, 0, none⟩ 1 1 [.pointer (some ⟨cb, c * 9, none⟩)] rfl rfl (one_new _ _ _) (by simp [Value.oneCell']) (by unfold maxLen; omega) (by omega) (by simp; omega) ?_)))
        intro v' w7 hown hgrow hnl hnew
        have HO1 := hid hown
        have HN1 := hid hnl
        have HG := hid (HKr.out.trans (((Keeps.refl (fun k => kv.ownBlock = some k) wr).alloc _).grown hgrow (fun k e _ => e)) (fun k hk e => by have := (HO.out.lt k e).1; omega))
        clear hown hgrow hnl hnew
        go_wp2
        go_roundg (n - (c + 1))
        case measure => omega
        case rel =>
          refine ⟨c + 1, _, rfl, by omega, by go_num, ?_, ?_, HG.out⟩
          · rw [keptL_yes HQ.out, List.length_append]
            simpa [ptrs] using HO1.out
          · rw [keptL_yes HQ.out]
            simpa using HN1.out
    · clear hO hne hK
      obtain rfl : c = n := by omega
      go_wp2
      go_returns
      exact ⟨_, rfl, HO.out, HNE.out, HKr.out⟩
end Go.Proofs.Ybulkebvg
