import Derived.Test.YbulkebsaGrow
import Derived.Laws.OwnMore
namespace Go.Proofs.Ybulkebsa
open Go.RowKit Go.Deep

/-- A slice of fields that the call has made, or nil. -/
def SrcIs (w : World) (a : Option Addr) (n : Nat) (c : Nat) (f : Nat → Value) : Prop := (a = none ∧ n = 0 ∧ c = 0) ∨ ∃ b, a = some ⟨b, 0, none⟩ ∧ w.rowIs b 40 (n * 6) f
theorem SrcIs.keeps {w w' : World} {a : Option Addr} {n c : Nat} {f : Nat → Value} (h : SrcIs w a n c f) (k : Keeps (fun _ => False) w w') : SrcIs w' a n c f := by
  rcases h with h0 | ⟨b, hv, hr⟩
  · exact .inl h0
  · exact .inr ⟨b, hv, k.row hr (fun h => h)⟩
theorem fv_one (s : ByteArray) (k : Nat) : (fv s k).oneCell' = true := by
  unfold fv; split <;> rfl

theorem run_append_fs (w : World) (base : Nat) (acc : Value) (n : Nat) (xs : List Value) (hown : w.ownsRow base 40 6 acc n xs) (a : Option Addr) (m c : Nat) (N : Nat → ByteArray) (hS : SrcIs w a m c (fcell N)) (hn : n ≤ 2097152) (hm : m ≤ 2097152) (hb : base ≤ w.heap.size) (ty : TypeId) :
    ∃ v' w', (Builtin.append_ #[24, 24] ty #[acc, .slice a m c]).run Yba.prog w = .ok v' w' ∧ w'.ownsRow base 40 6 v' (n + m) (xs ++ (List.range (m * 6)).map (fcell N)) ∧ (v' = .slice none 0 0 ↔ acc = .slice none 0 0 ∧ m = 0) ∧ Keeps (fun k => base ≤ k) w w' := by
  obtain ⟨i, hi, hz, hsz, hby⟩ := info_parts Yba.info40
  rcases hS with ⟨rfl, rfl, rfl⟩ | ⟨b, rfl, hr⟩
  · refine ⟨acc, w, run_append_owned_none (P := Yba.prog) w base 24 ty 40 i 6 Yba.underlying24 hi acc n xs hown, by simpa using hown, by simp, Keeps.refl _ _⟩
  · obtain ⟨v', w', h1, h2, h3, h4⟩ := run_append_own (P := Yba.prog) w base 24 ty 40 i (.agg zarr) 6 72 Yba.underlying24 hi hz hsz hby rfl (by decide) acc n xs hown ⟨b, 0, none⟩ m c ((List.range (m * 6)).map (fcell N)) (by simp)
      (fun j u hj => by
        have hlt : j < m * 6 := by
          have := (List.getElem?_eq_some_iff.1 hj).1
          simpa using this
        simp [hlt] at hj
        subst hj
        have := hr.cell hlt
        rwa [WideShapes.add_plain, Nat.zero_add])
      (fun u hu => by
        obtain ⟨k, _, rfl⟩ := List.mem_map.1 hu
        exact fv_one _ _) (by unfold maxLen; omega) (by omega) hb
    refine ⟨v', w', h1, h2, h4, (Keeps.refl _ _).grown h3 fun k hk _ => ?_⟩
    rcases hown.2 with ⟨rfl, _⟩ | ⟨g, cap, cur, rfl, hg, _⟩
    · simp [Value.ownBlock] at hk
    · simp [Value.ownBlock] at hk
      omega

def cat (l : Nat) (N1 N2 : Nat → ByteArray) : Nat → ByteArray := fun i => if i < l then N1 i else N2 (i - l)
theorem cat_cells (l1 l2 : Nat) (N1 N2 : Nat → ByteArray) : (List.range (l1 * 6)).map (fcell N1) ++ (List.range (l2 * 6)).map (fcell N2) = (List.range ((l1 + l2) * 6)).map (fcell (cat l1 N1 N2)) := by
  apply List.ext_getElem?
  intro i
  by_cases h1 : i < l1 * 6
  · have hd : i / 6 < l1 := by omega
    rw [List.getElem?_append_left (by simpa using h1)]
    simp [h1, show i < (l1 + l2) * 6 from by omega, fcell, cat, hd]
  · rw [List.getElem?_append_right (by simp; omega)]
    by_cases h2 : i < (l1 + l2) * 6
    · have hd : ¬ i / 6 < l1 := by omega
      have e1 : (i - l1 * 6) / 6 = i / 6 - l1 := by omega
      have e2 : (i - l1 * 6) % 6 = i % 6 := by omega
      simp [h2, show i - l1 * 6 < l2 * 6 from by omega, fcell, cat, hd, e1, e2]
    · simp [h2, show ¬ i - l1 * 6 < l2 * 6 from by omega]

set_option maxRecDepth 100000 in
set_option maxHeartbeats 2000000 in
theorem concat_walk (sb : Nat) (a1 a2 : Option Addr) (l1 l2 c1 c2 : Nat) (N1 N2 : Nat → ByteArray) (w : World) (h0 : w.cell? ⟨sb, 0, none⟩ = some (.slice a1 l1 c1)) (h1 : w.cell? ⟨sb, 1, none⟩ = some (.slice a2 l2 c2))
    (hF1 : SrcIs w a1 l1 c1 (fcell N1)) (hF2 : SrcIs w a2 l2 c2 (fcell N2)) (hl1 : l1 ≤ 1048576) (hl2 : l2 ≤ 1048576) :
    Calls Yba.prog 7 #[.slice (some ⟨sb, 0, none⟩) 2 2] w fun e w' => ∃ v, e = .returned v ∧ w'.ownsRow w.heap.size 40 6 v (l1 + l2) ((List.range ((l1 + l2) * 6)).map (fcell (cat l1 N1 N2))) ∧ Keeps (fun _ => False) w w' := by
  have H1 := hid hF1
  have H2 := hid hF2
  have HC0 := hid h0
  have HC1 := hid h1
  clear hF1 hF2
  go_enter Yba.func7, Yba.ntmps7
  go_wp2
  go_loopg [3, 11] 2 (fun g tot i wr => wr = w ∧ ((g = 2 ∧ i = .int .i64 0 ∧ tot = .int .i64 0) ∨ (g = 1 ∧ i = .int .i64 1 ∧ tot = .int .i64 l1) ∨ (g = 0 ∧ i = .int .i64 2 ∧ tot = .int .i64 ((l1 : Int) + l2))))
  case atStart => exact ⟨rfl, .inl ⟨rfl, rfl, rfl⟩⟩
  case round =>
    obtain ⟨rfl, ⟨rfl, rfl, rfl⟩ | ⟨rfl, rfl, rfl⟩ | ⟨rfl, rfl, rfl⟩⟩ := hrel
    · go_wp2
      go_roundg 1
      case measure => omega
      case rel => exact ⟨rfl, .inr (.inl ⟨rfl, by go_num, by go_num⟩)⟩
    · go_wp2
      go_roundg 0
      case measure => omega
      case rel => exact ⟨rfl, .inr (.inr ⟨rfl, by go_num, by go_num⟩)⟩
    · clear h0 h1
      obtain ⟨wq, rfl⟩ : ∃ wq : World, wq = wr := ⟨_, rfl⟩
      go_wp2_with (go_at_call 8; refine (grow_walk _ (l1 + l2) (by omega) _ (by omega)).mono ?_; rintro e w1 ⟨v, rfl, hO, hv, hK⟩)
      have HO := hid hO
      have HK := hid hK
      have HV := hid hv
      have c0 := hK.cell HC0.out
      have c1 := hK.cell HC1.out
      clear hO hv hK c0 c1
      go_loopg [6, 27] 2 (fun g acc i wr => Keeps (fun _ => False) wq wr ∧ ((g = 2 ∧ i = .int .i64 0 ∧ wr.ownsRow wq.heap.size 40 6 acc 0 []) ∨ (g = 1 ∧ i = .int .i64 1 ∧ wr.ownsRow wq.heap.size 40 6 acc l1 ((List.range (l1 * 6)).map (fcell N1))) ∨
        (g = 0 ∧ i = .int .i64 2 ∧ wr.ownsRow wq.heap.size 40 6 acc (l1 + l2) ((List.range ((l1 + l2) * 6)).map (fcell (cat l1 N1 N2))))))
      case atStart => exact ⟨HK.out, .inl ⟨rfl, rfl, HO.out⟩⟩
      case round =>
        obtain ⟨hK2, ⟨rfl, rfl, hO2⟩ | ⟨rfl, rfl, hO2⟩ | ⟨rfl, rfl, hO2⟩⟩ := hrel
        · obtain ⟨v', w3, hr, h2, h3, h4⟩ := run_append_fs wr wq.heap.size _ 0 [] hO2 a1 l1 c1 N1 (H1.out.keeps hK2) (by omega) (by omega) hK2.size 24
          have c0 := hK2.cell HC0.out
          have HK2 := hid hK2
          have HO3 := hid h2
          have HK3 := hid h4
          clear hO2 hK2 h2 h3 h4
          go_wp2_with (at_builtin; refine Lib.wpList_append_run _ rfl _ _ _ _ rfl _ _ rfl rfl _ _ hr ?_)
          go_roundg 1
          case measure => omega
          case rel => exact ⟨HK2.out.trans HK3.out (fun k hk hS => by omega), .inr (.inl ⟨rfl, by go_num, by simpa using HO3.out⟩)⟩
        · obtain ⟨v', w3, hr, h2, h3, h4⟩ := run_append_fs wr wq.heap.size _ l1 _ hO2 a2 l2 c2 N2 (H2.out.keeps hK2) (by omega) (by omega) hK2.size 24
          have c1 := hK2.cell HC1.out
          have HK2 := hid hK2
          have HO3 := hid h2
          have HK3 := hid h4
          clear hO2 hK2 h2 h3 h4
          go_wp2_with (at_builtin; refine Lib.wpList_append_run _ rfl _ _ _ _ rfl _ _ rfl rfl _ _ hr ?_)
          go_roundg 0
          case measure => omega
          case rel => exact ⟨HK2.out.trans HK3.out (fun k hk hS => by omega), .inr (.inr ⟨rfl, by go_num, by have := HO3.out; rwa [cat_cells] at this⟩)⟩
        · have HK2 := hid hK2
          have HO3 := hid hO2
          clear hO2 hK2
          go_wp2
          go_returns
          exact ⟨_, rfl, HO3.out, HK2.out⟩
end Go.Proofs.Ybulkebsa
