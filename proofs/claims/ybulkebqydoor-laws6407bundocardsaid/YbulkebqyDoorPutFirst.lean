import Derived.Test.YbulkebqyDoorJoin
namespace Go.Proofs.YbulkebqyDoor
open Go.RowKit Go.Deep

/-- A block of which the first n cells are told. -/
def Rw (w : World) (b : Nat) (t : TypeId) (n : Nat) (f : Nat → Value) : Prop := ∃ c : Array Value, w.heap[b]? = some (.cells c t (0, 0)) ∧ ∀ i, i < n → c[i]? = some (f i)
namespace Rw
variable {w w' : World} {b : Nat} {t : TypeId} {n : Nat} {f g : Nat → Value} {S : Nat → Prop}
theorem cell (h : Rw w b t n f) {i : Nat} (hi : i < n) : w.cell? ⟨b, i, none⟩ = some (f i) := by
  obtain ⟨c, hb, hc⟩ := h
  simp [World.cell?, hb, hc i hi]
theorem frozen (h : Rw w b t n f) (i : Nat) : w.frozen? ⟨b, i, none⟩ = false := by
  obtain ⟨c, hb, _⟩ := h
  simp [World.frozen?, hb]
theorem blk (h : Rw w b t n f) : ∃ c, w.heap[b]? = some (.cells c t (0, 0)) := by obtain ⟨c, hb, _⟩ := h; exact ⟨c, hb⟩
theorem lt (h : Rw w b t n f) : b < w.heap.size := by obtain ⟨c, hb, _⟩ := h; exact lt_of_blk hb
theorem of_row (h : w.rowIs b t n f) : Rw w b t n f := by obtain ⟨c, hb, _, hc⟩ := h; exact ⟨c, hb, hc⟩
theorem of_block (h : Rw w b t n f) (e : w'.heap[b]? = w.heap[b]?) : Rw w' b t n f := by obtain ⟨c, hb, hc⟩ := h; exact ⟨c, e.trans hb, hc⟩
theorem keeps (h : Rw w b t n f) (hk : Keeps S w w') (hn : ¬ S b) : Rw w' b t n f := h.of_block (hk.block b h.lt hn)
theorem congr (h : Rw w b t n f) (e : ∀ i, i < n → f i = g i) : Rw w b t n g := by obtain ⟨c, hb, hc⟩ := h; exact ⟨c, hb, fun i hi => by rw [hc i hi, e i hi]⟩
theorem set (h : Rw w b t n f) (i : Nat) (v : Value) : Rw (w.setCell ⟨b, i, none⟩ v) b t n (fun j => if j = i then v else f j) := by
  obtain ⟨c, hb, hc⟩ := h
  refine ⟨c.setIfInBounds i v, blk_set hb i v, fun j hj => ?_⟩
  rw [Array.getElem?_setIfInBounds]
  by_cases e : j = i
  · subst e
    have := hc j hj
    obtain ⟨hlt, _⟩ := Array.getElem?_eq_some_iff.1 this
    simp [hlt]
  · rw [if_neg (fun h => e h.symm)]
    show c[j]? = some (if j = i then v else f j)
    rw [if_neg e]
    exact hc j hj
theorem alloc (h : Rw w b t n f) (o : Obj) : Rw (w.alloc o) b t n f := h.of_block (blk_alloc_lt _ _ _ h.lt)
theorem drew (h : Rw w b t n f) : Rw w.drew b t n f := h
end Rw

theorem PS_types {w : World} {pb bb nb k : Nat} {nv kv wv tv : Value} {B : Nat → Int} {T : Option (List (Int × Int))} {c : Array Value} {t : TypeId} (h : PrecIs w pb bb nb nv kv wv tv B T) (hb : w.heap[k]? = some (.cells c t (0, 0)))
    (h1 : t ≠ 40) (h2 : t ≠ 50) (h3 : t = 37 → ¬ k = bb) : ¬ PS pb bb tv k := by
  rintro (e | e | e)
  · exact ne_of_types hb h.blk h1 e
  · by_cases ht : t = 37
    · exact h3 ht e
    · obtain ⟨cb, hcb⟩ := row_blk h.row
      exact ne_of_types hb hcb ht e
  · cases T with
    | none => have : tv = .slice none 0 0 := h.trail; subst this; simp [Value.ownBlock] at e
    | some l =>
      obtain ⟨g, cap, cur, rfl, hg⟩ := owns_shape h.trail.1 h.trail.2
      simp [Value.ownBlock] at e
      subst e
      exact ne_of_types hb hg h2 rfl

def bit1 (b : Nat) : Int := IntKind.u64.wrap (2 ^ b)
def restSt (k : Nat) (pl : Nat → Bool) (kept : Nat → Nat) : Nat → Nat → Int
  | 0 => fun _ => 0
  | c + 1 => if c ≠ k ∧ pl (kept c) = false then setB (restSt k pl kept c) (c / 64) (orr (restSt k pl kept c (c / 64)) (bit1 (c % 64))) else restSt k pl kept c

theorem Ybad.info37 : (Ybad.prog.info? 37).map (fun i => (i.zero, i.size, i.bytes)) = some (some (.int .u64 0), 1, 8) := by kernel_rfl
theorem putFirst_any (pb bb nb nbk kb kcap n K W plb pcap k t : Nat) (tv : Value) (B : Nat → Int) (T : Option (List (Int × Int))) (kept : Nat → Nat) (pl : Nat → Bool) (x : Int) (w : World)
    (h : PrecIs w pb bb nb (.slice (some ⟨nbk, 0, none⟩) n n) (.slice (some ⟨kb, 0, none⟩) K kcap) (.int .i64 W) tv B T)
    (cn : w.cell? ⟨nbk, t, none⟩ = some (.int .i64 k)) (hk : Rw w kb 3 K (fun i => .int .i64 (kept i))) (hpl : Rw w plb 4 n (fun i => .bool (pl i)))
    (hx : x = (t : Int)) (ht : t < n) (hkK : k < K) (hkept : ∀ i, i < K → kept i < n) (hK : K ≤ 64 * W) (hK2 : K ≤ 4096) (hW : W ≤ 64) (hn : nb = K * W) (hT : trailLen T ≤ 3000000) :
    Calls Ybad.prog 15 #[.pointer (some ⟨pb, 0, none⟩), .int .i64 x, .slice (some ⟨plb, 0, none⟩) n pcap] w fun e w' => e = .returned (.tuple #[]) ∧
      ∃ tv', PrecIs w' pb bb nb (.slice (some ⟨nbk, 0, none⟩) n n) (.slice (some ⟨kb, 0, none⟩) K kcap) (.int .i64 W) tv' (joinSt (restSt k pl kept K) (k * W) (B, T) W).1 (joinSt (restSt k pl kept K) (k * W) (B, T) W).2 ∧
        Keeps (PS pb bb tv) w w' ∧ (∀ k, tv'.ownBlock = some k → tv.ownBlock = some k ∨ w.heap.size ≤ k) := by
  subst hx
  have c0 : w.cell? ⟨pb, 0, none⟩ = some (.slice (some ⟨nbk, 0, none⟩) n n) := by rw [cell_of_blk h.blk]; rfl
  have c1 : w.cell? ⟨pb, 1, none⟩ = some (.slice (some ⟨kb, 0, none⟩) K kcap) := by rw [cell_of_blk h.blk]; rfl
  have c2 : w.cell? ⟨pb, 2, none⟩ = some (.int .i64 W) := by rw [cell_of_blk h.blk]; rfl
  have hpl1 := lt_of_blk h.blk
  have hmk := run_make_row' (P := Ybad.prog) 24 37 (.int .u64 0) 8 Ybad.underlying24 Ybad.info37 rfl .i64 .i64 W (by omega) (by omega)
  have HP := hid h
  have HK := hid hk
  have HL := hid hpl
  have Hk := hid hkept
  have Hn := hid hn
  clear h hk hpl hn hkept
  go_enter Ybad.func15, Ybad.ntmps15
  go_wp2
  go_loopg [29] K (fun g i wr => ∃ c : Nat, c + g = K ∧ i = .int .i64 c ∧ wr.rowIs w.heap.size 37 W (fun i => .int .u64 (restSt k pl kept c i)) ∧ Keeps (fun _ => False) w wr)
  case atStart =>
    refine ⟨0, by omega, rfl, (World.rowIs_made _ _ _ _).congr fun i _ => rfl, (Keeps.refl _ _).alloc _⟩
  case round =>
    obtain ⟨c, hc, rfl, hR, hW'⟩ := hrel
    have HR := hid hR
    have HW := hid hW'
    by_cases hlt : c < K
    · have ck : wr.cell? ⟨kb, c, none⟩ = some (.int .i64 (kept c)) := (HK.out.keeps hW' (fun h => h)).cell hlt
      have hkc := Hk.out c hlt
      have cp : wr.cell? ⟨plb, kept c, none⟩ = some (.bool (pl (kept c))) := (HL.out.keeps hW' (fun h => h)).cell hkc
      have hc64 : c / 64 < W := by omega
      have cr : wr.cell? ⟨w.heap.size, c / 64, none⟩ = some (.int .u64 (restSt k pl kept c (c / 64))) := hR.cell hc64
      have fr : wr.frozen? ⟨w.heap.size, c / 64, none⟩ = false := hR.frozen _
      clear hR hW'
      by_cases hck : c = k
      · have hb : ((c : Int) != (k : Int)) = false := by simp; omega
        have HC := hid hck
        clear hck
        go_wp2
        go_roundg (K - (c + 1))
        case measure => omega
        case rel =>
          refine ⟨c + 1, by omega, by go_num, HR.out.congr fun i _ => ?_, HW.out⟩
          simp [restSt, HC.out]
      · have hb : ((c : Int) != (k : Int)) = true := by simp; omega
        cases hp : pl (kept c) with
        | true => 
          rw [hp] at cp
          have HQ := hid hp
          clear hp
          go_wp2
          go_roundg (K - (c + 1))
          case measure => omega
          case rel =>
            refine ⟨c + 1, by omega, by go_num, HR.out.congr fun i _ => ?_, HW.out⟩
            simp [restSt, HQ.out]
        | false =>
          rw [hp] at cp
          have HQ := hid hp
          clear hp
          go_wp2
          go_region
          all_goals
            go_wp2
            go_roundg (K - (c + 1))
            case measure => omega
            case rel =>
              refine ⟨c + 1, by omega, by go_num, (HR.out.set _ _).drew.congr fun i _ => ?_, (HW.out.setCell _ _ (fun h => absurd h (Nat.lt_irrefl _))).drew⟩
              have hck' : c ≠ k := hck
              simp only [restSt, if_pos (And.intro hck' HQ.out), setB]
              split <;> rfl
    · clear hR hW'
      obtain rfl : c = K := by omega
      have hle : k * W + W ≤ c * W := by
        have := Nat.mul_le_mul_right W (show k + 1 ≤ c from hkK)
        rw [Nat.add_mul, Nat.one_mul] at this
        exact this
      have Hle := hid hle
      clear hle
      go_wp2_with fail
      refine (join_any pb bb nb W w.heap.size k _ _ tv B (restSt k pl kept c) T _ wr (HP.out.keeps HW.out (fun h => h) (fun h => h) (fun _ _ h => h)) HR.out (fun e => ?_) rfl (by omega) (by omega) (by rw [Hn.out]; exact Hle.out) hT).mono ?_
      · obtain ⟨cb, hcb⟩ := row_blk HP.out.row
        have := lt_of_blk hcb
        omega
      rintro e w1 ⟨rfl, tv1, hP1, hK1, hN1⟩
      have HP1 := hid hP1
      have HK1 := hid hK1
      have HN1 := hid hN1
      clear hP1 hK1 hN1
      go_wp2
      go_returns
      refine ⟨rfl, tv1, HP1.out, (HW.out.mono (fun _ _ h => h.elim)).trans HK1.out (fun _ _ h => h), fun j hj => ?_⟩
      have hsz := HW.out.size
      rcases HN1.out j hj with h1 | h1
      · exact .inl h1
      · exact .inr (by omega)
end Go.Proofs.YbulkebqyDoor
