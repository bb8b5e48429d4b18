import Derived.Test.YbulkebvgSet
import Derived.Lib.Builder
namespace Go.Proofs.Ybulkebvg
open Go.RowKit Go.Deep

/-- The table's cells. -/
def tcell (id : Int) (sc nm : ByteArray) (v : Value) : Nat → Value
  | 0 => .int .u64 id
  | 1 => .string sc
  | 2 => .string nm
  | _ => v
theorem rowIs_t {w : World} {b : Nat} {t : TypeId} {id : Int} {sc nm : ByteArray} {v : Value} (h : w.heap[b]? = some (.cells #[.int .u64 id, .string sc, .string nm, v] t)) : w.rowIs b t 4 (tcell id sc nm v) :=
  ⟨_, h, rfl, fun i hi => by rcases (show i = 0 ∨ i = 1 ∨ i = 2 ∨ i = 3 by omega) with rfl | rfl | rfl | rfl <;> rfl⟩
theorem heap2 (w : World) (o0 o1 : Obj) : ((w.alloc o0).alloc o1).heap[w.heap.size]? = some o0 ∧ ((w.alloc o0).alloc o1).heap[w.heap.size + 1]? = some o1 := by
  have n1 : (w.alloc o0).heap.size = w.heap.size + 1 := nblk_alloc _ _
  refine ⟨?_, ?_⟩
  · rw [blk_alloc_lt _ _ _ (by omega)]; exact blk_alloc_new _ _
  · rw [← n1]; exact blk_alloc_new _ _

theorem cell_lt {w : World} {a : Addr} {v : Value} (h : w.cell? a = some v) : a.block < w.heap.size := by
  rcases Nat.lt_or_ge a.block w.heap.size with h1 | h1
  · exact h1
  · have e : w.heap[a.block]? = none := by simp [h1]
    simp [World.cell?, e] at h

/-- What the columns that came back are. -/
theorem res_shape {w : World} {base L : Nat} {v : Value} {xs : List Value} {l : List Nat} (hO : w.ownsRow base 38 1 v L xs) (hN : v = .slice none 0 0 ↔ l = []) (hl : L = l.length) :
    ∃ va vc, v = .slice va L vc ∧ (L = 0 → va = none) ∧ ∀ j x, xs[j]? = some x → ∃ g, va = some ⟨g, 0, none⟩ ∧ w.cell? ⟨g, j, none⟩ = some x := by
  have hO2 := hO
  rcases hO.2 with ⟨rfl, h0⟩ | ⟨g, cap, cur, rfl, _⟩
  · refine ⟨none, 0, by rw [h0], fun _ => rfl, fun j x hx => ?_⟩
    have := hO.1
    rw [h0] at this
    have e : xs = [] := List.length_eq_zero_iff.1 (by omega)
    rw [e] at hx
    simp at hx
  · refine ⟨_, _, rfl, fun h0 => ?_, fun j x hx => ⟨g, rfl, ?_⟩⟩
    · have := hN.2 (List.length_eq_zero_iff.1 (by omega))
      simp at this
    · have := hO2.cells (g := g) rfl j x hx
      rwa [Addr.add_lit, Nat.zero_add] at this

theorem keptL_at {kp : Nat → Bool} {d : Nat} (h : kp d = true) : ∀ {n : Nat}, d < n → (keptL kp n)[(keptL kp d).length]? = some d
  | 0, hd => absurd hd (Nat.not_lt_zero _)
  | n + 1, hd => by
    by_cases e : d = n
    · subst e
      rw [keptL_yes h]
      simp
    · have ih := keptL_at h (n := n) (by omega)
      cases hk : kp n with
      | true =>
        rw [keptL_yes hk, List.getElem?_append_left, ih]
        exact (List.getElem?_eq_some_iff.1 ih).1
      | false => rw [keptL_no hk, ih]

/-- A column's cell, in the row as it is filled. -/
theorem col_cell {w : World} {b n i k : Nat} {t : TypeId} {D : Cols} (h : w.rowIs b t (n * 9) (fun k => if k < n * 9 then D.cell k else zv (k % 9))) (hi : i < n) (hk : k < 9) : w.cell? ⟨b, i * 9 + k, none⟩ = some (D.cv i k) := by
  rw [h.cell (i := i * 9 + k) (by omega), if_pos (by omega)]
  have e1 : (i * 9 + k) / 9 = i := by omega
  have e2 : (i * 9 + k) % 9 = k := by omega
  simp only [Cols.cell, e1, e2]

set_option maxRecDepth 100000 in
set_option maxHeartbeats 2000000 in
theorem law_walk (id : Int) (sc nm : ByteArray) (ad : Addr) (n cap : Nat) (q : Bool) (D : Cols) (w : World) (hn : n ≤ 65536) (hD : D.Ok n) (hA : n = 0 ∨ ∃ b o, ad = ⟨b, o, none⟩ ∧ ∀ i, i < n → ColIs w b o D i) :
    Calls Yba.prog 3 #[.int .u64 id, .string sc, .string nm, .slice (some ad) n cap, .bool q] w fun e w' => e = .returned (.bool true) ∧ Keeps (fun _ => False) w w' := by
  have HA := hid hA
  have HD := hid hD
  have hmk := fun u => run_make9 (P := Yba.prog) 25 35 zarr 64 Yba.underlying25 Yba.info35 .i64 .i64 n (by omega) (by omega) u
  clear hA hD
  go_enter Yba.func3, Yba.ntmps3
  go_wp2_with fail
  go_loopg [37] n (fun g i wr => ∃ c : Nat, c + g = n ∧ i = .int .i64 c ∧ wr.rowIs (w.heap.size + 1) 35 (n * 9) (fun k => if k < c * 9 then D.cell k else zv (k % 9)) ∧ wr.rowIs w.heap.size 27 4 (tcell id sc nm (.slice (some ⟨w.heap.size + 1, 0, none⟩) n n)) ∧ Keeps (fun _ => False) w wr)
  case atStart =>
    obtain ⟨h0, h1⟩ := heap2 w (.cells #[.int .u64 id, .string sc, .string nm, .slice (some ⟨w.heap.size + 1, 0, none⟩) n n] 27) (.cells (madeCells zarr (n * 9)) 35)
    have hr := rowIs_made9 (w.alloc (.cells #[.int .u64 id, .string sc, .string nm, .slice (some ⟨w.heap.size + 1, 0, none⟩) n n] 27)) n 35
    rw [nblk_alloc] at hr
    exact ⟨0, by omega, rfl, hr.congr fun k _ => by simp, rowIs_t h0, ((Keeps.refl _ _).alloc _).alloc _⟩
  case round =>
    obtain ⟨c, hc, rfl, hR, hT, hK⟩ := hrel
    have HR := hid hR
    have HT := hid hT
    have HK := hid hK
    by_cases hlt : c < n
    · rcases HA.out with h0 | ⟨b, o, rfl, hcol⟩
      · omega
      have hcc := (hcol c hlt).keeps hK
      have hblt : b < w.heap.size := cell_lt (hcol c hlt).c0
      have hb1 : ¬ b = w.heap.size + 1 := by omega
      have hb2 : ¬ w.heap.size + 1 = b := by omega
      have a0 := hcc.c0
      have a1 := hcc.c1
      have a2 := hcc.c2
      have a3 := hcc.c3
      have a4 := hcc.c4
      have a5 : wr.cell? ⟨w.heap.size, 3, none⟩ = some (.slice (some ⟨w.heap.size + 1, 0, none⟩) n n) := hT.cell (i := 3) (by omega)
      clear hcc hcol hR hT hK
      go_wp2_with fail
      go_region_held3 (fun w' => w'.cell? ⟨w.heap.size, 3, none⟩ = some (.slice (some ⟨w.heap.size + 1, 0, none⟩) n n) ∧ w'.cell? ⟨b, o + c * 5, none⟩ = some (.int .u8 (D.sel c)) ∧ w'.cell? ⟨b, o + c * 5 + 1, none⟩ = some (.int .u8 (D.raw c)) ∧ w'.cell? ⟨b, o + c * 5 + 2, none⟩ = some (.int .u16 (D.mt c)) ∧ w'.cell? ⟨b, o + c * 5 + 3, none⟩ = some (.string (D.nm c)) ∧ w'.cell? ⟨b, o + c * 5 + 4, none⟩ = some (.bool (D.un c))) (first | go_keep | exact ⟨b5, b0, b1, b2, b3, b4⟩ | (dsimp only; refine ⟨?_, ?_, ?_, ?_, ?_, ?_⟩ <;> go_keep)) (first | (go_at_call 4; refine (typ_walk (D.sel c) (D.raw c) (D.mt c) (D.nm c) (D.un c) (HD.out.s c hlt) (HD.out.r c hlt) _).mono ?_; rintro e w1 ⟨rfl, hK1⟩; have k1 := ((Keeps.refl (fun _ => False) wr).drew).trans hK1 (fun _ _ h => h); have b0 := k1.cell a0; have b1 := k1.cell a1; have b2 := k1.cell a2; have b3 := k1.cell a3; have b4 := k1.cell a4; have b5 := k1.cell a5; have hR1 := k1.row HR.out (fun h => h); obtain ⟨y0, x0⟩ : ∃ v, w1.cell? ⟨w.heap.size + 1, c * 9, none⟩ = some v := ⟨_, hR1.cell (by omega)⟩; have f0 := hR1.frozen (c * 9); obtain ⟨y1, x1⟩ : ∃ v, w1.cell? ⟨w.heap.size + 1, c * 9 + 1, none⟩ = some v := ⟨_, hR1.cell (by omega)⟩; have f1 := hR1.frozen (c * 9 + 1); obtain ⟨y2, x2⟩ : ∃ v, w1.cell? ⟨w.heap.size + 1, c * 9 + 2, none⟩ = some v := ⟨_, hR1.cell (by omega)⟩; have f2 := hR1.frozen (c * 9 + 2); obtain ⟨y3, x3⟩ : ∃ v, w1.cell? ⟨w.heap.size + 1, c * 9 + 3, none⟩ = some v := ⟨_, hR1.cell (by omega)⟩; have f3 := hR1.frozen (c * 9 + 3); obtain ⟨y4, x4⟩ : ∃ v, w1.cell? ⟨w.heap.size + 1, c * 9 + 4, none⟩ = some v := ⟨_, hR1.cell (by omega)⟩; have f4 := hR1.frozen (c * 9 + 4); obtain ⟨y5, x5⟩ : ∃ v, w1.cell? ⟨w.heap.size + 1, c * 9 + 5, none⟩ = some v := ⟨_, hR1.cell (by omega)⟩; have f5 := hR1.frozen (c * 9 + 5); obtain ⟨y6, x6⟩ : ∃ v, w1.cell? ⟨w.heap.size + 1, c * 9 + 6, none⟩ = some v := ⟨_, hR1.cell (by omega)⟩; have f6 := hR1.frozen (c * 9 + 6); obtain ⟨y7, x7⟩ : ∃ v, w1.cell? ⟨w.heap.size + 1, c * 9 + 7, none⟩ = some v := ⟨_, hR1.cell (by omega)⟩; have f7 := hR1.frozen (c * 9 + 7); obtain ⟨y8, x8⟩ : ∃ v, w1.cell? ⟨w.heap.size + 1, c * 9 + 8, none⟩ = some v := ⟨_, hR1.cell (by omega)⟩; have f8 := hR1.frozen (c * 9 + 8); have HR1 := hid hR1; have HK1 := hid k1; clear hR1 k1 hK1))
      go_wp2
      go_roundg (n - (c + 1))
      case measure => omega
      case rel =>
        have m0 : ¬ w.heap.size = w.heap.size + 1 := by omega
        have mk : ¬ w.heap.size + 1 < w.heap.size := by omega
        exact ⟨c + 1, by omega, by go_num, st9_row D c HR1.out, st9_other (c * 9) (D.cv c) m0 (HK1.out.row HT.out (fun h => h)), st9_keeps (c * 9) (D.cv c) mk (HK.out.trans HK1.out (fun _ _ h => h))⟩
    · clear hR hT hK
      obtain rfl : c = n := by omega
      have h2 : ∀ i, i < c → wr.cell? ⟨w.heap.size + 1, i * 9 + 2, none⟩ = some (.int .u8 (D.ty i)) := fun i hi => col_cell HR.out hi (by omega)
      have h5 : ∀ i, i < c → wr.cell? ⟨w.heap.size + 1, i * 9 + 5, none⟩ = some (.int .u16 (D.me i)) := fun i hi => col_cell HR.out hi (by omega)
      have C := charset_walk w.heap.size (w.heap.size + 1) c c (some ⟨w.heap.size + 1, 0, none⟩) D.ty D.me q wr hn (HT.out.cell (i := 3) (by omega)) (.inr rfl) h2 h5
      obtain ⟨kp, hkp⟩ : ∃ kp, kp = fun i => keepP (D.ty i) (D.me i) q := ⟨_, rfl⟩
      rw [← hkp] at C
      have HC := hid C
      have HKP := hid hkp
      have hsz := HK.out.size
      have hkl := keptL_len kp c
      obtain ⟨j35, hj35, _⟩ := info_parts Yba.info35
      have q38 : ∀ (w : World) (p : Addr), (binOp .neq 38 (.pointer (some p)) (.pointer (some p))).run Yba.prog w = .ok (.bool false) w := fun w p => Lib.run_neq_ptr_same w p Yba.underlying38 hj35
      have q36 : ∀ (w : World) (a : Option Addr) (n c n' c' : Nat), (binOp .eql 36 (.slice a n c) (.slice none n' c')).run Yba.prog w = .ok (.bool a.isNone) w := fun w a n c n' c' => Lib.run_eql_slice_nil w _ _ a n c n' c' Yba.underlying36
      clear h2 h5 C hkp
      go_wp2_with (go_at_call 5; refine HC.out.mono ?_; rintro e w1 ⟨v, rfl, hO, hN, hK1⟩; obtain ⟨va, vc, rfl, hva0, hva⟩ := res_shape hO hN rfl; have b0 : w1.cell? ⟨w.heap.size, 0, none⟩ = some (.int .u64 id) := hK1.cell (HT.out.cell (i := 0) (by omega)); have b1 : w1.cell? ⟨w.heap.size, 1, none⟩ = some (.string sc) := hK1.cell (HT.out.cell (i := 1) (by omega)); have b2 : w1.cell? ⟨w.heap.size, 2, none⟩ = some (.string nm) := hK1.cell (HT.out.cell (i := 2) (by omega)); have b3 : w1.cell? ⟨w.heap.size, 3, none⟩ = some (.slice (some ⟨w.heap.size + 1, 0, none⟩) c c) := hK1.cell (HT.out.cell (i := 3) (by omega)); have HV0 := hid hva0; have HV := hid hva; have HK1 := hid hK1; clear hO hN hK1 hva0 hva)
      have B3 := hid b3
      clear b0 b1 b2 b3
      go_loopg [14, 109] c (fun g k i wr => ∃ d : Nat, d + g = c ∧ i = .int .i64 d ∧ k = .int .i64 (keptL kp d).length ∧ Keeps (fun _ => False) w1 wr)
      case atStart => exact ⟨0, by omega, rfl, rfl, Keeps.refl _ _⟩
      case round =>
        obtain ⟨d, hd, rfl, rfl, hK2⟩ := hrel
        have HK2 := hid hK2
        clear hK2
        by_cases hlt : d < c
        · rcases HA.out with h0 | ⟨b, o, rfl, hcol⟩
          · omega
          have hcc := (((hcol d hlt).keeps HK.out).keeps HK1.out).keeps HK2.out
          have HCC := hid hcc
          have a0 := hcc.c0
          have a1 := hcc.c1
          have a2 := hcc.c2
          have a3 := hcc.c3
          have a4 := hcc.c4
          have t3 := HK2.out.cell B3.out
          have HRR := hid (HK2.out.row (HK1.out.row HR.out (fun h => h)) (fun h => h))
          have hm : 0 ≤ D.me d ∧ D.me d < 65536 := by
            have := bounds_u16 (wf_bits .xor .u16 (D.mt d) 254)
            unfold Cols.me
            omega
          have HWD : Hid (IntKind.u64.wrap ((d : Nat) : Int) = (d : Int)) := hid (by rw [IntKind.wrap_u64]; omega)
          have Ck := keep_walk (D.ty d) (D.me d) q
          rw [show keepL (D.ty d) (D.me d) q = kp d from by rw [keep_same _ _ _ hm, HKP.out]] at Ck
          clear hcc hcol hm
          go_wp2_with (go_at_call 4; go_must (refine (typ_walk (D.sel d) (D.raw d) (D.mt d) (D.nm d) (D.un d) (HD.out.s d hlt) (HD.out.r d hlt) _).mono ?_; rintro e w2 ⟨rfl, hK3⟩; have z2 := hK3.cell a2; have z3 := hK3.cell a3; have z4 := hK3.cell a4; have y0 : w2.cell? ⟨w.heap.size + 1, d * 9, none⟩ = some (.int .i64 (d : Nat)) := hK3.cell (col_cell (k := 0) HRR.out hlt (by omega)); have y1 : w2.cell? ⟨w.heap.size + 1, d * 9 + 1, none⟩ = some (.string (D.nm d)) := hK3.cell (col_cell (k := 1) HRR.out hlt (by omega)); have y2 : w2.cell? ⟨w.heap.size + 1, d * 9 + 2, none⟩ = some (.int .u8 (typ (D.sel d) (D.raw d))) := hK3.cell (col_cell (k := 2) HRR.out hlt (by omega)); have y3 : w2.cell? ⟨w.heap.size + 1, d * 9 + 3, none⟩ = some (.bool (D.un d)) := hK3.cell (col_cell (k := 3) HRR.out hlt (by omega)); have y4 : w2.cell? ⟨w.heap.size + 1, d * 9 + 4, none⟩ = some (.bool false) := hK3.cell (col_cell (k := 4) HRR.out hlt (by omega)); have y5 : w2.cell? ⟨w.heap.size + 1, d * 9 + 5, none⟩ = some (.int .u16 (bits .xor .u16 (D.mt d) 254)) := hK3.cell (col_cell (k := 5) HRR.out hlt (by omega)); have y6 : w2.cell? ⟨w.heap.size + 1, d * 9 + 6, none⟩ = some (.bool false) := hK3.cell (col_cell (k := 6) HRR.out hlt (by omega)); have y7 : w2.cell? ⟨w.heap.size + 1, d * 9 + 7, none⟩ = some (.int .u64 (IntKind.u64.wrap ((d : Nat) : Int))) := (by rw [HWD.out]; exact hK3.cell (col_cell (k := 7) HRR.out hlt (by omega))); have y8 : w2.cell? ⟨w.heap.size + 1, d * 9 + 8, none⟩ = some (.slice none 0 0) := hK3.cell (col_cell (k := 8) HRR.out hlt (by omega)); have HK3 := hid hK3; clear hK3))
          go_quiet (fail)
          go_wp2_with fail
          refine (Ck _).mono ?_
          rintro e w3 ⟨rfl, hw⟩
          obtain rfl := hw.symm
          clear hw
          cases hr : kp d with
          | false =>
            have HQ := hid hr
            clear hr Ck
            go_wp2
            go_roundg (c - (d + 1))
            case measure => omega
            case rel => exact ⟨d + 1, by omega, by go_num, by rw [keptL_no HQ.out], (HK2.out.trans HK3.out (fun _ _ h => h)).drewN _⟩
          | true =>
            have HQ := hid hr
            have hat := keptL_at hr hlt
            have hki : ((keptL kp d).length : Int) < ((keptL kp c).length : Int) := by
              have := (List.getElem?_eq_some_iff.1 hat).1
              omega
            obtain ⟨g, rfl, hg⟩ := HV.out (keptL kp d).length (.pointer (some ⟨w.heap.size + 1, d * 9, none⟩)) (by simp [ptrs, hat])
            have rr := HK3.out.cell (HK2.out.cell hg)
            clear hr Ck hat hg
            go_wp2
            go_roundg (c - (d + 1))
            case measure => omega
            case rel => exact ⟨d + 1, by omega, by go_num, by rw [keptL_yes HQ.out]; simp, (HK2.out.trans HK3.out (fun _ _ h => h)).drewN _⟩
        · obtain rfl : d = c := by omega
          by_cases h0 : (keptL kp d).length = 0
          · obtain rfl := HV0.out h0
            have h0i : (((keptL kp d).length : Nat) : Int) = 0 := by omega
            clear h0
            go_wp2
            go_returns
            exact ⟨rfl, (HK.out.trans HK1.out (fun _ _ h => h)).trans HK2.out (fun _ _ h => h)⟩
          · have h0i : ((((keptL kp d).length : Nat) : Int) == 0) = false := by simp at h0 ⊢; omega
            clear h0
            go_wp2
            go_returns
            exact ⟨rfl, (HK.out.trans HK1.out (fun _ _ h => h)).trans HK2.out (fun _ _ h => h)⟩
end Go.Proofs.Ybulkebvg
