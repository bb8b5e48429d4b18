import Derived.Test.YbulkebqyDoorLevels
namespace Go.Proofs.YbulkebqyDoor
open Go.RowKit Go.Deep

/-! ### Plain lists -/
def keptL (kp : Nat → Bool) (c : Nat) : List Nat := (List.range c).filter (fun i => kp i)
theorem keptL_yes {kp : Nat → Bool} {c : Nat} (h : kp c = true) : keptL kp (c + 1) = keptL kp c ++ [c] := by simp [keptL, List.range_succ, h]
theorem keptL_no {kp : Nat → Bool} {c : Nat} (h : kp c = false) : keptL kp (c + 1) = keptL kp c := by simp [keptL, List.range_succ, h]
theorem keptL_len (kp : Nat → Bool) (c : Nat) : (keptL kp c).length ≤ c := by
  have := List.length_filter_le (fun i => kp i) (List.range c)
  simpa [keptL] using this
theorem keptL_lt {kp : Nat → Bool} {c x : Nat} (h : x ∈ keptL kp c) : x < c ∧ kp x = true := by simpa [keptL] using h
def numOf (kp : Nat → Bool) (i : Nat) : Int := if kp i = true then ((keptL kp i).length : Int) else -1
def keptAt (kp : Nat → Bool) (n i : Nat) : Nat := (keptL kp n).getD i 0

def ivals (l : List Nat) : List Value := l.map fun x : Nat => .int .i64 (x : Int)
theorem ivals_snoc (l : List Nat) (c : Nat) : ivals (l ++ [c]) = ivals l ++ [.int .i64 (c : Int)] := by simp [ivals]
theorem num_yes {kp : Nat → Bool} {c : Nat} (h : kp c = true) (i : Nat) : (if i = c then ((keptL kp c).length : Int) else if i = c then -1 else if i < c then numOf kp i else 0) = if i < c + 1 then numOf kp i else 0 := by
  by_cases e : i = c
  · subst e; simp [numOf, h]
  · have : (i < c + 1) = (i < c) := by simp; omega
    simp [e, this]
theorem num_no {kp : Nat → Bool} {c : Nat} (h : kp c = false) (i : Nat) : (if i = c then (-1 : Int) else if i < c then numOf kp i else 0) = if i < c + 1 then numOf kp i else 0 := by
  by_cases e : i = c
  · subst e; simp [numOf, h]
  · have : (i < c + 1) = (i < c) := by simp; omega
    simp [e, this]

def trList (td : Nat → Int) (tl : Nat) : List (Int × Int) := (List.range tl).map (fun i : Nat => ((i : Int), td i))
def trCell (td : Nat → Int) (i : Nat) : Value := if i % 2 = 0 then .int .i64 ((i / 2 : Nat) : Int) else .int .u64 (td (i / 2))
theorem flat_trList (td : Nat → Int) (tl : Nat) : flat (trList td tl) = (List.range (tl * 2)).map (trCell td) := by
  induction tl with
  | zero => rfl
  | succ k ih =>
    have e1 : trList td (k + 1) = trList td k ++ [((k : Int), td k)] := by simp [trList, List.range_succ]
    rw [e1, flat_snoc, ih, show (k + 1) * 2 = k * 2 + 1 + 1 from by omega, List.range_succ, List.range_succ]
    have h1 : trCell td (k * 2) = .int .i64 k := by simp [trCell]
    have h2 : trCell td (k * 2 + 1) = .int .u64 (td k) := by
      have : (k * 2 + 1) % 2 = 1 := by omega
      have h3 : (k * 2 + 1) / 2 = k := by omega
      simp [trCell, this, h3]
    simp [h1, h2]

theorem trStep (td : Nat → Int) (j i : Nat) : (if i = j * 2 + 1 then Value.int .u64 (td j) else if i = j * 2 then .int .i64 (j : Int) else if i < j * 2 then trCell td i else if i % 2 = 0 then .int .i64 0 else .int .u64 0) = if i < (j + 1) * 2 then trCell td i else if i % 2 = 0 then .int .i64 0 else .int .u64 0 := by
  by_cases e : i = j * 2 + 1
  · subst e
    have h1 : (j * 2 + 1) % 2 = 1 := by omega
    have h2 : (j * 2 + 1) / 2 = j := by omega
    have h3 : j * 2 + 1 < (j + 1) * 2 := by omega
    simp [trCell, h1, h2, h3]
  · by_cases e2 : i = j * 2
    · subst e2
      have h3 : j * 2 < (j + 1) * 2 := by omega
      simp [trCell, h3]
    · have : (i < (j + 1) * 2) = (i < j * 2) := by simp; omega
      simp [e, e2, this]

theorem fcStep (n j i : Nat) : (if i = j * 2 + 1 then Value.int .i64 (((j : Int) + 1) % (n : Int)) else if i = j * 2 then .int .i64 ((j : Int) % (n : Int)) else if i < j * 2 then forcedAt n i else .int .i64 0) = if i < (j + 1) * 2 then forcedAt n i else .int .i64 0 := by
  by_cases e : i = j * 2 + 1
  · subst e
    have h1 : (j * 2 + 1) % 2 = 1 := by omega
    have h2 : (j * 2 + 1) / 2 = j := by omega
    have h3 : j * 2 + 1 < (j + 1) * 2 := by omega
    simp [forcedAt, h1, h2, h3]
  · by_cases e2 : i = j * 2
    · subst e2
      have h3 : j * 2 < (j + 1) * 2 := by omega
      simp [forcedAt, h3]
    · have : (i < (j + 1) * 2) = (i < j * 2) := by simp; omega
      simp [e, e2, this]

theorem row_owns {w : World} {g e n size : Nat} {f : Nat → Value} (h : w.rowIs g e (n * size) f) (hn : n ≤ maxLen) : w.ownsRow 0 e size (.slice (some ⟨g, 0, none⟩) n n) n ((List.range (n * size)).map f) := by
  obtain ⟨c, hb, hs, hc⟩ := h
  refine ⟨by simp, .inr ⟨g, n, c, rfl, Nat.zero_le _, hb, Nat.le_refl _, hn, hs, ?_⟩⟩
  apply List.ext_getElem?
  intro i
  by_cases hi : i < n * size
  · have := hc i hi
    simp [hi, this]
  · have h1 : n * size ≤ i := by omega
    rw [List.getElem?_eq_none (by simp; omega), List.getElem?_eq_none (by simp; omega)]

/-- 'make' of a slice of structs of two cells. -/
theorem run_make2 {P : Program} (t e : TypeId) (z0 z1 : Value) (bytes : Nat) (ht : P.underlying t = some (.slice e)) (hinfo : (P.info? e).map (fun i => (i.zero, i.size, i.bytes)) = some (some (.agg #[z0, z1]), 2, bytes))
    (kl kc : IntKind) (n : Nat) (hbytes : bytes * n ≤ 281474976710656) (h63 : n ≤ 9223372036854775807) (w : World) :
    (Instr.makeSlice t (.int kl (n : Int)) (.int kc (n : Int))).run P w = .ok (.slice (some ⟨w.heap.size, 0, none⟩) n n) (w.alloc (.cells (madeCells #[z0, z1] (n * 2)) e)) := by
  obtain ⟨i, hi, hzz⟩ := Option.map_eq_some_iff.1 hinfo
  simp only [Prod.mk.injEq] at hzz
  obtain ⟨hz, hs, hb⟩ := hzz
  have hb' : (i.bytes : Int) * (n : Int) ≤ 281474976710656 := by
    have h : ((i.bytes * n : Nat) : Int) ≤ 281474976710656 := by rw [hb]; omega
    rwa [Int.natCast_mul] at h
  have hr := run_make (P := P) w t e i _ ht hi hz kl kc n n (by omega) (Int.le_refl _) hb' (by omega)
  simp only [Int.toNat_natCast, hs] at hr
  exact hr
theorem rowIs_made2 (w : World) (z0 z1 : Value) (n : Nat) (t : TypeId) : (w.alloc (.cells (madeCells #[z0, z1] (n * 2)) t)).rowIs w.heap.size t (n * 2) (fun i => if i % 2 = 0 then z0 else z1) := by
  refine ⟨_, blk_alloc_new _ _, size_madeCells _ _, fun i hi => ?_⟩
  have hm : i % 2 < 2 := Nat.mod_lt _ (by omega)
  simp only [madeCells, Array.getElem?_map, Array.getElem?_range, hi, if_true, Option.map_some]
  rcases (show i % 2 = 0 ∨ i % 2 = 1 from by omega) with h | h <;> simp [h]

theorem Ybad.info62 : (Ybad.prog.info? 62).map (fun i => (i.zero, i.size, i.bytes)) = some (some (.agg #[.int .i64 0, .int .i64 0]), 2, 16) := by kernel_rfl
theorem Ybad.info30 : (Ybad.prog.info? 30).map (fun i => (i.zero, i.size, i.bytes)) = some (some (.slice none 0 0), 1, 24) := by kernel_rfl

/-- A slice that came in, told by what its cells hold. -/
def ArgRow (w : World) (a : Option Addr) (n : Nat) (f : Nat → Value) : Prop := n = 0 ∨ ∃ b o, a = some ⟨b, o, none⟩ ∧ ∀ j, j < n → w.cell? ⟨b, o + j, none⟩ = some (f j)
theorem cell_lt {w : World} {a : Addr} {v : Value} (h : w.cell? a = some v) : a.block < w.heap.size := by
  simp only [World.cell?] at h
  split at h
  · rename_i h'; exact lt_of_blk h'
  · simp at h
theorem Keeps.cell {w w' : World} (h : Keeps (fun _ => False) w w') {a : Addr} {v : Value} (hc : w.cell? a = some v) : w'.cell? a = some v :=
  (World.cell?_of_block (w := w) (h.block _ (cell_lt hc) (fun e => e))).trans hc
theorem ArgRow.keeps {w w' : World} {a : Option Addr} {n : Nat} {f : Nat → Value} (h : ArgRow w a n f) (k : Keeps (fun _ => False) w w') : ArgRow w' a n f := by
  rcases h with h | ⟨b, o, ha, hc⟩
  · exact .inl h
  · exact .inr ⟨b, o, ha, fun j hj => k.cell (hc j hj)⟩
theorem ArgRow.at' {w : World} {a : Option Addr} {n : Nat} {f : Nat → Value} (h : ArgRow w a n f) {j : Nat} (hj : j < n) : ∃ b o, a = some ⟨b, o, none⟩ ∧ w.cell? ⟨b, o + j, none⟩ = some (f j) := by
  rcases h with h | ⟨b, o, ha, hc⟩
  · omega
  · exact ⟨b, o, ha, hc j hj⟩

theorem range_at {m : Nat} {f : Nat → Value} {j : Nat} {u : Value} (h : ((List.range m).map f)[j]? = some u) : j < m ∧ u = f j := by
  by_cases hj : j < m
  · simp [hj] at h
    exact ⟨hj, h.symm⟩
  · rw [List.getElem?_eq_none (by simp; omega)] at h
    cases h

theorem clone12_rw (b m c : Nat) (f : Nat → Value) (w : World) (hr : Rw w b 3 m f) (h1 : ∀ i, i < m → (f i).oneCell' = true) (hm : m ≤ 100000000) :
    Calls Ybad.prog 12 #[.slice (some ⟨b, 0, none⟩) m c] w fun e w' => ∃ g cap, e = .returned (.slice (some ⟨g, 0, none⟩) m cap) ∧ w.heap.size ≤ g ∧ Rw w' g 3 m f ∧ Keeps (fun _ => False) w w' := by
  refine (clone12_some ⟨b, 0, none⟩ m c ((List.range m).map f) w (by simp) (fun j u hj => ?_) (fun u hu => ?_) hm).mono ?_
  · obtain ⟨hlt, hu⟩ := range_at hj
    rw [hu]
    rw [WideShapes.add_plain]
    simpa using hr.cell hlt
  · obtain ⟨i, hi, rfl⟩ : ∃ i, i < m ∧ f i = u := by simpa using hu
    exact h1 i hi
  · rintro e w' ⟨g, cap, rfl, hg, ho, hk⟩
    exact ⟨g, cap, rfl, hg, (owns_rw ho).congr fun i hi => by simp [hi], hk⟩

theorem clone11_rw (b m c : Nat) (f : Nat → Value) (w : World) (hr : Rw w b 4 m f) (h1 : ∀ i, i < m → (f i).oneCell' = true) (hm : m ≤ 100000000) :
    Calls Ybad.prog 11 #[.slice (some ⟨b, 0, none⟩) m c] w fun e w' => ∃ g cap, e = .returned (.slice (some ⟨g, 0, none⟩) m cap) ∧ w.heap.size ≤ g ∧ Rw w' g 4 m f ∧ Keeps (fun _ => False) w w' := by
  refine (clone11_some ⟨b, 0, none⟩ m c ((List.range m).map f) w (by simp) (fun j u hj => ?_) (fun u hu => ?_) hm).mono ?_
  · obtain ⟨hlt, hu⟩ := range_at hj
    rw [hu]
    rw [WideShapes.add_plain]
    simpa using hr.cell hlt
  · obtain ⟨i, hi, rfl⟩ : ∃ i, i < m ∧ f i = u := by simpa using hu
    exact h1 i hi
  · rintro e w' ⟨g, cap, rfl, hg, ho, hk⟩
    exact ⟨g, cap, rfl, hg, (owns_rw ho).congr fun i hi => by simp [hi], hk⟩

theorem clone7_rw (b m c : Nat) (f : Nat → Value) (w : World) (hr : Rw w b 37 m f) (h1 : ∀ i, i < m → (f i).oneCell' = true) (hm : m ≤ 100000000) :
    Calls Ybad.prog 7 #[.slice (some ⟨b, 0, none⟩) m c] w fun e w' => ∃ g cap, e = .returned (.slice (some ⟨g, 0, none⟩) m cap) ∧ w.heap.size ≤ g ∧ Rw w' g 37 m f ∧ Keeps (fun _ => False) w w' := by
  refine (clone7_some ⟨b, 0, none⟩ m c ((List.range m).map f) w (by simp) (fun j u hj => ?_) (fun u hu => ?_) hm).mono ?_
  · obtain ⟨hlt, hu⟩ := range_at hj
    rw [hu]
    rw [WideShapes.add_plain]
    simpa using hr.cell hlt
  · obtain ⟨i, hi, rfl⟩ : ∃ i, i < m ∧ f i = u := by simpa using hu
    exact h1 i hi
  · rintro e w' ⟨g, cap, rfl, hg, ho, hk⟩
    exact ⟨g, cap, rfl, hg, (owns_rw ho).congr fun i hi => by simp [hi], hk⟩

/-- What a placement that 'build' makes holds. -/
def bData (n bl tl : Nat) (kp pl rd : Nat → Bool) (wt : Nat → Int) (suc : Nat → Nat → Nat) (mem : Nat → Nat) (bt td : Nat → Int) (tr : Bool) : Dt :=
  { B := fun j => if j < bl then bt j else 0, T := if tr = true then some (trList td tl) else none, num := numOf kp, kept := keptAt kp n, pl := pl, wt := wt, mem := mem, Wd := levW n rd, suc := suc }

theorem fits_of {n m : Nat} (h2 : n ≤ 4096) (hm : m < n) : fits (ssOf n) (nlOf n) 0 m := by
  intro d hd
  unfold nlOf at hd
  match d with
  | 0 => simp [ssOf]; omega
  | 1 =>
    simp [ssOf]
    omega
  | d + 2 => split at hd <;> omega

/-- What the blocks of such a placement are: all of them new. -/
structure Fresh (h : Sh) (tv : Value) (B : Nat) : Prop where
  qb : B ≤ h.qb
  pb : B ≤ h.pb
  bb : B ≤ h.bb
  plb : B ≤ h.plb
  wb : B ≤ h.wb
  bs : ∀ i, i < h.nl → B ≤ h.bs i
  tv : ∀ k, tv.ownBlock = some k → B ≤ k
theorem Fresh.pls {h : Sh} {tv : Value} {B : Nat} (f : Fresh h tv B) : ∀ k, PlS h tv k → B ≤ k := by
  rintro k ((rfl | rfl | e) | rfl | rfl | rfl | ⟨i, hi, rfl⟩)
  · exact f.pb
  · exact f.bb
  · exact f.tv k e
  · exact f.qb
  · exact f.plb
  · exact f.wb
  · exact f.bs i hi

theorem tr0 {w w' w'' : World} (a : Keeps (fun _ => False) w w') (b : Keeps (fun _ => False) w' w'') : Keeps (fun _ => False) w w'' := a.trans b (fun _ _ e => e)
theorem kept_at {kp : Nat → Bool} {n i : Nat} (h : i < (keptL kp n).length) : keptAt kp n i < n := by
  unfold keptAt
  rw [List.getD_eq_getElem?_getD, List.getElem?_eq_getElem h]
  exact (keptL_lt (List.getElem_mem h)).1

theorem build_fin {n nf K W nb g cap bl tl g1 cap1 g2 cap2 g3 cap3 lb lcap : Nat} {oa xa : Option Addr} {oc xl xc : Nat} {S C sl bs : Nat → Nat} {kp pl rd : Nat → Bool} {wt : Nat → Int} {suc : Nat → Nat → Nat} {mem : Nat → Nat} {bt td : Nat → Int} {tr eo : Bool} {w wa wb wd we wo wc w1 w2 w3 w4 : World}
    (hk0 : Keeps (fun _ => False) w wa) (hN : wa.rowIs w.heap.size 3 n (fun i => .int .i64 (numOf kp i))) (hO : wa.ownsRow (w.heap.size + 1) 3 1 (.slice (some ⟨g, 0, none⟩) K cap) K (ivals (keptL kp n)))
    (hkA : Keeps (fun _ => False) wa wb) (hRB : wb.rowIs wa.heap.size 37 nb (fun j => .int .u64 (if j < bl then bt j else 0)))
    (hkT : Keeps (fun _ => False) wb wd) (hTr : TrailIs wd (.slice xa xl xc) (if tr = true then some (trList td tl) else none)) (hTn : ∀ k, (Value.slice xa xl xc).ownBlock = some k → wb.heap.size ≤ k)
    (hkF : Keeps (fun _ => False) wd we) (hFo : we.rowIs wd.heap.size 62 (nf * 2) (forcedAt n))
    (hkO : Keeps (fun _ => False) we wo) (hOp : OpenIs eo (.slice oa 0 oc))
    (hkS : Keeps (fun _ => False) wo wc) (hSr : wc.rowIs wo.heap.size 30 n (fun i => .slice (some ⟨S i, 0, none⟩) (sl i) (C i))) (hSs : ∀ i, i < n → wo.heap.size < S i ∧ Rw wc (S i) 3 (sl i) (fun k => .int .i64 (suc i k)))
    (hk1 : Keeps (fun _ => False) (wc.alloc (.cells #[.slice (some ⟨w.heap.size, 0, none⟩) n n, .slice (some ⟨g, 0, none⟩) K cap, .int .i64 W, .slice (some ⟨wa.heap.size, 0, none⟩) nb nb, .slice xa xl xc] 40)) w1) (h1 : Rw w1 g1 4 n (fun i => .bool (pl i))) (hg1 : wc.heap.size + 1 ≤ g1)
    (hk2 : Keeps (fun _ => False) w1 w2) (h2 : Rw w2 g2 3 n (fun i => .int .i64 (wt i))) (hg2 : w1.heap.size ≤ g2)
    (hk3 : Keeps (fun _ => False) w2 w3) (h3 : Rw w3 g3 3 n (fun i => .int .i64 (mem i))) (hg3 : w2.heap.size ≤ g3)
    (hk4 : Keeps (fun _ => False) w3 w4) (hL : LevIs w4 lb (nlOf n) bs (ssOf n) (levW n rd)) (hbs : ∀ i, i < nlOf n → w3.heap.size ≤ bs i)
    (hn1 : 1 ≤ n) (hn2 : n ≤ 4096) (hnf : nf ≤ 8) (hsl : ∀ i, i < n → sl i ≤ 65536) (hmb : ∀ i, i < n → mem i < n) (hsb : ∀ i j, i < n → j < sl i → suc i j < n)
    (hK : K = (keptL kp n).length) (hW : W = (K + 63) / 64) (hnb : nb = K * W) :
    ∃ (h : Sh) (ov tv : Value), (w4.heap.size + 1 = h.qb) ∧ StIs h (bData n bl tl kp pl rd wt suc mem bt td tr) eo ov tv ((w4.alloc (.cells #[.slice (some ⟨lb, 0, none⟩) (nlOf n) lcap] 66)).alloc (.cells #[.pointer (some ⟨wc.heap.size, 0, none⟩), .slice oa 0 oc, .slice (some ⟨g1, 0, none⟩) n cap1, .slice (some ⟨wd.heap.size, 0, none⟩) nf nf, .slice (some ⟨wo.heap.size, 0, none⟩) n n, .slice (some ⟨g2, 0, none⟩) n cap2, .slice (some ⟨g3, 0, none⟩) n cap3, .pointer (some ⟨w4.heap.size, 0, none⟩)] 47)) ∧
      Ok h (bData n bl tl kp pl rd wt suc mem bt td tr) ∧ Keeps (fun _ => False) w ((w4.alloc (.cells #[.slice (some ⟨lb, 0, none⟩) (nlOf n) lcap] 66)).alloc (.cells #[.pointer (some ⟨wc.heap.size, 0, none⟩), .slice oa 0 oc, .slice (some ⟨g1, 0, none⟩) n cap1, .slice (some ⟨wd.heap.size, 0, none⟩) nf nf, .slice (some ⟨wo.heap.size, 0, none⟩) n n, .slice (some ⟨g2, 0, none⟩) n cap2, .slice (some ⟨g3, 0, none⟩) n cap3, .pointer (some ⟨w4.heap.size, 0, none⟩)] 47)) ∧
      Fresh h tv w.heap.size ∧ h.n = n ∧ h.nf = nf ∧ h.sl = sl ∧ h.nl = nlOf n ∧ h.ss = ssOf n ∧ h.K = (keptL kp n).length ∧ h.W = ((keptL kp n).length + 63) / 64 := by
  generalize hSobj : Obj.cells #[.slice (some ⟨lb, 0, none⟩) (nlOf n) lcap] 66 = so
  generalize hQobj : Obj.cells #[.pointer (some ⟨wc.heap.size, 0, none⟩), .slice oa 0 oc, .slice (some ⟨g1, 0, none⟩) n cap1, .slice (some ⟨wd.heap.size, 0, none⟩) nf nf, .slice (some ⟨wo.heap.size, 0, none⟩) n n, .slice (some ⟨g2, 0, none⟩) n cap2, .slice (some ⟨g3, 0, none⟩) n cap3, .pointer (some ⟨w4.heap.size, 0, none⟩)] 47 = qo
  have hqb : ((w4.alloc so).alloc qo).heap[w4.heap.size + 1]? = some qo := by
    have := blk_alloc_new (w4.alloc so) qo
    rwa [nblk_alloc] at this
  have hsbk : ((w4.alloc so).alloc qo).heap[w4.heap.size]? = some so := (blk_alloc_lt _ _ _ (by rw [nblk_alloc]; omega)).trans (blk_alloc_new _ _)
  have f4 : Keeps (fun _ => False) w4 ((w4.alloc so).alloc qo) := ((Keeps.refl _ _).alloc _).alloc _
  generalize ((w4.alloc so).alloc qo) = wf at *
  have f3 := tr0 hk4 f4
  have f2 := tr0 hk3 f3
  have f1 := tr0 hk2 f2
  have fp := tr0 hk1 f1
  have fc := tr0 ((Keeps.refl _ wc).alloc _) fp
  have fo := tr0 hkS fc
  have fe := tr0 hkO fo
  have fd := tr0 hkF fe
  have fb := tr0 hkT fd
  have fa := tr0 hkA fb
  have z0 := hk0.size
  have zA := hkA.size
  have zT := hkT.size
  have zF := hkF.size
  have zO := hkO.size
  have zS := hkS.size
  have z1 := hk1.size
  rw [nblk_alloc] at z1
  have z2 := hk2.size
  have z3 := hk3.size
  have z4 := hk4.size
  have lN := hN.lt
  have lB := hRB.lt
  have lF := hFo.lt
  have lg1 := h1.lt
  have lg2 := h2.lt
  have lg3 := h3.lt
  have gO := hO.lt g rfl
  have hp40 : wf.heap[wc.heap.size]? = some (.cells #[.slice (some ⟨w.heap.size, 0, none⟩) n n, .slice (some ⟨g, 0, none⟩) K cap, .int .i64 W, .slice (some ⟨wa.heap.size, 0, none⟩) nb nb, .slice xa xl xc] 40 (0, 0)) := fp.at' (blk_alloc_new _ _) (fun e => e)
  have hkl := keptL_len kp n
  refine ⟨⟨w4.heap.size + 1, wc.heap.size, wa.heap.size, nb, w.heap.size, g, cap, n, K, W, g1, cap1, g2, cap2, g3, cap3, w4.heap.size, lb, nlOf n, lcap, bs, ssOf n, wo.heap.size, n, S, sl, C, wd.heap.size, nf⟩, .slice oa 0 oc, .slice xa xl xc, rfl, ?_, ?_, tr0 hk0 fa, ?_, rfl, rfl, rfl, rfl, rfl, hK, by rw [← hK]; exact hW⟩
  · refine ⟨?_, ⟨hp40, fb.row hRB (fun e => e), trailIs_keeps hTr fd (fun _ _ e => e)⟩, fa.row hN (fun e => e), ?_, h1.keeps f1 (fun e => e), h2.keeps f2 (fun e => e), h3.keeps f3 (fun e => e), ⟨?_, hL.lev.keeps f4 (fun e => e), fun i hi => f4.row (hL.row i hi) (fun e => e), hL.inj⟩, (Rw.of_row hSr).keeps fc (fun e => e), fun i hi => (hSs i hi).2.keeps fc (fun e => e), fe.row hFo (fun e => e), hOp⟩
    · rw [← hQobj] at hqb; exact hqb
    · refine ((owns_rw hO).keeps fa (fun e => e)).congr fun i hi => ?_
      rw [hK] at hi
      simp [bData, keptAt, ivals, hi]
    · rw [← hSobj] at hsbk; exact hsbk
  · refine ⟨?_, ?_, ?_, ?_, ?_, hn1, hn2, ?_, ?_, ?_, hnb, ?_, hnf, ?_, hmb, hsb, fun m hm => fits_of hn2 hm, hsl⟩
    · show ¬ g2 = g3; omega
    · show ¬ w.heap.size = g2; omega
    · show ¬ g = g2; omega
    · intro i hi
      have := (hSs i hi).2.lt
      show ¬ S i = g2; omega
    · intro i hi
      have := hbs i hi
      show ¬ bs i = wa.heap.size; omega
    · show K ≤ 64 * W; omega
    · show K ≤ 4096; omega
    · show W ≤ 64; omega
    · show nlOf n ≤ 10; unfold nlOf; split <;> omega
    · intro i hi
      exact kept_at (by rw [← hK]; exact hi)
  · refine ⟨?_, ?_, ?_, ?_, ?_, fun i hi => ?_, fun k hk => ?_⟩
    · show w.heap.size ≤ w4.heap.size + 1; omega
    · show w.heap.size ≤ wc.heap.size; omega
    · exact z0
    · show w.heap.size ≤ g1; omega
    · show w.heap.size ≤ g2; omega
    · have := hbs i hi
      show w.heap.size ≤ bs i; omega
    · have := hTn k hk
      omega
end Go.Proofs.YbulkebqyDoor
