import Derived.Test.YbulkebqyDoorForce
namespace Go.Proofs.YbulkebqyDoor
open Go.RowKit Go.Deep

/-- Where the parts of a placement lie. -/
structure Sh where
  qb : Nat
  pb : Nat
  bb : Nat
  nb : Nat
  nbk : Nat
  kb : Nat
  kcap : Nat
  n : Nat
  K : Nat
  W : Nat
  plb : Nat
  pcap : Nat
  wb : Nat
  wcap : Nat
  mb : Nat
  mcap : Nat
  sb : Nat
  lb : Nat
  nl : Nat
  lcap : Nat
  bs : Nat → Nat
  ss : Nat → Nat
  scb : Nat
  sccap : Nat
  sa : Nat → Nat
  sl : Nat → Nat
  sc : Nat → Nat
  fb : Nat
  nf : Nat
/-- What they hold. -/
structure Dt where
  B : Nat → Int
  T : Option (List (Int × Int))
  num : Nat → Int
  kept : Nat → Nat
  pl : Nat → Bool
  wt : Nat → Int
  mem : Nat → Nat
  Wd : Nat → Nat → Int
  suc : Nat → Nat → Nat
def OpenIs (eo : Bool) (ov : Value) : Prop := (eo = true ∧ ∃ a c, ov = .slice (some a) 0 c) ∨ (eo = false ∧ ov = .slice none 0 0)
def forcedAt (n i : Nat) : Value := .int .i64 ((if i % 2 = 0 then i / 2 else i / 2 + 1) % n : Nat)

structure StIs (h : Sh) (d : Dt) (eo : Bool) (ov tv : Value) (w : World) : Prop where
  blk : PlBlk w h.qb h.pb h.plb h.pcap h.n h.wb h.wcap h.mb h.mcap h.sb ov (.slice (some ⟨h.fb, 0, none⟩) h.nf h.nf) (.slice (some ⟨h.scb, 0, none⟩) h.n h.sccap)
  prec : PrecIs w h.pb h.bb h.nb (.slice (some ⟨h.nbk, 0, none⟩) h.n h.n) (.slice (some ⟨h.kb, 0, none⟩) h.K h.kcap) (.int .i64 h.W) tv d.B d.T
  numb : w.rowIs h.nbk 3 h.n (fun i => .int .i64 (d.num i))
  kept : Rw w h.kb 3 h.K (fun i => .int .i64 (d.kept i))
  plac : Rw w h.plb 4 h.n (fun i => .bool (d.pl i))
  wait : Rw w h.wb 3 h.n (fun i => .int .i64 (d.wt i))
  mems : Rw w h.mb 3 h.n (fun i => .int .i64 (d.mem i))
  txn : TxnIs w h.sb h.lb h.nl h.lcap h.bs h.ss d.Wd
  succ : Rw w h.scb 30 h.n (fun i => .slice (some ⟨h.sa i, 0, none⟩) (h.sl i) (h.sc i))
  sucs : ∀ i, i < h.n → Rw w (h.sa i) 3 (h.sl i) (fun j => .int .i64 (d.suc i j))
  forc : w.rowIs h.fb 62 (h.nf * 2) (forcedAt h.n)
  opn : OpenIs eo ov

/-- What holds of the places and sizes, whatever is written. -/
structure Ok (h : Sh) (d : Dt) : Prop where
  wm : ¬ h.wb = h.mb
  wn : ¬ h.nbk = h.wb
  wk : ¬ h.kb = h.wb
  ws : ∀ i, i < h.n → ¬ h.sa i = h.wb
  bbs : ∀ i, i < h.nl → ¬ h.bs i = h.bb
  n1 : 1 ≤ h.n
  n2 : h.n ≤ 4096
  K1 : h.K ≤ 64 * h.W
  K2 : h.K ≤ 4096
  W1 : h.W ≤ 64
  nbe : h.nb = h.K * h.W
  nl1 : h.nl ≤ 10
  nf1 : h.nf ≤ 8
  kep : ∀ i, i < h.K → d.kept i < h.n
  mem : ∀ i, i < h.n → d.mem i < h.n
  suc : ∀ i j, i < h.n → j < h.sl i → d.suc i j < h.n
  fit : ∀ m, m < h.n → fits h.ss h.nl 0 m
  sl1 : ∀ i, i < h.n → h.sl i ≤ 65536

variable {h : Sh} {d : Dt} {eo : Bool} {ov tv : Value} {w w' : World} {S : Nat → Prop}

/-- Nothing that was there has turned. -/
theorem StIs.keep0 (st : StIs h d eo ov tv w) (k : Keeps (fun _ => False) w w') : StIs h d eo ov tv w' :=
  ⟨k.at' st.blk (fun e => e), st.prec.keeps k (fun e => e) (fun e => e) (fun _ _ e => e), k.row st.numb (fun e => e), st.kept.keeps k (fun e => e), st.plac.keeps k (fun e => e), st.wait.keeps k (fun e => e), st.mems.keeps k (fun e => e),
    st.txn.keeps k (fun e => e) (fun e => e) (fun _ _ e => e), st.succ.keeps k (fun e => e), fun i hi => (st.sucs i hi).keeps k (fun e => e), k.row st.forc (fun e => e), st.opn⟩
theorem StIs.alloc (st : StIs h d eo ov tv w) (o : Obj) : StIs h d eo ov tv (w.alloc o) := st.keep0 ((Keeps.refl _ _).alloc o)
theorem StIs.drew (st : StIs h d eo ov tv w) : StIs h d eo ov tv w.drew := st.keep0 (Keeps.refl _ _).drew

/-- The precedence has turned. -/
theorem StIs.put (st : StIs h d eo ov tv w) (ok : Ok h d) {tv' : Value} {B' : Nat → Int} {T' : Option (List (Int × Int))} (k : Keeps (PS h.pb h.bb tv) w w')
    (p : PrecIs w' h.pb h.bb h.nb (.slice (some ⟨h.nbk, 0, none⟩) h.n h.n) (.slice (some ⟨h.kb, 0, none⟩) h.K h.kcap) (.int .i64 h.W) tv' B' T') : StIs h { d with B := B', T := T' } eo ov tv' w' := by
  have f : ∀ {k : Nat} {c : Array Value} {t : TypeId}, w.heap[k]? = some (.cells c t (0, 0)) → t ≠ 40 → t ≠ 50 → t ≠ 37 → ¬ PS h.pb h.bb tv k := fun hk h1 h2 h3 => PS_types st.prec hk h1 h2 (fun e => absurd e h3)
  obtain ⟨c1, b1⟩ := row_blk st.numb
  obtain ⟨c2, b2⟩ := st.kept.blk
  obtain ⟨c3, b3⟩ := st.plac.blk
  obtain ⟨c4, b4⟩ := st.wait.blk
  obtain ⟨c5, b5⟩ := st.mems.blk
  obtain ⟨c6, b6⟩ := st.txn.lev.blk
  obtain ⟨c7, b7⟩ := st.succ.blk
  obtain ⟨c8, b8⟩ := row_blk st.forc
  refine ⟨k.at' st.blk (f st.blk (by decide) (by decide) (by decide)), p, k.row st.numb (f b1 (by decide) (by decide) (by decide)), st.kept.keeps k (f b2 (by decide) (by decide) (by decide)), st.plac.keeps k (f b3 (by decide) (by decide) (by decide)),
    st.wait.keeps k (f b4 (by decide) (by decide) (by decide)), st.mems.keeps k (f b5 (by decide) (by decide) (by decide)), st.txn.keeps k (f st.txn.blk (by decide) (by decide) (by decide)) (f b6 (by decide) (by decide) (by decide)) (fun i hi => ?_),
    st.succ.keeps k (f b7 (by decide) (by decide) (by decide)), fun i hi => ?_, k.row st.forc (f b8 (by decide) (by decide) (by decide)), st.opn⟩
  · obtain ⟨c, b⟩ := row_blk (st.txn.row i hi)
    exact PS_types st.prec b (by decide) (by decide) (fun _ => ok.bbs i hi)
  · obtain ⟨c, b⟩ := (st.sucs i hi).blk
    exact (st.sucs i hi).keeps k (f b (by decide) (by decide) (by decide))

theorem PrecIs.keepsTy {pb bb nb : Nat} {nv kv wv : Value} {B : Nat → Int} {T : Option (List (Int × Int))} (p : PrecIs w pb bb nb nv kv wv tv B T) (k : Keeps S w w')
    (hS : ∀ k, S k → ∃ c t, w.heap[k]? = some (.cells c t (0, 0)) ∧ t ≠ 40 ∧ t ≠ 50 ∧ (t = 37 → ¬ k = bb)) : PrecIs w' pb bb nb nv kv wv tv B T := by
  have q : ∀ k, PS pb bb tv k → ¬ S k := fun k hk hs => by
    obtain ⟨c, t, hb, h1, h2, h3⟩ := hS k hs
    exact PS_types p hb h1 h2 h3 hk
  exact p.keeps k (q _ (.inl rfl)) (q _ (.inr (.inl rfl))) (fun j hj => q _ (.inr (.inr hj)))

/-- A store into the placement's own struct: the open choices. -/
theorem StIs.setOpen (st : StIs h d eo ov tv w) {ov' : Value} (ho : OpenIs eo ov') : StIs h d eo ov' tv (w.setCell ⟨h.qb, 1, none⟩ ov') := by
  have k : Keeps (fun k => k = h.qb) w (w.setCell ⟨h.qb, 1, none⟩ ov') := (Keeps.refl _ _).setCell _ _ (fun _ => rfl)
  obtain ⟨c1, b1⟩ := row_blk st.numb
  obtain ⟨c2, b2⟩ := st.kept.blk
  obtain ⟨c3, b3⟩ := st.plac.blk
  obtain ⟨c4, b4⟩ := st.wait.blk
  obtain ⟨c5, b5⟩ := st.mems.blk
  obtain ⟨c6, b6⟩ := st.txn.lev.blk
  obtain ⟨c7, b7⟩ := st.succ.blk
  obtain ⟨c8, b8⟩ := row_blk st.forc
  have f : ∀ {k : Nat} {c : Array Value} {t : TypeId}, w.heap[k]? = some (.cells c t (0, 0)) → t ≠ 47 → ¬ k = h.qb := fun hk ht => ne_of_types hk st.blk ht
  refine ⟨?_, st.prec.keepsTy k (fun k e => ⟨_, 47, by subst e; exact st.blk, by decide, by decide, fun e => by cases e⟩), k.row st.numb (f b1 (by decide)), st.kept.keeps k (f b2 (by decide)), st.plac.keeps k (f b3 (by decide)),
    st.wait.keeps k (f b4 (by decide)), st.mems.keeps k (f b5 (by decide)), st.txn.keeps k (f st.txn.blk (by decide)) (f b6 (by decide)) (fun i hi => ?_), st.succ.keeps k (f b7 (by decide)), fun i hi => ?_, k.row st.forc (f b8 (by decide)), ho⟩
  · have := blk_set st.blk 1 ov'
    exact this
  · obtain ⟨c, b⟩ := row_blk (st.txn.row i hi)
    exact f b (by decide)
  · obtain ⟨c, b⟩ := (st.sucs i hi).blk
    exact (st.sucs i hi).keeps k (f b (by decide))

def setP (f : Nat → Bool) (i : Nat) (v : Bool) : Nat → Bool := fun j => if j = i then v else f j

/-- A store into 'placed'. -/
theorem StIs.setPlaced (st : StIs h d eo ov tv w) (t : Nat) (v : Bool) : StIs h { d with pl := setP d.pl t v } eo ov tv (w.setCell ⟨h.plb, t, none⟩ (.bool v)) := by
  have k : Keeps (fun k => k = h.plb) w (w.setCell ⟨h.plb, t, none⟩ (.bool v)) := (Keeps.refl _ _).setCell _ _ (fun _ => rfl)
  obtain ⟨c1, b1⟩ := row_blk st.numb
  obtain ⟨c2, b2⟩ := st.kept.blk
  obtain ⟨c3, b3⟩ := st.plac.blk
  obtain ⟨c4, b4⟩ := st.wait.blk
  obtain ⟨c5, b5⟩ := st.mems.blk
  obtain ⟨c6, b6⟩ := st.txn.lev.blk
  obtain ⟨c7, b7⟩ := st.succ.blk
  obtain ⟨c8, b8⟩ := row_blk st.forc
  have f : ∀ {k : Nat} {c : Array Value} {t : TypeId}, w.heap[k]? = some (.cells c t (0, 0)) → t ≠ 4 → ¬ k = h.plb := fun hk ht => ne_of_types hk b3 ht
  refine ⟨k.at' st.blk (f st.blk (by decide)), st.prec.keepsTy k (fun k e => ⟨_, 4, by subst e; exact b3, by decide, by decide, fun e => by cases e⟩), k.row st.numb (f b1 (by decide)), st.kept.keeps k (f b2 (by decide)), (st.plac.set t _).congr fun j _ => ?_,
    st.wait.keeps k (f b4 (by decide)), st.mems.keeps k (f b5 (by decide)), st.txn.keeps k (f st.txn.blk (by decide)) (f b6 (by decide)) (fun i hi => ?_), st.succ.keeps k (f b7 (by decide)), fun i hi => ?_, k.row st.forc (f b8 (by decide)), st.opn⟩
  · simp only [setP]; split <;> rfl
  · obtain ⟨c, b⟩ := row_blk (st.txn.row i hi)
    exact f b (by decide)
  · obtain ⟨c, b⟩ := (st.sucs i hi).blk
    exact (st.sucs i hi).keeps k (f b (by decide))

/-- The part that 'release' and 'hold' speak of. -/
theorem StIs.waits (st : StIs h d eo ov tv w) : WaitIs w h.qb h.pb h.plb h.pcap h.n h.wb h.wcap h.mb h.mcap h.sb ov (.slice (some ⟨h.fb, 0, none⟩) h.nf h.nf) (.slice (some ⟨h.scb, 0, none⟩) h.n h.sccap) d.wt d.mem h.lb h.nl h.lcap h.bs h.ss d.Wd :=
  ⟨st.blk, st.wait, st.mems, st.txn⟩

/-- .. has turned. -/
theorem StIs.waited (st : StIs h d eo ov tv w) (ok : Ok h d) {wt' : Nat → Int} {Wd' : Nat → Nat → Int} (k : Keeps (WS h.wb h.bs h.nl) w w')
    (q : WaitIs w' h.qb h.pb h.plb h.pcap h.n h.wb h.wcap h.mb h.mcap h.sb ov (.slice (some ⟨h.fb, 0, none⟩) h.nf h.nf) (.slice (some ⟨h.scb, 0, none⟩) h.n h.sccap) wt' d.mem h.lb h.nl h.lcap h.bs h.ss Wd') :
    StIs h { d with wt := wt', Wd := Wd' } eo ov tv w' := by
  obtain ⟨c1, b1⟩ := row_blk st.numb
  obtain ⟨c2, b2⟩ := st.kept.blk
  obtain ⟨c3, b3⟩ := st.plac.blk
  obtain ⟨c4, b4⟩ := st.wait.blk
  obtain ⟨c7, b7⟩ := st.succ.blk
  obtain ⟨c8, b8⟩ := row_blk st.forc
  have f : ∀ {k : Nat} {c : Array Value} {t : TypeId}, w.heap[k]? = some (.cells c t (0, 0)) → t ≠ 37 → ¬ k = h.wb → ¬ WS h.wb h.bs h.nl k := by
    rintro k c t hk ht hn (e | e)
    · exact hn e
    · exact BS_type st.txn hk ht e
  have g : ∀ {k : Nat} {c : Array Value} {t : TypeId}, w.heap[k]? = some (.cells c t (0, 0)) → t ≠ 3 → ¬ k = h.wb := fun hk ht => ne_of_types hk b4 ht
  refine ⟨q.blk, st.prec.keepsTy k ?_, k.row st.numb (f b1 (by decide) ok.wn), st.kept.keeps k (f b2 (by decide) ok.wk), st.plac.keeps k (f b3 (by decide) (g b3 (by decide))), q.wait, q.mems, q.txn,
    st.succ.keeps k (f b7 (by decide) (g b7 (by decide))), fun i hi => ?_, k.row st.forc (f b8 (by decide) (g b8 (by decide))), st.opn⟩
  · rintro k (e | ⟨i, hi, e⟩)
    · subst e; exact ⟨_, 3, b4, by decide, by decide, fun e => by cases e⟩
    · subst e
      obtain ⟨c, b⟩ := row_blk (st.txn.row i hi)
      exact ⟨c, 37, b, by decide, by decide, fun _ => ok.bbs i hi⟩
  · obtain ⟨c, b⟩ := (st.sucs i hi).blk
    exact (st.sucs i hi).keeps k (f b (by decide) (ok.ws i hi))
end Go.Proofs.YbulkebqyDoor
