import Derived.Test.YbulkebqyDoorState
namespace Go.Proofs.YbulkebqyDoor
open Go.RowKit Go.Deep

theorem place_no (h : Sh) (d : Dt) (eo : Bool) (ov tv : Value) (w : World) (st : StIs h d eo ov tv w) (t : Nat) (x : Int) (hx : x = (t : Int)) (ht : t < h.n) (hw : 0 < d.wt t) :
    Calls Ybad.prog 9 #[.pointer (some ⟨h.qb, 0, none⟩), .int .i64 x] w fun e w' => e = .returned (.tuple #[.agg #[.int .i64 0, .int .i64 0, .int .i64 0, .slice none 0 0], .bool false]) ∧ Keeps (fun _ => False) w w' := by
  subst hx
  have c5 : w.cell? ⟨h.qb, 5, none⟩ = some (.slice (some ⟨h.wb, 0, none⟩) h.n h.wcap) := by rw [cell_of_blk st.blk]; rfl
  have cw : w.cell? ⟨h.wb, t, none⟩ = some (.int .i64 (d.wt t)) := st.wait.cell ht
  have lq := lt_of_blk st.blk
  have lw := st.wait.lt
  clear st
  go_enter Ybad.func9, Ybad.ntmps9
  go_wp2
  go_returns
  exact ⟨rfl, (Keeps.refl _ _).alloc _⟩

/-- The trail's slice: how long it is. -/
theorem trail_shape {w : World} {tv : Value} {T : Option (List (Int × Int))} (h : TrailIs w tv T) : ∃ a c, tv = .slice a (trailLen T) c := by
  cases T with
  | none => exact ⟨none, 0, h⟩
  | some l =>
    obtain ⟨g, cap, cur, rfl, hg⟩ := owns_shape h.1 h.2
    exact ⟨_, _, rfl⟩

/-- What 'place t' makes of the data: the precedence. -/
def putSt (h : Sh) (d : Dt) (t : Nat) : (Nat → Int) × Option (List (Int × Int)) := if d.num t < 0 then (d.B, d.T) else joinSt (restSt (d.num t).toNat d.pl d.kept h.K) ((d.num t).toNat * h.W) (d.B, d.T) h.W
theorem putFirst_none (pb bb nb nbk n t : Nat) (kv wv tv pv : Value) (B : Nat → Int) (T : Option (List (Int × Int))) (z x : Int) (w : World)
    (h : PrecIs w pb bb nb (.slice (some ⟨nbk, 0, none⟩) n n) kv wv tv B T) (cn : w.cell? ⟨nbk, t, none⟩ = some (.int .i64 z)) (hz : z < 0) (hx : x = (t : Int)) (ht : t < n) :
    Calls Ybad.prog 15 #[.pointer (some ⟨pb, 0, none⟩), .int .i64 x, pv] w fun e w' => e = .returned (.tuple #[]) ∧ w' = w := by
  subst hx
  have c0 : w.cell? ⟨pb, 0, none⟩ = some (.slice (some ⟨nbk, 0, none⟩) n n) := by rw [cell_of_blk h.blk]; rfl
  clear h
  go_enter Ybad.func15, Ybad.ntmps15
  go_wp2
  go_returns
  exact ⟨rfl, rfl⟩

theorem putFirst_st (h : Sh) (d : Dt) (eo : Bool) (ov tv : Value) (w : World) (st : StIs h d eo ov tv w) (ok : Ok h d) (t : Nat) (x : Int) (hx : x = (t : Int)) (ht : t < h.n) (hT : trailLen d.T ≤ 2000000) (hnum : d.num t < h.K) :
    Calls Ybad.prog 15 #[.pointer (some ⟨h.pb, 0, none⟩), .int .i64 x, .slice (some ⟨h.plb, 0, none⟩) h.n h.pcap] w fun e w' => e = .returned (.tuple #[]) ∧
      ∃ tv', StIs h { d with B := (putSt h d t).1, T := (putSt h d t).2 } eo ov tv' w' ∧ Keeps (PS h.pb h.bb tv) w w' ∧ (∀ k, tv'.ownBlock = some k → tv.ownBlock = some k ∨ w.heap.size ≤ k) := by
  have cn := st.numb.cell ht
  by_cases hz : d.num t < 0
  · refine (putFirst_none h.pb h.bb h.nb h.nbk h.n t _ _ tv _ d.B d.T _ x w st.prec cn hz hx ht).mono ?_
    rintro e w' ⟨rfl, rfl⟩
    refine ⟨rfl, tv, ?_, Keeps.refl _ _, fun k hk => .inl hk⟩
    simp only [putSt, if_pos hz]
    exact st
  · obtain ⟨k, hk⟩ := Int.eq_ofNat_of_zero_le (Int.not_lt.1 hz)
    have hkK : k < h.K := by omega
    rw [hk] at cn
    refine (putFirst_any h.pb h.bb h.nb h.nbk h.kb h.kcap h.n h.K h.W h.plb h.pcap k t tv d.B d.T d.kept d.pl x w st.prec cn st.kept st.plac hx ht hkK ok.kep ok.K1 ok.K2 ok.W1 ok.nbe (by omega)).mono ?_
    rintro e w' ⟨rfl, tv', hp, hk', hn⟩
    refine ⟨rfl, tv', ?_, hk', hn⟩
    have e : putSt h d t = joinSt (restSt k d.pl d.kept h.K) (k * h.W) (d.B, d.T) h.W := by
      rw [putSt, if_neg hz, hk, Int.toNat_natCast]
    rw [e]
    exact st.put ok hk' hp

theorem WS_of_BS {wb nl : Nat} {bs : Nat → Nat} : ∀ k, BS bs nl k → WS wb bs nl k := fun _ h => .inr h

theorem remove_st (h : Sh) (d : Dt) (eo : Bool) (ov tv : Value) (w : World) (st : StIs h d eo ov tv w) (ok : Ok h d) (m : Nat) (x : Int) (hx : x = (m : Int)) (hm : m < h.n) :
    Calls Ybad.prog 19 #[.pointer (some ⟨h.sb, 0, none⟩), .int .i64 x] w fun e w' => e = .returned (.tuple #[]) ∧
      StIs h { d with wt := d.wt, Wd := remW h.nl 0 m d.Wd } eo ov tv w' ∧ Keeps (WS h.wb h.bs h.nl) w w' := by
  have := ok.n2
  refine (remove_any h.sb h.lb h.nl h.lcap m h.bs h.ss d.Wd x w st.txn hx (by omega) ok.nl1 (ok.fit m hm)).mono ?_
  rintro e w' ⟨rfl, hT, hK⟩
  exact ⟨rfl, st.waited ok (hK.mono fun k _ => WS_of_BS k) (st.waits.worded hK hT), hK.mono fun k _ => WS_of_BS k⟩

theorem release_st (h : Sh) (d : Dt) (eo : Bool) (ov tv : Value) (w : World) (st : StIs h d eo ov tv w) (ok : Ok h d) (u : Nat) (x : Int) (hx : x = (u : Int)) (hu : u < h.n) :
    Calls Ybad.prog 20 #[.pointer (some ⟨h.qb, 0, none⟩), .int .i64 x] w fun e w' => e = .returned (.tuple #[]) ∧
      StIs h { d with wt := setI d.wt u (wrap64 (d.wt u - 1)), Wd := relW h.nl d.wt d.mem d.Wd u } eo ov tv w' ∧ Keeps (WS h.wb h.bs h.nl) w w' := by
  have := ok.n2
  have := ok.mem u hu
  refine (release_any h.qb h.pb h.plb h.pcap h.n h.wb h.wcap h.mb h.mcap h.sb ov _ _ d.wt d.mem h.lb h.nl h.lcap h.bs h.ss d.Wd u x w st.waits ok.wm hx hu ok.nl1 (by omega) (ok.fit _ (ok.mem u hu))).mono ?_
  rintro e w' ⟨rfl, hW, hK⟩
  exact ⟨rfl, st.waited ok hK hW, hK⟩

theorem hold_st (h : Sh) (d : Dt) (eo : Bool) (ov tv : Value) (w : World) (st : StIs h d eo ov tv w) (ok : Ok h d) (u : Nat) (x : Int) (hx : x = (u : Int)) (hu : u < h.n) :
    Calls Ybad.prog 27 #[.pointer (some ⟨h.qb, 0, none⟩), .int .i64 x] w fun e w' => e = .returned (.tuple #[]) ∧
      StIs h { d with wt := setI d.wt u (wrap64 (d.wt u + 1)), Wd := holdW h.nl d.wt d.mem d.Wd u } eo ov tv w' ∧ Keeps (WS h.wb h.bs h.nl) w w' := by
  have := ok.n2
  have := ok.mem u hu
  refine (hold_any h.qb h.pb h.plb h.pcap h.n h.wb h.wcap h.mb h.mcap h.sb ov _ _ d.wt d.mem h.lb h.nl h.lcap h.bs h.ss d.Wd u x w st.waits ok.wm hx hu ok.nl1 (by omega) (ok.fit _ (ok.mem u hu))).mono ?_
  rintro e w' ⟨rfl, hW, hK⟩
  exact ⟨rfl, st.waited ok hK hW, hK⟩

theorem force_st (p q : Value) (eo : Bool) (ov : Value) (w : World) (ho : OpenIs eo ov) :
    Calls Ybad.prog 16 #[p, ov, q] w fun e w' => ∃ ov', OpenIs eo ov' ∧ e = .returned (.tuple #[ov', .bool true]) ∧ Keeps (fun _ => False) w w' := by
  rcases ho with ⟨rfl, a, c, rfl⟩ | ⟨rfl, rfl⟩
  · refine (force_some p q a c w).mono ?_
    rintro e w' ⟨g, cap, rfl, hk⟩
    exact ⟨_, .inl ⟨rfl, _, _, rfl⟩, rfl, hk⟩
  · refine (force_nil p q w).mono ?_
    rintro e w' ⟨rfl, rfl⟩
    exact ⟨_, .inr ⟨rfl, rfl⟩, rfl, Keeps.refl _ _⟩

/-- .. counts and words behind c releases. -/
def relSt (nl : Nat) (mem : Nat → Nat) (us : Nat → Nat) (s : (Nat → Int) × (Nat → Nat → Int)) : Nat → (Nat → Int) × (Nat → Nat → Int)
  | 0 => s
  | c + 1 => let s' := relSt nl mem us s c; (setI s'.1 (us c) (wrap64 (s'.1 (us c) - 1)), relW nl s'.1 mem s'.2 (us c))

/-- Blocks of a type that no part of the placement has may have turned. -/
theorem StIs.other {h : Sh} {d : Dt} {eo : Bool} {ov tv : Value} {w w' : World} {S : Nat → Prop} (st : StIs h d eo ov tv w) (k : Keeps S w w')
    (hS : ∀ k, S k → ∃ c, w.heap[k]? = some (.cells c 52 (0, 0))) : StIs h d eo ov tv w' := by
  have f : ∀ {k : Nat} {c : Array Value} {t : TypeId}, w.heap[k]? = some (.cells c t (0, 0)) → t ≠ 52 → ¬ S k := fun hk ht hs => by
    obtain ⟨c, hc⟩ := hS _ hs
    exact ne_of_types hk hc ht rfl
  obtain ⟨c1, b1⟩ := row_blk st.numb
  obtain ⟨c2, b2⟩ := st.kept.blk
  obtain ⟨c3, b3⟩ := st.plac.blk
  obtain ⟨c4, b4⟩ := st.wait.blk
  obtain ⟨c5, b5⟩ := st.mems.blk
  obtain ⟨c6, b6⟩ := st.txn.lev.blk
  obtain ⟨c7, b7⟩ := st.succ.blk
  obtain ⟨c8, b8⟩ := row_blk st.forc
  refine ⟨k.at' st.blk (f st.blk (by decide)), st.prec.keepsTy k (fun k e => ?_), k.row st.numb (f b1 (by decide)), st.kept.keeps k (f b2 (by decide)), st.plac.keeps k (f b3 (by decide)),
    st.wait.keeps k (f b4 (by decide)), st.mems.keeps k (f b5 (by decide)), st.txn.keeps k (f st.txn.blk (by decide)) (f b6 (by decide)) (fun i hi => ?_), st.succ.keeps k (f b7 (by decide)), fun i hi => ?_, k.row st.forc (f b8 (by decide)), st.opn⟩
  · obtain ⟨c, hc⟩ := hS k e
    exact ⟨c, 52, hc, by decide, by decide, fun e => by cases e⟩
  · obtain ⟨c, b⟩ := row_blk (st.txn.row i hi)
    exact f b (by decide)
  · obtain ⟨c, b⟩ := (st.sucs i hi).blk
    exact (st.sucs i hi).keeps k (f b (by decide))

theorem keeps4 (w : World) (R : Nat) (a b c e : Value) : Keeps (fun k => k = R) w ((((w.setCell ⟨R, 0, none⟩ a).setCell ⟨R, 1, none⟩ b).setCell ⟨R, 2, none⟩ c).setCell ⟨R, 3, none⟩ e) := by
  have k0 : Keeps (fun k => k = R) w w := Keeps.refl _ _
  have k1 := k0.setCell ⟨R, 0, none⟩ a (fun _ => rfl)
  have k2 := k1.setCell ⟨R, 1, none⟩ b (fun _ => rfl)
  have k3 := k2.setCell ⟨R, 2, none⟩ c (fun _ => rfl)
  exact k3.setCell ⟨R, 3, none⟩ e (fun _ => rfl)

/-- What 'place t' makes of the data. -/
def placed (h : Sh) (d : Dt) (t : Nat) : Dt :=
  { d with B := (putSt h d t).1, T := (putSt h d t).2, pl := setP d.pl t true, wt := (relSt h.nl d.mem (d.suc t) (d.wt, remW h.nl 0 (d.mem t) d.Wd) (h.sl t)).1, Wd := (relSt h.nl d.mem (d.suc t) (d.wt, remW h.nl 0 (d.mem t) d.Wd) (h.sl t)).2 }
/-- The blocks that it may write. -/
def PlS (h : Sh) (tv : Value) (k : Nat) : Prop := PS h.pb h.bb tv k ∨ k = h.qb ∨ k = h.plb ∨ WS h.wb h.bs h.nl k

/-- The places' facts hang on none of what is written. -/
theorem Ok.any {h : Sh} {d : Dt} (ok : Ok h d) (B : Nat → Int) (T : Option (List (Int × Int))) (pl : Nat → Bool) (wt : Nat → Int) (Wd : Nat → Nat → Int) : Ok h { d with B := B, T := T, pl := pl, wt := wt, Wd := Wd } := { ok with }

theorem open_shape {eo : Bool} {ov : Value} (h : OpenIs eo ov) : ∃ a c, ov = .slice a 0 c := by
  rcases h with ⟨_, a, c, rfl⟩ | ⟨_, rfl⟩
  · exact ⟨_, _, rfl⟩
  · exact ⟨_, _, rfl⟩
end Go.Proofs.YbulkebqyDoor
