import Derived.Test.YbulkebqyDoorRows
import Derived.WalkKit
import Derived.ProofKit
import Derived.OpenShut
import Derived.WalkLawsBesides
import Derived.Deep.OwnRows
import Derived.Handy
import Derived.Deep.RegionLaw
import Derived.BigRegion
import Derived.Deep.DeepMust
import Derived.Deep.LoopGhost
import Derived.Deep.QuietTactic
import Derived.BigQuiet
import Derived.Deep.RegionWith
import Derived.Deep.RegionHeld3
namespace Go.Proofs.YbulkebqyDoor
open Go.RowKit Go.Deep

/-- All blocks of w but those in S are in w' as they were. -/
structure Keeps (S : Nat → Prop) (w w' : World) : Prop where
  os : w'.os = w.os
  tape : w'.tape = w.tape
  output : w'.output = w.output
  size : w.heap.size ≤ w'.heap.size
  block : ∀ k, k < w.heap.size → ¬ S k → w'.heap[k]? = w.heap[k]?

theorem hid {p : Prop} (h : p) : Hid p := h

namespace Keeps
variable {S S' : Nat → Prop} {w w' w'' : World}
theorem refl (S : Nat → Prop) (w : World) : Keeps S w w := ⟨rfl, rfl, rfl, Nat.le_refl _, fun _ _ _ => rfl⟩
theorem mono (h : Keeps S w w') (hs : ∀ k, k < w.heap.size → S k → S' k) : Keeps S' w w' :=
  ⟨h.os, h.tape, h.output, h.size, fun k hk hn => h.block k hk (fun hS => hn (hs k hk hS))⟩
theorem trans (h : Keeps S w w') (k : Keeps S' w' w'') (hs : ∀ k, k < w.heap.size → S' k → S k) : Keeps S w w'' :=
  ⟨k.os.trans h.os, k.tape.trans h.tape, k.output.trans h.output, Nat.le_trans h.size k.size, fun i hi hn =>
    (k.block i (Nat.lt_of_lt_of_le hi h.size) (fun hS => hn (hs i hi hS))).trans (h.block i hi hn)⟩
theorem drew (h : Keeps S w w') : Keeps S w w'.drew := ⟨h.os, h.tape, h.output, h.size, h.block⟩
theorem drewN (h : Keeps S w w') (n : Nat) : Keeps S w (w'.drewN n) := ⟨h.os, h.tape, h.output, h.size, h.block⟩
theorem alloc (h : Keeps S w w') (o : Obj) : Keeps S w (w'.alloc o) :=
  ⟨h.os, h.tape, h.output, by rw [nblk_alloc]; have := h.size; omega, fun k hk hn => (blk_alloc_lt _ _ _ (Nat.lt_of_lt_of_le hk h.size)).trans (h.block k hk hn)⟩
theorem setCell (h : Keeps S w w') (a : Addr) (v : Value) (hs : a.block < w.heap.size → S a.block) : Keeps S w (w'.setCell a v) :=
  ⟨h.os, h.tape, h.output, by rw [nblk_setCell]; exact h.size, fun k hk hn => (blk_setCell_other _ _ _ _ (fun e => hn (by subst e; exact hs hk))).trans (h.block k hk hn)⟩
theorem grown {row : Option Nat} (h : Keeps S w w') (hg : w'.grownBy w'' row) (hs : ∀ k, row = some k → k < w.heap.size → S k) : Keeps S w w'' :=
  ⟨hg.os.trans h.os, hg.tape.trans h.tape, hg.output.trans h.output, Nat.le_trans h.size hg.size, fun k hk hn =>
    (hg.block k (Nat.lt_of_lt_of_le hk h.size) (fun e => hn (hs k e.symm hk))).trans (h.block k hk hn)⟩
theorem below {B : Nat} (h : Keeps S w w') (hs : ∀ k, S k → B ≤ k) (hB : B ≤ w.heap.size) : Below B w w' :=
  ⟨h.os, h.tape, h.output, h.size, fun k hk => h.block k (by omega) (fun hS => by have := hs k hS; omega)⟩
theorem at' (h : Keeps S w w') {k : Nat} {o : Obj} (hk : w.heap[k]? = some o) (hn : ¬ S k) : w'.heap[k]? = some o := by
  rw [h.block k (by obtain ⟨hlt, _⟩ := Array.getElem?_eq_some_iff.1 hk; exact hlt) hn, hk]
theorem row (h : Keeps S w w') {b n : Nat} {t : TypeId} {f : Nat → Value} (hr : w.rowIs b t n f) (hn : ¬ S b) : w'.rowIs b t n f :=
  hr.of_block (h.block b hr.lt hn)
end Keeps

/-- A block written out: its cells and its element type. -/
theorem cell_of_blk {w : World} {b : Nat} {c : Array Value} {t : TypeId} (h : w.heap[b]? = some (.cells c t (0, 0))) (i : Nat) : w.cell? ⟨b, i, none⟩ = c[i]? := by
  simp [World.cell?, h]
theorem frozen_of_blk {w : World} {b : Nat} {c : Array Value} {t : TypeId} (h : w.heap[b]? = some (.cells c t (0, 0))) (i : Nat) : w.frozen? ⟨b, i, none⟩ = false := by
  simp [World.frozen?, h]
theorem lt_of_blk {w : World} {b : Nat} {o : Obj} (h : w.heap[b]? = some o) : b < w.heap.size := by
  obtain ⟨hlt, _⟩ := Array.getElem?_eq_some_iff.1 h; exact hlt
theorem blk_set {w : World} {b : Nat} {c : Array Value} {t : TypeId} (h : w.heap[b]? = some (.cells c t (0, 0))) (i : Nat) (v : Value) :
    (w.setCell ⟨b, i, none⟩ v).heap[b]? = some (.cells (c.setIfInBounds i v) t (0, 0)) := by
  simp [World.setCell, Array.getElem?_modify, h]

/-- 'run_append_own', with one word more: the row that is left is the old one or a new one. -/
theorem run_append_own' {P : Program} (w : World) (base : Nat) (t ty e : TypeId) (i : TypeInfo) (z : Value) (size bytes : Nat) (ht : P.underlying t = some (.slice e)) (hi : P.info? e = some i) (hz : i.zero = some z)
    (hsize : i.size = size) (hby : i.bytes = bytes) (hzs : z.cells.size = size) (hsz : 0 < size)
    (v : Value) (n : Nat) (xs : List Value) (hown : w.ownsRow base e size v n xs)
    (a : Addr) (m c : Nat) (news : List Value) (hl : news.length = m * size) (hnews : ∀ j u, news[j]? = some u → w.cell? (a.add j) = some u) (h1 : ∀ u ∈ news, u.oneCell' = true)
    (h63 : n + m ≤ maxLen) (hbytes : (n + m) * bytes ≤ 140737488355328) (hbase : base ≤ w.heap.size) :
    ∃ v' w', (Builtin.append_ #[t, t] ty #[v, .slice (some a) m c]).run P w = .ok v' w' ∧ w'.ownsRow base e size v' (n + m) (xs ++ news) ∧ w.grownBy w' v.ownBlock ∧
      (v' = .slice none 0 0 ↔ v = .slice none 0 0 ∧ m = 0) ∧ (∀ k, v'.ownBlock = some k → v.ownBlock = some k ∨ w.heap.size ≤ k) := by
  obtain ⟨v', w', hr, h2, h3, h4⟩ := run_append_own (P := P) w base t ty e i z size bytes ht hi hz hsize hby hzs hsz v n xs hown a m c news hl hnews h1 h63 hbytes hbase
  refine ⟨v', w', hr, h2, h3, h4, ?_⟩
  subst hsize
  subst hby
  have hsmall : n + m ≤ 9223372036854775807 := by simp only [maxLen] at h63; omega
  rcases hown.2 with ⟨rfl, rfl⟩ | ⟨g, cap, cur, rfl, hbg, hg, hnc, hcm, hcs, htake⟩
  · by_cases hm : m = 0
    · have := h4.2 ⟨rfl, hm⟩
      subst this
      intro k hk
      simp [Value.ownBlock] at hk
    · have hr2 := run_append_nil (P := P) w t ty e i z ht hi hz a m c news hl hnews (by omega) (by omega) (by have hb := hbytes; simp only [Nat.zero_add] at hb; omega)
      rw [hr] at hr2
      simp only [Result.ok.injEq] at hr2
      obtain ⟨rfl, _⟩ := hr2
      intro k hk
      simp [Value.ownBlock] at hk
      exact .inr (by omega)
  · by_cases hroom : n + m ≤ cap
    · have hfit : n * i.size + news.length ≤ cur.size := by rw [hl, hcs, ← Nat.add_mul]; exact Nat.mul_le_mul_right _ hroom
      have hr2 := run_append_room (P := P) w t ty e i ht hi g n cap cur hg a m c news hl hnews h1 hroom hfit
      rw [hr] at hr2
      simp only [Result.ok.injEq] at hr2
      obtain ⟨rfl, _⟩ := hr2
      intro k hk
      exact .inl hk
    · have holds : ∀ j u, xs[j]? = some u → w.cell? ((⟨g, 0, none⟩ : Addr).add j) = some u := hown.cells (g := g) rfl
      have hr2 := run_append_grow (P := P) w t ty e i z ht hi hz ⟨g, 0, none⟩ n cap xs hown.1 holds a m c news hl hnews (by omega) (by omega) (growslice_fits (by omega) hbytes)
      rw [hr] at hr2
      simp only [Result.ok.injEq] at hr2
      obtain ⟨rfl, _⟩ := hr2
      intro k hk
      simp [Value.ownBlock] at hk
      exact .inr (by omega)

/-- 'append' to a row of the call's own, as one step of a region that draws its order (the fellow of the kit's step laws, off 'run_append_own'). -/
theorem step_append_own {P : Program} {ops : Array Oper} {o : Oper} {a : Act} {w : World} {K : Act → World → Prop} {Q : Exit → Act → World → Prop} {E : Prop}
    (hg : o.guard = none) (s x : Operand) (t : TypeId) (hop : o.op = Op.call { callee := Callee.builtin Builtin.append, args := #[s, x], argTypes := #[t, t] })
    (base : Nat) (e : TypeId) (i : TypeInfo) (z : Value) (size bytes : Nat) (h1 : P.underlying t = some (.slice e)) (h2 : P.info? e = some i) (h3 : i.zero = some z) (h4 : i.size = size) (h5 : i.bytes = bytes) (h6 : z.cells.size = size) (h7 : 0 < size)
    (v : Value) (n : Nat) (xs : List Value) (hs : a.eval s = v) (hown : w.ownsRow base e size v n xs)
    (ad : Addr) (m c : Nat) (news : List Value) (hx : a.eval x = .slice (some ad) m c) (hn : news.length = m * size) (hc : ∀ j u, news[j]? = some u → w.cell? (ad.add j) = some u) (h1c : ∀ u ∈ news, u.oneCell' = true)
    (b1 : n + m ≤ maxLen) (b2 : (n + m) * bytes ≤ 140737488355328) (hbase : base ≤ w.heap.size)
    (hK : ∀ v' w', w'.ownsRow base e size v' (n + m) (xs ++ news) → w.grownBy w' v.ownBlock → (v' = .slice none 0 0 ↔ v = .slice none 0 0 ∧ m = 0) → (∀ k, v'.ownBlock = some k → v.ownBlock = some k ∨ w.heap.size ≤ k) → K (a.put o.dst v') w') :
    if Region.wanted o (yielded ops a.tmps) = true then Oper.wp P o a w K Q else E := by
  have hw : Region.wanted o (yielded ops a.tmps) = true := by simp [Region.wanted, hg]
  rw [if_pos hw]
  obtain ⟨v', w', hr, h2', h3', h4', h5'⟩ := run_append_own' (P := P) w base t o.type e i z size bytes h1 h2 h3 h4 h5 h6 h7 v n xs hown ad m c news hn hc h1c b1 b2 hbase
  unfold Oper.wp execOp
  simp only [hop, resolve, invoke, builtin, Sem.run_bind, Sem.run_pure, Result.andThen_ok, List.map_toArray, List.map_cons, List.map_nil, hs, hx, hr]
  exact hK v' w' h2' h3' h4' h5'

/-- .. and outside such a region. -/
theorem wpList_append_own' {P : Program} (w : World) {ops : Array Oper} {rest : List Oper} {o : Oper} {a : Act} {Q : Exit → Act → World → Prop} (hgd : o.guard = none) (s x : Operand) (t : TypeId)
    (ho : o.op = .call { callee := .builtin .append, args := #[s, x], argTypes := #[t, t] })
    (base : Nat) (e : TypeId) (i : TypeInfo) (z : Value) (size bytes : Nat) (ht : P.underlying t = some (.slice e)) (hi : P.info? e = some i) (hz : i.zero = some z)
    (hsize : i.size = size) (hby : i.bytes = bytes) (hzs : z.cells.size = size) (hsz : 0 < size)
    (v : Value) (n : Nat) (xs : List Value) (hs : a.eval s = v) (hown : w.ownsRow base e size v n xs)
    (ad : Addr) (m c : Nat) (news : List Value) (hx : a.eval x = .slice (some ad) m c) (hl : news.length = m * size) (hnews : ∀ j u, news[j]? = some u → w.cell? (ad.add j) = some u) (h1 : ∀ u ∈ news, u.oneCell' = true)
    (h63 : n + m ≤ maxLen) (hbytes : (n + m) * bytes ≤ 140737488355328) (hbase : base ≤ w.heap.size)
    (h : ∀ v' w', w'.ownsRow base e size v' (n + m) (xs ++ news) → w.grownBy w' v.ownBlock → (v' = .slice none 0 0 ↔ v = .slice none 0 0 ∧ m = 0) → (∀ k, v'.ownBlock = some k → v.ownBlock = some k ∨ w.heap.size ≤ k) → wpList P ops Q rest (a.put o.dst v') w') : wpList P ops Q (o :: rest) a w := by
  refine wpList_plain hgd fun _ hK => ?_
  obtain ⟨v', w', hr, h2', h3', h4', h5'⟩ := run_append_own' (P := P) w base t o.type e i z size bytes ht hi hz hsize hby hzs hsz v n xs hown ad m c news hl hnews h1 h63 hbytes hbase
  unfold Oper.wp execOp
  simp only [ho, resolve, invoke, builtin, Sem.run_bind, Sem.run_pure, Result.andThen_ok, List.map_toArray, List.map_cons, List.map_nil, hs, hx, hr]
  exact hK _ _ (h v' w' h2' h3' h4' h5')
end Go.Proofs.YbulkebqyDoor
