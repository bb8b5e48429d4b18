import Derived.Test.YbulkebqyDoorRoll
import Derived.Test.YbulkebqyDoorPlace
namespace Go.Proofs.YbulkebqyDoor
open Go.RowKit Go.Deep Go.Shelf

attribute [local go_sem] Oper.semAt_some

theorem add_st (h : Sh) (d : Dt) (eo : Bool) (ov tv : Value) (w : World) (st : StIs h d eo ov tv w) (ok : Ok h d) (m : Nat) (x : Int) (hx : x = (m : Int)) (hm : m < h.n) :
    Calls Ybad.prog 28 #[.pointer (some ⟨h.sb, 0, none⟩), .int .i64 x] w fun e w' => e = .returned (.tuple #[]) ∧
      StIs h { d with wt := d.wt, Wd := addW h.nl 0 m d.Wd } eo ov tv w' ∧ Keeps (WS h.wb h.bs h.nl) w w' := by
  have := ok.n2
  refine (add_any h.sb h.lb h.nl h.lcap m h.bs h.ss d.Wd x w st.txn hx (by omega) ok.nl1 (ok.fit m hm)).mono ?_
  rintro e w' ⟨rfl, hT, hK⟩
  exact ⟨rfl, st.waited ok (hK.mono fun k _ => WS_of_BS k) (st.waits.worded hK hT), hK.mono fun k _ => WS_of_BS k⟩

/-- Counts and words behind c holds. -/
def holdSt (nl : Nat) (mem : Nat → Nat) (us : Nat → Nat) (s : (Nat → Int) × (Nat → Nat → Int)) : Nat → (Nat → Int) × (Nat → Nat → Int)
  | 0 => s
  | c + 1 => let s' := holdSt nl mem us s c; (setI s'.1 (us c) (wrap64 (s'.1 (us c) + 1)), holdW nl s'.1 mem s'.2 (us c))

/-- A store of what is there turns nothing. -/
theorem keeps_same {w : World} {b i : Nat} {c : Array Value} {t : TypeId} {v : Value} (h : w.heap[b]? = some (.cells c t (0, 0))) (hv : c.setIfInBounds i v = c) : Keeps (fun _ => False) w (w.setCell ⟨b, i, none⟩ v) := by
  have k : Keeps (fun k => k = b) w (w.setCell ⟨b, i, none⟩ v) := (Keeps.refl _ _).setCell _ _ (fun _ => rfl)
  refine ⟨k.os, k.tape, k.output, k.size, fun j hj _ => ?_⟩
  by_cases e : j = b
  · subst e
    rw [blk_set h, hv, h]
  · exact k.block j hj e
theorem ne_of_def {w : World} {D k : Nat} {x : Option (List Deferred)} {c : Array Value} {t : TypeId} (h : w.heap[D]? = some (.deferred x)) (h' : w.heap[k]? = some (.cells c t (0, 0))) : ¬ D = k := by
  rintro rfl
  rw [h] at h'
  simp at h'

set_option maxHeartbeats 1000000 in
theorem backward26 (n : Nat) (a : Option Addr) (len cap : Nat) (w : World) :
    CallsIn Fence.wide n Ybad.prog 26 #[.slice a len cap] w fun e w' => e = .returned (.func (.func 36) #[] #[.pointer (some ⟨w.heap.size, 0, none⟩)]) ∧ w' = w.alloc (.cells #[.slice a len cap] 43) := by
  refine callsIn_of_wp Ybad.func26 rfl trivial ?_ rfl
  simp only [Ybad.ntmps26, List.size_toArray, List.length_cons, List.length_nil, Nat.reduceAdd, Nat.reduceSub, Array.replicate_succ, Array.replicate_zero, List.push_toArray, List.append_toArray, List.nil_append, List.cons_append]
  gi_wp2
  go_ret
  exact ⟨rfl, rfl⟩

set_option maxRecDepth 100000 in
set_option maxHeartbeats 2000000 in
/-- slices.Backward's closure at an empty slice: no round. -/
theorem back36 (n l Bs cap : Nat) (a : Option Addr) (J : List Empty → World → Prop) (W : World) (hBs : W.cell? ⟨Bs, 0, none⟩ = some (.slice a 0 cap)) (h0 : J [] W) :
    CallsIn Fence.wide n Ybad.prog 36 #[.func (.yield l) #[] #[], .pointer (some ⟨Bs, 0, none⟩)] W fun e W' => (∃ v, e = .returned v) ∧ J [] W' := by
  refine callsIn_of_wp Ybad.func36 rfl trivial ?_ rfl
  simp only [Ybad.ntmps36, List.size_toArray, List.length_cons, List.length_nil, Nat.reduceAdd, Nat.reduceSub, Array.replicate_succ, Array.replicate_zero, List.push_toArray, List.append_toArray, List.nil_append, List.cons_append]
  gi_wp2
  gi_loopw [3] (fun i wr => i = .int .i64 (-1) ∧ J [] wr) (fun _ _ => 0)
  case atStart => exact ⟨rfl, h0⟩
  case round =>
    obtain ⟨rfl, hJs⟩ := hrel
    gi_wp2
    go_end0
    exact ⟨⟨_, rfl⟩, hJs⟩
theorem back36_stops (n Bs cap : Nat) (a : Option Addr) (w : World) (hBn : Bs < w.heap.size) (hBs : w.cell? ⟨Bs, 0, none⟩ = some (.slice a 0 cap)) :
    SeqStopsK Fence.wide n Ybad.prog 36 #[.pointer (some ⟨Bs, 0, none⟩)] (fun _ : Empty => #[]) (fun _ _ => True) (fun ys => ys = []) (fun _ => False) 0 w := fun l J Jx W hW _ _ hY h0 => by
  exact (back36 n l Bs cap a J W ((hW.cell (p := ⟨Bs, 0, none⟩) hBn).trans hBs) h0).mono fun e W' ⟨he, hj⟩ => ⟨he, .inl ⟨_, rfl, hj⟩⟩
end Go.Proofs.YbulkebqyDoor
