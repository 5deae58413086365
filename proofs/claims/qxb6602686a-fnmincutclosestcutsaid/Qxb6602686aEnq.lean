import Derived.Test.Qxb6602686aLowest
namespace Go.Proofs.Qxb6602686a
open Go.RowKit

/-- is v put into the queue -/
def enqB (s t v : Nat) (qd : Nat → Bool) : Bool := !qd v && decide (v ≠ s) && decide (v ≠ t)
/-- the boxes that the closure captures -/
structure Box (w : World) (N : Net) (bq bs bt gq : Nat) : Prop where
  cq : w.cell? ⟨bq, 0, none⟩ = some (.slice (some ⟨gq, 0, none⟩) N.V N.V)
  cs : w.cell? ⟨bs, 0, none⟩ = some (.int .i64 (N.s : Nat))
  ct : w.cell? ⟨bt, 0, none⟩ = some (.int .i64 (N.t : Nat))
theorem Box.chg {w w' : World} {N : Net} {bq bs bt gq : Nat} {S : Nat → Prop} (h : Box w N bq bs bt gq) (hc : Chg w w' S) (h1 : ¬ S bq) (h2 : ¬ S bs) (h3 : ¬ S bt) : Box w' N bq bs bt gq :=
  ⟨by rw [World.cell?_of_block (w := w) (hc.block _ (block_lt_of_cell h.cq) h1)]; exact h.cq, by rw [World.cell?_of_block (w := w) (hc.block _ (block_lt_of_cell h.cs) h2)]; exact h.cs,
    by rw [World.cell?_of_block (w := w) (hc.block _ (block_lt_of_cell h.ct) h3)]; exact h.ct⟩
/-- what the closure turns: the row of marks, the queue's box, the queue -/
structure QSt (w : World) (N : Net) (gq bQ : Nat) (x : Value) (qd : Nat → Bool) (q : List Nat) : Prop where
  row : w.rowIs gq 4 N.V (fun v => .bool (qd v))
  box : w.rowIs bQ 30 1 (fun _ => x)
  que : Que w x q
  ne : gq ≠ bQ
  own : ∀ g, x.ownBlock = some g → g ≠ gq ∧ g ≠ bQ
def EnqPost (w w' : World) (N : Net) (gq bQ : Nat) (x : Value) (qd : Nat → Bool) (q : List Nat) (v : Nat) (e : Ending) : Prop :=
  ∃ r x', e = .returned r ∧ QSt w' N gq bQ x' (fun u => if enqB N.s N.t v qd = true ∧ u = v then true else qd u) (if enqB N.s N.t v qd = true then q ++ [v] else q) ∧
    (∀ g, x'.ownBlock = some g → x.ownBlock = some g ∨ w.heap.size ≤ g) ∧ Chg w w' (fun k => k = gq ∨ k = bQ ∨ x.ownBlock = some k)

set_option maxHeartbeats 4000000 in
set_option maxRecDepth 100000 in
theorem enq_any (N : Net) (sz : NetSz N) (bq bs bt gq bQ : Nat) (x : Value) (qd : Nat → Bool) (q : List Nat) (v : Nat) (w : World) (hv : v < N.V) (hb : Box w N bq bs bt gq) (hq : QSt w N gq bQ x qd q) (hl : q.length ≤ 1048576) :
    Calls Try.prog 28 #[.int .i64 (v : Nat), .pointer (some ⟨bq, 0, none⟩), .pointer (some ⟨bs, 0, none⟩), .pointer (some ⟨bt, 0, none⟩), .pointer (some ⟨bQ, 0, none⟩)] w fun e w' => EnqPost w w' N gq bQ x qd q v e := by
  have HQ := hide hq
  have HB := hide hb
  have cq := hb.cq
  have cs := hb.cs
  have ct := hb.ct
  have hV := sz.V
  have cd := hq.row.cell hv
  have fd := hq.row.frozen v
  have cb := hq.box.cell (i := 0) (by omega)
  have fb := hq.box.frozen 0
  have same : enqB N.s N.t v qd = false → EnqPost w w N gq bQ x qd q v (.returned (.tuple #[])) := fun h => ⟨_, x, rfl, by
    rw [h]; simp only [Bool.false_eq_true, false_and, if_false]; exact hq, fun g hg => .inl hg, Chg.refl _ _⟩
  have HSame := hide same
  clear hq hb same
  by_cases h1 : qd v = true
  · have hE : Hid (enqB N.s N.t v qd = false) := by simp [Hid, enqB, h1]
    rw [h1] at cd
    clear h1
    go_enter Try.func28, Try.ntmps28
    go_wp2_with fail
    go_end0
    exact HSame.out hE.out
  · have h1' : qd v = false := by simpa using h1
    rw [h1'] at cd
    by_cases h2 : v = N.s
    · have hE : Hid (enqB N.s N.t v qd = false) := by simp [Hid, enqB, h2]
      have hb2 : ((v : Int) != (N.s : Int)) = false := by simp [h2]
      clear h1 h1' h2
      go_enter Try.func28, Try.ntmps28
      go_wp2_with fail
      go_end0
      exact HSame.out hE.out
    · have hb2 : ((v : Int) != (N.s : Int)) = true := by simp; omega
      by_cases h3 : v = N.t
      · have hE : Hid (enqB N.s N.t v qd = false) := by simp [Hid, enqB, h3]
        have hb3 : ((v : Int) != (N.t : Int)) = false := by simp [h3]
        clear h1 h1' h2 h3
        go_enter Try.func28, Try.ntmps28
        go_wp2_with fail
        go_end0
        exact HSame.out hE.out
      · have hb3 : ((v : Int) != (N.t : Int)) = true := by simp; omega
        have hE : Hid (enqB N.s N.t v qd = true) := by simp [Hid, enqB, h1', h2, h3]
        clear h1 h1' h2 h3
        have hQ2 : Que (w.setCell ⟨gq, v, none⟩ (.bool true)) x q := HQ.out.que.of_block (fun g hg => heap_setCell_other _ _ _ _ (HQ.out.own g hg).1)
        obtain ⟨x', w5, hrun, hq5, hown5, hchg5⟩ := hQ2.push v hl
        obtain ⟨a5, c5, hsh5⟩ := hq5.shape
        subst hsh5
        have hszc : (w.setCell ⟨gq, v, none⟩ (.bool true)).heap.size = w.heap.size := by simp
        rw [hszc] at hrun hown5
        have cb2 : (w.setCell ⟨gq, v, none⟩ (.bool true)).cell? ⟨bQ, 0, none⟩ = some x := by
          have := (HQ.out.box.setOther (a := ⟨gq, v, none⟩) (fun e => HQ.out.ne e.symm) (.bool true)).cell (i := 0) (by omega)
          exact this
        have cR : w5.rowIs gq 4 N.V (fun u => if u = v then .bool true else .bool (qd u)) := by
          have h1 := HQ.out.row.set v (.bool true)
          exact h1.of_block (hchg5.block gq h1.lt (fun e => (HQ.out.own gq e).1 rfl))
        have cB : w5.rowIs bQ 30 1 (fun _ => x) := by
          have h1 := HQ.out.box.setOther (a := ⟨gq, v, none⟩) (fun e => HQ.out.ne e.symm) (.bool true)
          exact h1.of_block (hchg5.block bQ h1.lt (fun e => (HQ.out.own bQ e).2 rfl))
        have hx'ne : ∀ g, (Value.slice a5 (q ++ [v]).length c5).ownBlock = some g → g ≠ gq ∧ g ≠ bQ := fun g hg => by
          rcases hown5 g hg with e | e
          · exact HQ.out.own g e
          · have := HQ.out.row.lt
            have := HQ.out.box.lt
            exact ⟨by omega, by omega⟩
        have cb5 := cB.cell (i := 0) (by omega)
        have fb5 := cB.frozen 0
        have FIN : Hid (EnqPost w (w5.setCell ⟨bQ, 0, none⟩ (.slice a5 (q ++ [v]).length c5)) N gq bQ x qd q v (.returned (.tuple #[]))) := by
          refine ⟨_, _, rfl, ?_, hown5, ?_⟩
          · rw [hE.out]
            simp only [if_true, true_and]
            refine ⟨?_, ?_, ?_, HQ.out.ne, hx'ne⟩
            · refine (cR.setOther (a := ⟨bQ, 0, none⟩) HQ.out.ne _).congr (fun i hi => ?_)
              by_cases e : i = v <;> simp [e]
            · refine (cB.set 0 _).congr (fun i hi => ?_)
              rw [if_pos (by omega)]
            · exact hq5.of_block (fun g hg => heap_setCell_other _ _ _ _ (hx'ne g hg).2)
          · exact Chg.setCell (p := ⟨bQ, 0, none⟩) ((Chg.setCell (p := ⟨gq, v, none⟩) (Chg.refl w (fun k => k = gq ∨ k = bQ ∨ x.ownBlock = some k)) (fun _ => .inl rfl) _).trans' hchg5 (fun i _ e => .inr (.inr e))) (fun _ => .inr (.inl rfl)) _
        clear hQ2 hq5 hown5 hchg5 cR cB hx'ne hszc
        obtain ⟨a, c, hsh⟩ := HQ.out.que.shape
        subst hsh
        go_enter Try.func28, Try.ntmps28
        go_wp2_with (at_builtin; refine wpList_append_eq rfl _ _ 30 rfl _ _ _ _ rfl rfl hrun ?_)
        go_end0
        have := FIN.out
        rw [List.length_append] at this
        exact this
end Go.Proofs.Qxb6602686a
