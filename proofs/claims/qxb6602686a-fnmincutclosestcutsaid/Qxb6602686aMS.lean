import Derived.Test.Qxb6602686aEnq
import Derived.Test.Qxb6602686aPR3
namespace Go.Proofs.Qxb6602686a
open Go.RowKit

theorem Chg.cell1 (w : World) (b i : Nat) (v : Value) : Chg w (w.setCell ⟨b, i, none⟩ v) (fun k => k = b) :=
  Chg.setCell (S := fun k => k = b) (p := ⟨b, i, none⟩) (Chg.refl w _) (fun _ => rfl) v
theorem NetS.sub {w : World} {N : Net} {Y : Lay} {F F' : Nat → Prop} (h : NetS w N Y F) (hF : ∀ k, F' k → F k) : NetS w N Y F' :=
  ⟨h.c0, h.c1, h.c2, h.top, h.row, h.hd, fun e => h.np (hF _ e), fun x hx e => h.nA x hx (hF _ e), fun x hx e => h.nH x hx (hF _ e), fun i hi x hx e => h.nr i hi x hx (hF _ e)⟩
/-- the row of residuals -/
def ResAt (w : World) (N : Net) (Y : Lay) (gr : Nat) (r : Nat → Int) : Prop := 0 < N.m → Y.aR = some ⟨gr, 0, none⟩ ∧ w.rowIs gr 2 N.m (fun a => .int .i64 (r a))
theorem ResAt.sv {w : World} {N : Net} {Y : Lay} {gr : Nat} {r : Nat → Int} (h : ResAt w N Y gr r) (hm : N.m ≤ 1048576) : SV w (.slice Y.aR N.m Y.cR) N.m (fun a => .int .i64 (r a)) := by
  by_cases h0 : 0 < N.m
  · obtain ⟨e, hr⟩ := h h0
    rw [e]
    exact SV.of_row hr (Nat.le_refl _) (by omega) _
  · exact ⟨_, _, rfl, by omega, fun h => absurd h h0, fun j hj => by omega⟩
theorem ResAt.of_block {w w' : World} {N : Net} {Y : Lay} {gr : Nat} {r : Nat → Int} (h : ResAt w N Y gr r) (hb : w'.heap[gr]? = w.heap[gr]?) : ResAt w' N Y gr r := fun h0 => ⟨(h h0).1, (h h0).2.of_block hb⟩

/-- minCut's memory. From block w.heap.size on: the source, the sink, height, excess, current, queued, the box of queued, the box of the queue -/
structure MS (w wr : World) (N : Net) (Y : Lay) (gr : Nat) (r : Nat → Int) (h : Nat → Nat) (ex : Nat → Int) (cur : Nat → Nat) (qd : Nat → Bool) (q : List Nat) (x : Value) : Prop where
  chg : Chg w wr (fun k => k = gr)
  res : ResAt wr N Y gr r
  gr : gr < w.heap.size
  hh : wr.rowIs (w.heap.size + 2) 3 N.V (fun v => kn (h v))
  hx : wr.rowIs (w.heap.size + 3) 2 N.V (fun v => .int .i64 (ex v))
  hc : wr.rowIs (w.heap.size + 4) 3 N.V (fun v => kn (cur v))
  box : Box wr N (w.heap.size + 6) w.heap.size (w.heap.size + 1) (w.heap.size + 5)
  qst : QSt wr N (w.heap.size + 5) (w.heap.size + 7) x qd q
  own : ∀ g, x.ownBlock = some g → w.heap.size + 8 ≤ g
  sz : w.heap.size + 8 ≤ wr.heap.size

section
variable {w wr : World} {N : Net} {Y : Lay} {gr : Nat} {r : Nat → Int} {h : Nat → Nat} {ex : Nat → Int} {cur : Nat → Nat} {qd : Nat → Bool} {q : List Nat} {x : Value}
theorem MS.net (M : MS w wr N Y gr r h ex cur qd q x) {F : Nat → Prop} (hS : NetS w N Y (fun k => k = gr ∨ w.heap.size ≤ k)) (hF : ∀ k, F k → k = gr ∨ w.heap.size ≤ k) : NetS wr N Y F :=
  (hS.chg M.chg (fun _ _ e => .inl e)).sub hF
theorem MS.drewN (M : MS w wr N Y gr r h ex cur qd q x) (n : Nat) : MS w (wr.drewN n) N Y gr r h ex cur qd q x :=
  ⟨M.chg.drewN n, M.res, M.gr, M.hh, M.hx, M.hc, ⟨M.box.cq, M.box.cs, M.box.ct⟩, ⟨M.qst.row, M.qst.box, M.qst.que, M.qst.ne, M.qst.own⟩, M.own, M.sz⟩
theorem MS.congr (M : MS w wr N Y gr r h ex cur qd q x) {r' : Nat → Int} {h' : Nat → Nat} {ex' : Nat → Int} {cur' : Nat → Nat} (e1 : ∀ a, a < N.m → r a = r' a) (e2 : ∀ v, v < N.V → h v = h' v) (e3 : ∀ v, v < N.V → ex v = ex' v) (e4 : ∀ v, v < N.V → cur v = cur' v) : MS w wr N Y gr r' h' ex' cur' qd q x :=
  ⟨M.chg, fun h0 => ⟨(M.res h0).1, (M.res h0).2.congr (fun a ha => by rw [e1 a ha])⟩, M.gr, M.hh.congr (fun v hv => by rw [e2 v hv]), M.hx.congr (fun v hv => by rw [e3 v hv]), M.hc.congr (fun v hv => by rw [e4 v hv]), M.box, M.qst, M.own, M.sz⟩
theorem MS.setH (M : MS w wr N Y gr r h ex cur qd q x) (v k : Nat) : MS w (wr.setCell ⟨w.heap.size + 2, v, none⟩ (.int .i64 (k : Nat))) N Y gr r (fun u => if u = v then k else h u) ex cur qd q x := by
  have hb : ∀ b, b ≠ w.heap.size + 2 → (wr.setCell ⟨w.heap.size + 2, v, none⟩ (.int .i64 (k : Nat))).heap[b]? = wr.heap[b]? := fun b hb => heap_setCell_other _ _ _ _ hb
  have hC : Chg wr (wr.setCell ⟨w.heap.size + 2, v, none⟩ (.int .i64 (k : Nat))) (fun k => k = w.heap.size + 2) := Chg.cell1 _ _ _ _
  refine ⟨M.chg.trans' hC (fun i hi e => by omega), M.res.of_block (hb _ (by have := M.gr; omega)), M.gr, ?_, M.hx.of_block (hb _ (by omega)), M.hc.of_block (hb _ (by omega)), M.box.chg hC (by omega) (by omega) (by omega), ?_, M.own, by simpa using M.sz⟩
  · exact (M.hh.set v _).congr (fun i hi => by by_cases e : i = v <;> simp [e, kn])
  · exact ⟨M.qst.row.of_block (hb _ (by omega)), M.qst.box.of_block (hb _ (by omega)), M.qst.que.of_block (fun g hg => hb _ (by have := M.own g hg; omega)), M.qst.ne, M.qst.own⟩
theorem MS.setX (M : MS w wr N Y gr r h ex cur qd q x) (v : Nat) (k : Int) : MS w (wr.setCell ⟨w.heap.size + 3, v, none⟩ (.int .i64 k)) N Y gr r h (fun u => if u = v then k else ex u) cur qd q x := by
  have hb : ∀ b, b ≠ w.heap.size + 3 → (wr.setCell ⟨w.heap.size + 3, v, none⟩ (.int .i64 k)).heap[b]? = wr.heap[b]? := fun b hb => heap_setCell_other _ _ _ _ hb
  have hC : Chg wr (wr.setCell ⟨w.heap.size + 3, v, none⟩ (.int .i64 k)) (fun k => k = w.heap.size + 3) := Chg.cell1 _ _ _ _
  refine ⟨M.chg.trans' hC (fun i hi e => by omega), M.res.of_block (hb _ (by have := M.gr; omega)), M.gr, M.hh.of_block (hb _ (by omega)), ?_, M.hc.of_block (hb _ (by omega)), M.box.chg hC (by omega) (by omega) (by omega), ?_, M.own, by simpa using M.sz⟩
  · exact (M.hx.set v _).congr (fun i hi => by by_cases e : i = v <;> simp [e])
  · exact ⟨M.qst.row.of_block (hb _ (by omega)), M.qst.box.of_block (hb _ (by omega)), M.qst.que.of_block (fun g hg => hb _ (by have := M.own g hg; omega)), M.qst.ne, M.qst.own⟩
theorem MS.setC (M : MS w wr N Y gr r h ex cur qd q x) (v k : Nat) : MS w (wr.setCell ⟨w.heap.size + 4, v, none⟩ (.int .i64 (k : Nat))) N Y gr r h ex (fun u => if u = v then k else cur u) qd q x := by
  have hb : ∀ b, b ≠ w.heap.size + 4 → (wr.setCell ⟨w.heap.size + 4, v, none⟩ (.int .i64 (k : Nat))).heap[b]? = wr.heap[b]? := fun b hb => heap_setCell_other _ _ _ _ hb
  have hC : Chg wr (wr.setCell ⟨w.heap.size + 4, v, none⟩ (.int .i64 (k : Nat))) (fun k => k = w.heap.size + 4) := Chg.cell1 _ _ _ _
  refine ⟨M.chg.trans' hC (fun i hi e => by omega), M.res.of_block (hb _ (by have := M.gr; omega)), M.gr, M.hh.of_block (hb _ (by omega)), M.hx.of_block (hb _ (by omega)), ?_, M.box.chg hC (by omega) (by omega) (by omega), ?_, M.own, by simpa using M.sz⟩
  · exact (M.hc.set v _).congr (fun i hi => by by_cases e : i = v <;> simp [e, kn])
  · exact ⟨M.qst.row.of_block (hb _ (by omega)), M.qst.box.of_block (hb _ (by omega)), M.qst.que.of_block (fun g hg => hb _ (by have := M.own g hg; omega)), M.qst.ne, M.qst.own⟩
theorem MS.setR (M : MS w wr N Y gr r h ex cur qd q x) (a : Nat) (k : Int) : MS w (wr.setCell ⟨gr, a, none⟩ (.int .i64 k)) N Y gr (fun u => if u = a then k else r u) h ex cur qd q x := by
  have hg := M.gr
  have hb : ∀ b, b ≠ gr → (wr.setCell ⟨gr, a, none⟩ (.int .i64 k)).heap[b]? = wr.heap[b]? := fun b hb => heap_setCell_other _ _ _ _ hb
  have hC : Chg wr (wr.setCell ⟨gr, a, none⟩ (.int .i64 k)) (fun k => k = gr) := Chg.cell1 _ _ _ _
  refine ⟨M.chg.trans' hC (fun i hi e => e), fun h0 => ⟨(M.res h0).1, ?_⟩, M.gr, M.hh.of_block (hb _ (by omega)), M.hx.of_block (hb _ (by omega)), M.hc.of_block (hb _ (by omega)), M.box.chg hC (by omega) (by omega) (by omega), ?_, M.own, by simpa using M.sz⟩
  · exact ((M.res h0).2.set a _).congr (fun i hi => by by_cases e : i = a <;> simp [e])
  · exact ⟨M.qst.row.of_block (hb _ (by omega)), M.qst.box.of_block (hb _ (by omega)), M.qst.que.of_block (fun g hg => hb _ (by have := M.own g hg; omega)), M.qst.ne, M.qst.own⟩
/-- the queue's box takes what is left behind the first -/
theorem MS.pop {y : Nat} {x' : Value} (M : MS w wr N Y gr r h ex cur qd (y :: q) x) (hq : Que wr x' q) (ho : x'.ownBlock = x.ownBlock) : MS w (wr.setCell ⟨w.heap.size + 7, 0, none⟩ x') N Y gr r h ex cur qd q x' := by
  have hb : ∀ b, b ≠ w.heap.size + 7 → (wr.setCell ⟨w.heap.size + 7, 0, none⟩ x').heap[b]? = wr.heap[b]? := fun b hb => heap_setCell_other _ _ _ _ hb
  have hC : Chg wr (wr.setCell ⟨w.heap.size + 7, 0, none⟩ x') (fun k => k = w.heap.size + 7) := Chg.cell1 _ _ _ _
  have hown : ∀ g, x'.ownBlock = some g → w.heap.size + 8 ≤ g := fun g hg => M.own g (by rw [← ho]; exact hg)
  refine ⟨M.chg.trans' hC (fun i hi e => by omega), M.res.of_block (hb _ (by have := M.gr; omega)), M.gr, M.hh.of_block (hb _ (by omega)), M.hx.of_block (hb _ (by omega)), M.hc.of_block (hb _ (by omega)), M.box.chg hC (by omega) (by omega) (by omega), ?_, hown, by simpa using M.sz⟩
  refine ⟨M.qst.row.of_block (hb _ (by omega)), ?_, hq.of_block (fun g hg => hb _ (by have := hown g hg; omega)), M.qst.ne, fun g hg => by have := hown g hg; exact ⟨by omega, by omega⟩⟩
  exact (M.qst.box.set 0 x').congr (fun i hi => by rw [if_pos (by omega)])
theorem MS.unmark (M : MS w wr N Y gr r h ex cur qd q x) (v : Nat) : MS w (wr.setCell ⟨w.heap.size + 5, v, none⟩ (.bool false)) N Y gr r h ex cur (fun u => if u = v then false else qd u) q x := by
  have hb : ∀ b, b ≠ w.heap.size + 5 → (wr.setCell ⟨w.heap.size + 5, v, none⟩ (.bool false)).heap[b]? = wr.heap[b]? := fun b hb => heap_setCell_other _ _ _ _ hb
  have hC : Chg wr (wr.setCell ⟨w.heap.size + 5, v, none⟩ (.bool false)) (fun k => k = w.heap.size + 5) := Chg.cell1 _ _ _ _
  refine ⟨M.chg.trans' hC (fun i hi e => by omega), M.res.of_block (hb _ (by have := M.gr; omega)), M.gr, M.hh.of_block (hb _ (by omega)), M.hx.of_block (hb _ (by omega)), M.hc.of_block (hb _ (by omega)), M.box.chg hC (by omega) (by omega) (by omega), ?_, M.own, by simpa using M.sz⟩
  refine ⟨?_, M.qst.box.of_block (hb _ (by omega)), M.qst.que.of_block (fun g hg => hb _ (by have := M.own g hg; omega)), M.qst.ne, M.qst.own⟩
  exact (M.qst.row.set v _).congr (fun i hi => by by_cases e : i = v <;> simp [e])
theorem MS.enq {wr' : World} {v : Nat} {e : Ending} (M : MS w wr N Y gr r h ex cur qd q x) (hE : EnqPost wr wr' N (w.heap.size + 5) (w.heap.size + 7) x qd q v e) :
    ∃ rv x', e = .returned rv ∧ MS w wr' N Y gr r h ex cur (fun u => if enqB N.s N.t v qd = true ∧ u = v then true else qd u) (if enqB N.s N.t v qd = true then q ++ [v] else q) x' := by
  obtain ⟨rv, x', rfl, hQ, ho, hC⟩ := hE
  have hb : ∀ b, b < w.heap.size + 5 ∨ b = w.heap.size + 6 → wr'.heap[b]? = wr.heap[b]? := fun b hb => hC.block b (by have := M.sz; omega) (fun hs => by
    rcases hs with e | e | e
    · omega
    · omega
    · have := M.own b e; omega)
  have hg := M.gr
  refine ⟨rv, x', rfl, M.chg.trans' hC (fun i hi e => ?_), M.res.of_block (hb _ (by omega)), M.gr, M.hh.of_block (hb _ (by omega)), M.hx.of_block (hb _ (by omega)), M.hc.of_block (hb _ (by omega)), M.box.chg hC ?_ ?_ ?_, hQ, fun g hg => ?_, Nat.le_trans M.sz hC.size⟩
  · rcases e with e | e | e
    · omega
    · omega
    · have := M.own i e; omega
  · rintro (e | e | e)
    · omega
    · omega
    · have := M.own _ e; omega
  · rintro (e | e | e)
    · omega
    · omega
    · have := M.own _ e; omega
  · rintro (e | e | e)
    · omega
    · omega
    · have := M.own _ e; omega
  · rcases ho g hg with e | e
    · exact M.own g e
    · have := M.sz; omega
/-- a sweep over the heights -/
theorem MS.swept {wr' : World} {rr : Nat → Int} {e : Ending} (M : MS w wr N Y gr r h ex cur qd q x) (hE : RelPost wr wr' N rr (w.heap.size + 2) e) :
    ∃ rv d, e = .returned rv ∧ Dist N rr d ∧ MS w wr' N Y gr r d ex cur qd q x := by
  obtain ⟨rv, d, rfl, hD, hrow, hC⟩ := hE
  have hb : ∀ b, b < wr.heap.size → b ≠ w.heap.size + 2 → wr'.heap[b]? = wr.heap[b]? := fun b hl hb => hC.block b hl hb
  have hg := M.gr
  have hs := M.sz
  refine ⟨rv, d, rfl, hD, M.chg.trans' hC (fun i hi e => by omega), M.res.of_block (hb _ (by omega) (by omega)), M.gr, hrow, M.hx.of_block (hb _ (by omega) (by omega)), M.hc.of_block (hb _ (by omega) (by omega)), M.box.chg hC (by omega) (by omega) (by omega), ?_, M.own, Nat.le_trans M.sz hC.size⟩
  exact ⟨M.qst.row.of_block (hb _ (by omega) (by omega)), M.qst.box.of_block (hb _ (by omega) (by omega)), M.qst.que.of_block (fun g hg => hb _ (M.qst.que.lt hg) (by have := M.own g hg; omega)), M.qst.ne, M.qst.own⟩
end
end Go.Proofs.Qxb6602686a
