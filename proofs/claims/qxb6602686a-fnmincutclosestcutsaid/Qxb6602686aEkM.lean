import Derived.Test.Qxb6602686aEk
import Derived.Test.Qxb6602686aZc
namespace Go.Proofs.Qxb6602686a
open Go.RowKit

/-- Edmonds-Karp's memory: the residuals, the parents, the queue -/
structure EM (w wr : World) (N : Net) (gr : Nat) (aR : Option Addr) (r p : Nat → Int) (q : Nat → Nat) : Prop where
  chg : Chg w wr (fun k => k = gr)
  size : w.heap.size + 2 ≤ wr.heap.size
  lt : gr < w.heap.size
  res : 0 < N.m → aR = some ⟨gr, 0, none⟩ ∧ wr.rowIs gr 2 N.m (fun a => .int .i64 (r a))
  par : wr.rowIs w.heap.size 3 N.V (fun v => .int .i64 (p v))
  que : wr.rowIs (w.heap.size + 1) 3 N.V (fun i => .int .i64 ((q i : Nat) : Int))
section
variable {w wr : World} {N : Net} {gr : Nat} {aR : Option Addr} {r p : Nat → Int} {q : Nat → Nat}
theorem EM.setP (M : EM w wr N gr aR r p q) (v : Nat) (k : Int) : EM w (wr.setCell ⟨w.heap.size, v, none⟩ (.int .i64 k)) N gr aR r (fun u => if u = v then k else p u) q := by
  have hb : ∀ b, b ≠ w.heap.size → (wr.setCell ⟨w.heap.size, v, none⟩ (.int .i64 k)).heap[b]? = wr.heap[b]? := fun b hb => heap_setCell_other _ _ _ _ hb
  have hg := M.lt
  exact ⟨M.chg.setCell (fun h => absurd h (Nat.lt_irrefl _)) _, by simpa using M.size, hg, fun h0 => ⟨(M.res h0).1, (M.res h0).2.of_block (hb _ (by omega))⟩, (M.par.set v _).congr (fun i hi => by by_cases e : i = v <;> simp [e]), M.que.of_block (hb _ (by omega))⟩
theorem EM.setQ (M : EM w wr N gr aR r p q) (v : Nat) (k : Nat) : EM w (wr.setCell ⟨w.heap.size + 1, v, none⟩ (.int .i64 (k : Int))) N gr aR r p (fun u => if u = v then k else q u) := by
  have hb : ∀ b, b ≠ w.heap.size + 1 → (wr.setCell ⟨w.heap.size + 1, v, none⟩ (.int .i64 (k : Int))).heap[b]? = wr.heap[b]? := fun b hb => heap_setCell_other _ _ _ _ hb
  have hg := M.lt
  exact ⟨M.chg.setCell (fun h => absurd h (by show ¬ w.heap.size + 1 < w.heap.size; omega)) _, by simpa using M.size, hg, fun h0 => ⟨(M.res h0).1, (M.res h0).2.of_block (hb _ (by omega))⟩, M.par.of_block (hb _ (by omega)), (M.que.set v _).congr (fun i hi => by by_cases e : i = v <;> simp [e])⟩
theorem EM.setR (M : EM w wr N gr aR r p q) (v : Nat) (k : Int) : EM w (wr.setCell ⟨gr, v, none⟩ (.int .i64 k)) N gr aR (fun u => if u = v then k else r u) p q := by
  have hb : ∀ b, b ≠ gr → (wr.setCell ⟨gr, v, none⟩ (.int .i64 k)).heap[b]? = wr.heap[b]? := fun b hb => heap_setCell_other _ _ _ _ hb
  have hg := M.lt
  exact ⟨M.chg.setCell (fun _ => rfl) _, by simpa using M.size, hg, fun h0 => ⟨(M.res h0).1, ((M.res h0).2.set v _).congr (fun i hi => by by_cases e : i = v <;> simp [e])⟩, M.par.of_block (hb _ (by omega)), M.que.of_block (hb _ (by omega))⟩
theorem EM.congrR (M : EM w wr N gr aR r p q) {r' : Nat → Int} (h : ∀ a, a < N.m → r a = r' a) : EM w wr N gr aR r' p q :=
  ⟨M.chg, M.size, M.lt, fun h0 => ⟨(M.res h0).1, (M.res h0).2.congr (fun i hi => by rw [h i hi])⟩, M.par, M.que⟩
theorem EM.start (hR : ResO w N.m aR gr r) (hg : gr < w.heap.size) :
    EM w ((w.alloc (.cells (madeCells #[.int .i64 0] N.V) 3)).alloc (.cells (madeCells #[.int .i64 0] N.V) 3)) N gr aR r (fun _ => 0) (fun _ => 0) := by
  obtain ⟨wa, ea⟩ : ∃ wa, w.alloc (.cells (madeCells #[.int .i64 0] N.V) 3) = wa := ⟨_, rfl⟩
  have sa : wa.heap.size = w.heap.size + 1 := by rw [← ea]; simp
  have ha := World.rowIs_made w (.int .i64 0) N.V 3
  have ca : Chg w wa (fun _ => False) := by rw [← ea]; exact (Chg.refl _ _).alloc _
  rw [ea] at ha ⊢
  obtain ⟨wb, eb⟩ : ∃ wb, wa.alloc (.cells (madeCells #[.int .i64 0] N.V) 3) = wb := ⟨_, rfl⟩
  have sb : wb.heap.size = w.heap.size + 2 := by rw [← eb]; simp [sa]
  have hb := World.rowIs_made wa (.int .i64 0) N.V 3
  have cb : Chg wa wb (fun _ => False) := by rw [← eb]; exact (Chg.refl _ _).alloc _
  rw [eb, sa] at hb
  rw [eb]
  have call : Chg w wb (fun _ => False) := ca.trans cb
  exact ⟨call.mono (fun _ _ h => h.elim), by omega, hg, fun h0 => ⟨(hR.1 h0).1, (hR.1 h0).2.of_block (call.block _ hg (fun h => h))⟩, ha.of_block (cb.block _ (by omega) (fun h => h)), hb⟩
end
def EkRel (w wr : World) (N : Net) (gr : Nat) (aR : Option Addr) (r0 : Nat → Int) (μ : Nat) : Prop := ∃ r p q, μ = (N.bal r N.s).toNat ∧ EM w wr N gr aR r p q ∧ EkS N r0 r
/-- the search in memory -/
def BfRel (w wr : World) (N : Net) (gr : Nat) (aR : Option Addr) (r : Nat → Int) (Q : List Nat) (h x j hh : Nat) : Prop :=
  ∃ p q, EM w wr N gr aR r p q ∧ EkI N r p Q h x j ∧ (∀ i y, Q[i]? = some y → q i = y) ∧ p N.s ≠ -1 ∧ (∀ i, i < hh → Q[i]? ≠ some N.t) ∧ (p N.t ≠ -1 → N.t ∈ Q)
/-- the sweeps' memory -/
structure SW (w wr : World) (N : Net) (gr : Nat) (aR : Option Addr) (r : Nat → Int) (gs : Nat) (c : Nat → Bool) : Prop where
  chg : Chg w wr (fun k => k = gr)
  lt : gr < w.heap.size
  ge : w.heap.size ≤ gs
  res : 0 < N.m → aR = some ⟨gr, 0, none⟩ ∧ wr.rowIs gr 2 N.m (fun a => .int .i64 (r a))
  row : wr.rowIs gs 4 N.V (fun v => .bool (c v))
theorem SW.set {w wr : World} {N : Net} {gr : Nat} {aR : Option Addr} {r : Nat → Int} {gs : Nat} {c : Nat → Bool} (M : SW w wr N gr aR r gs c) (v : Nat) : SW w (wr.setCell ⟨gs, v, none⟩ (.bool true)) N gr aR r gs (fun u => if u = v then true else c u) := by
  have hb : ∀ b, b ≠ gs → (wr.setCell ⟨gs, v, none⟩ (.bool true)).heap[b]? = wr.heap[b]? := fun b hb => heap_setCell_other _ _ _ _ hb
  have hg := M.lt
  have hs := M.ge
  exact ⟨M.chg.setCell (fun h => absurd h (Nat.not_lt.2 hs)) _, hg, hs, fun h0 => ⟨(M.res h0).1, (M.res h0).2.of_block (hb _ (by omega))⟩, (M.row.set v _).congr (fun i hi => by by_cases e : i = v <;> simp [e])⟩
def SwpRel (w : World) (N : Net) (gr : Nat) (aR : Option Addr) (r : Nat → Int) (gs : Nat) (ch : Value) (wr : World) (μ : Nat) : Prop :=
  ∃ (b : Bool) (c : Nat → Bool), ch = .bool b ∧ μ = 2 * (cntF N c).toNat + (if b = true then 1 else 0) ∧ SW w wr N gr aR r gs c ∧ SwO N r c b
/-- what zzMaxFlowSinkSide hands back -/
def EkPost (w w' : World) (N : Net) (gr : Nat) (r0 : Nat → Int) (e : Ending) : Prop :=
  ∃ (r : Nat → Int) (c : Nat → Bool) (g : Nat), e = .returned (.slice (some ⟨g, 0, none⟩) N.V N.V) ∧ w.heap.size ≤ g ∧ Flw N r0 r c ∧ w'.rowIs g 4 N.V (fun v => .bool (c v)) ∧ Chg w w' (fun k => k = gr)
end Go.Proofs.Qxb6602686a
