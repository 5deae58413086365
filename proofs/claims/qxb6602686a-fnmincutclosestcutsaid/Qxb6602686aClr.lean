import Derived.Test.Qxb6602686aMS
namespace Go.Proofs.Qxb6602686a
open Go.RowKit

theorem setCells_other (b k : Nat) (hk : k ≠ b) : ∀ (vs : List Value) (o : Nat) (w : World), (w.setCells b o vs).heap[k]? = w.heap[k]?
  | [], _, _ => rfl
  | v :: vs, o, w => by
    show ((w.setCell ⟨b, o, none⟩ v).setCells b (o + 1) vs).heap[k]? = _
    rw [setCells_other b k hk vs (o + 1) _, heap_setCell_other _ _ _ _ hk]
theorem setCells_size (b : Nat) : ∀ (vs : List Value) (o : Nat) (w : World), (w.setCells b o vs).heap.size = w.heap.size ∧ (w.setCells b o vs).os = w.os ∧ (w.setCells b o vs).tape = w.tape ∧ (w.setCells b o vs).output = w.output
  | [], _, _ => ⟨rfl, rfl, rfl, rfl⟩
  | v :: vs, o, w => by
    have := setCells_size b vs (o + 1) (w.setCell ⟨b, o, none⟩ v)
    exact ⟨this.1.trans (by simp), this.2.1, this.2.2.1, this.2.2.2⟩
theorem setCells_chg (w : World) (b o : Nat) (vs : List Value) : Chg w (w.setCells b o vs) (fun k => k = b) := by
  obtain ⟨h1, h2, h3, h4⟩ := setCells_size b vs o w
  exact ⟨h2, h3, h4, by omega, fun k _ hk => setCells_other b k hk vs o w⟩
theorem setCells_row (b : Nat) (t : TypeId) (n : Nat) (z : Value) : ∀ (m o : Nat) (w : World) (f : Nat → Value), w.rowIs b t n f → (w.setCells b o (List.replicate m z)).rowIs b t n (fun i => if o ≤ i ∧ i < o + m then z else f i)
  | 0, o, w, f, h => h.congr (fun i hi => by rw [if_neg (by omega)])
  | m + 1, o, w, f, h => by
    rw [List.replicate_succ]
    show ((w.setCell ⟨b, o, none⟩ z).setCells b (o + 1) (List.replicate m z)).rowIs b t n _
    refine (setCells_row b t n z m (o + 1) _ _ (h.set o z)).congr (fun i hi => ?_)
    by_cases e : i = o
    · subst e
      simp
    · by_cases e2 : o + 1 ≤ i ∧ i < o + 1 + m
      · rw [if_pos e2, if_pos (by omega)]
      · rw [if_neg e2, if_neg e, if_neg (by omega)]
section
variable {w wr : World} {N : Net} {Y : Lay} {gr : Nat} {r : Nat → Int} {h : Nat → Nat} {ex : Nat → Int} {cur : Nat → Nat} {qd : Nat → Bool} {q : List Nat} {x : Value}
theorem MS.clear (M : MS w wr N Y gr r h ex cur qd q x) : MS w (wr.setCells (w.heap.size + 4) 0 (List.replicate N.V (.int .i64 0))) N Y gr r h ex (fun _ => 0) qd q x := by
  have hb : ∀ b, b ≠ w.heap.size + 4 → (wr.setCells (w.heap.size + 4) 0 (List.replicate N.V (.int .i64 0))).heap[b]? = wr.heap[b]? := fun b hb => setCells_other _ _ hb _ _ _
  have hC := setCells_chg wr (w.heap.size + 4) 0 (List.replicate N.V (.int .i64 0))
  refine ⟨M.chg.trans' hC (fun i hi e => by omega), M.res.of_block (hb _ (by have := M.gr; omega)), M.gr, M.hh.of_block (hb _ (by omega)), M.hx.of_block (hb _ (by omega)), ?_, M.box.chg hC (by omega) (by omega) (by omega), ?_, M.own, Nat.le_trans M.sz hC.size⟩
  · exact (setCells_row _ _ _ _ N.V 0 wr _ M.hc).congr (fun i hi => by rw [if_pos (by omega)]; rfl)
  · exact ⟨M.qst.row.of_block (hb _ (by omega)), M.qst.box.of_block (hb _ (by omega)), M.qst.que.of_block (fun g hg => hb _ (by have := M.own g hg; omega)), M.qst.ne, M.qst.own⟩
end
/-- how far the discharge of y has come -/
def nu (N : Net) (r : Nat → Int) (h : Nat → Nat) (ex : Nat → Int) (cur : Nat → Nat) (y : Nat) : Nat :=
  ((N.V - h y) * 1048578 + (N.L y - cur y)) * 3 + (if ex y ≤ 0 then 0 else if 0 < r (N.arc y (cur y)) then 2 else 1)
theorem nu_hi (N : Net) (r : Nat → Int) (h : Nat → Nat) (ex : Nat → Int) (cur : Nat → Nat) (y : Nat) : ∃ b, b ≤ 2 ∧ nu N r h ex cur y = ((N.V - h y) * 1048578 + (N.L y - cur y)) * 3 + b := by
  unfold nu
  split
  · exact ⟨0, by omega, rfl⟩
  · split
    · exact ⟨2, by omega, rfl⟩
    · exact ⟨1, by omega, rfl⟩
theorem nu_relabel {N : Net} {r : Nat → Int} {h : Nat → Nat} {ex : Nat → Int} {cur : Nat → Nat} {y k : Nat} (hL : N.L y ≤ 1048576) (hlt : h y < k) (hk : k ≤ N.V) :
    nu N r (fun v => if v = y then k else h v) ex (fun v => if v = y then 0 else cur v) y < nu N r h ex cur y := by
  obtain ⟨b, hb, e⟩ := nu_hi N r (fun v => if v = y then k else h v) ex (fun v => if v = y then 0 else cur v) y
  obtain ⟨b', hb', e'⟩ := nu_hi N r h ex cur y
  rw [e, e']
  simp only [if_true]
  omega
theorem nu_skip {N : Net} {r : Nat → Int} {h : Nat → Nat} {ex : Nat → Int} {cur : Nat → Nat} {y : Nat} (hc : cur y < N.L y) (hx : 0 < ex y) :
    nu N r h ex (fun v => if v = y then cur y + 1 else cur v) y < nu N r h ex cur y := by
  obtain ⟨b, hb, e⟩ := nu_hi N r h ex (fun v => if v = y then cur y + 1 else cur v) y
  simp only [if_true] at e
  rw [e]
  unfold nu
  rw [if_neg (show ¬ ex y ≤ 0 by omega)]
  split <;> omega
theorem nu_push {N : Net} {r r' : Nat → Int} {h : Nat → Nat} {ex ex' : Nat → Int} {cur : Nat → Nat} {y : Nat} (hx : 0 < ex y) (hr : 0 < r (N.arc y (cur y))) (h' : ex' y ≤ 0 ∨ r' (N.arc y (cur y)) ≤ 0) :
    nu N r' h ex' cur y < nu N r h ex cur y := by
  unfold nu
  rw [if_neg (show ¬ ex y ≤ 0 by omega), if_pos hr]
  rcases h' with h' | h'
  · rw [if_pos h']; omega
  · split
    · omega
    · rw [if_neg (by omega)]; omega
end Go.Proofs.Qxb6602686a
