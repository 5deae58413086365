import Derived.Test.Qxb6602686aRst
namespace Go.Proofs.Qxb6602686a
open Go.RowKit

/-- a slice that grows since the world wi -/
structure GL (wi wr : World) (E : TypeId) (v : Value) (xs : List Value) : Prop where
  chg : Chg wi wr (fun _ => False)
  lst : Lst wr E v xs
  own : ∀ g, v.ownBlock = some g → wi.heap.size ≤ g
theorem GL.start (w : World) (E : TypeId) : GL w w E (.slice none 0 0) [] := ⟨Chg.refl _ _, Lst.nil _ _, fun g h => by simp [Value.ownBlock] at h⟩
theorem GL.append {wi wr : World} {v : Value} {xs : List Value} {T E : TypeId} {z : Value} {bytes : Nat} (h : GL wi wr E v xs) (hT : Try.prog.underlying T = some (.slice E))
    (hinfo : (Try.prog.info? E).map (fun i => (i.zero, i.size, i.bytes)) = some (some z, 1, bytes)) (hz1 : z.cells.size = 1) (hby : bytes ≤ 24) (x : Value) (hx : x.oneCell' = true) (hl : xs.length ≤ 1048576) :
    ∃ g cap w', (∀ ty, (Builtin.append_ #[T, T] ty #[v, .slice (some ⟨wr.heap.size, 0, none⟩) 1 1]).run Try.prog (wr.alloc (.cells #[x] E)) = .ok (.slice (some ⟨g, 0, none⟩) (xs.length + 1) cap) w') ∧ GL wi w' E (.slice (some ⟨g, 0, none⟩) (xs.length + 1) cap) (xs ++ [x]) := by
  obtain ⟨g, cap, w', hr, hl', hg, hc⟩ := append1 (ty := T) hT hinfo hz1 hby h.lst x hx hl
  refine ⟨g, cap, w', fun ty => hr, h.chg.trans' hc (fun i hi e => by have := h.own i e; omega), hl', fun k hk => ?_⟩
  have : k = g := by simpa [Value.ownBlock] using hk.symm
  subst this
  rcases hg with e | e
  · exact h.own k e
  · exact Nat.le_trans h.chg.size e

/-! ### the graph's lists -/
def tsL (tt : Nat → Nat → Int) (L : Nat → Nat) (k : Nat) : List Int := (List.range (L k)).map (tt k)
def TLk (u0 : Nat → Int) (tt : Nat → Nat → Int) (L : Nat → Nat) : Nat → Int → List Int
  | 0, _ => []
  | k + 1, y => if y = u0 k then tsL tt L k else TLk u0 tt L k y
theorem tsL_len (tt : Nat → Nat → Int) (L : Nat → Nat) (k : Nat) : (tsL tt L k).length = L k := by simp [tsL]
theorem TLk_len (u0 : Nat → Int) (tt : Nat → Nat → Int) (L : Nat → Nat) (b : Nat) : ∀ n, (∀ i, i < n → L i ≤ b) → ∀ y, (TLk u0 tt L n y).length ≤ b
  | 0, _, y => by simp [TLk]
  | n + 1, h, y => by
    simp only [TLk]
    split
    · rw [tsL_len]; exact h n (by omega)
    · exact TLk_len u0 tt L b n (fun i hi => h i (by omega)) y

/-- the map of the graph, and what lies round it -/
structure GrM (w wr : World) (Z : Array Value) (look : Int → Option Value) (TL : Int → List Int) : Prop where
  chg : Chg w wr (fun _ => False)
  res : wr.heap[w.heap.size]? = some (.cells Z 34)
  map : MapIs ku wr (w.heap.size + 1) look
  lst : ∀ y, Lst wr 48 ((look y).getD (.slice none 0 0)) ((TL y).map ku)
  own : ∀ y g, ((look y).getD (.slice none 0 0)).ownBlock = some g → w.heap.size + 2 ≤ g
theorem GrM.chg' {w wr wr' : World} {Z : Array Value} {look : Int → Option Value} {TL : Int → List Int} (h : GrM w wr Z look TL) (hc : Chg wr wr' (fun _ => False)) : GrM w wr' Z look TL := by
  refine ⟨h.chg.trans hc, ?_, h.map.of_block (hc.block _ h.map.lt (fun e => e)), fun y => (h.lst y).chg hc (fun _ _ e => e), h.own⟩
  rw [hc.block _ (Array.getElem?_eq_some_iff.1 h.res).1 (fun e => e)]
  exact h.res
theorem GrM.put {w wr : World} {Z : Array Value} {look : Int → Option Value} {TL : Int → List Int} (h : GrM w wr Z look TL) (y : Int) (v : Value) (ts : List Int) (hl : Lst wr 48 v (ts.map ku)) (ho : ∀ g, v.ownBlock = some g → w.heap.size + 2 ≤ g) :
    ∃ w5, (Instr.mapUpdate 46 (.map (some (w.heap.size + 1))) (.int .u64 y) v).run Try.prog wr = .ok () w5 ∧ GrM w w5 Z (fun b => if b = y then some v else look b) (fun b => if b = y then ts else TL b) := by
  obtain ⟨w5, hr, hm, hc⟩ := put61 h.map 46 47 Try.underlying46 y v
  refine ⟨w5, hr, h.chg.trans' hc (fun i hi e => by omega), ?_, hm, fun b => ?_, fun b g hg => ?_⟩
  · rw [hc.block _ (Array.getElem?_eq_some_iff.1 h.res).1 (by omega)]
    exact h.res
  · by_cases e : b = y
    · simp only [e, if_true, Option.getD_some]
      exact hl.chg hc (fun g hg => by have := ho g hg; omega)
    · simp only [e, if_false]
      exact (h.lst b).chg hc (fun g hg => by have := h.own b g hg; omega)
  · by_cases e : b = y
    · simp only [e, if_true, Option.getD_some] at hg
      exact ho g hg
    · simp only [e, if_false] at hg
      exact h.own b g hg
end Go.Proofs.Qxb6602686a
