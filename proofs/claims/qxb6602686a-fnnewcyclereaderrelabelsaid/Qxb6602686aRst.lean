import Derived.Test.Qxb6602686aMem
import Derived.Deep.CutRange
namespace Go.Proofs.Qxb6602686a
open Go.RowKit

/-! ### plain words -/
def idsOf (x : Int) (us : List Int) : List Int := x :: us.filter (fun y => y != x)
/-- the last place below k at which ids holds t -/
def posTo (ids : List Int) : Nat → Int → Option Nat
  | 0, _ => none
  | k + 1, t => if t = ids.getD k 0 then some k else posTo ids k t
/-- the places of a list of targets -/
def nextOf (ids : List Int) (ts : List Int) : List Nat := ts.filterMap (posTo ids ids.length)
def afterOf (N : Nat → List Nat) (n i : Nat) : Nat := ((List.range (n - (i + 1))).map fun d => (N (i + 1 + d)).length).sum

def usL (u : Nat → Int) (n : Nat) : List Int := (List.range n).map u
theorem usL_succ (u : Nat → Int) (k : Nat) : usL u (k + 1) = usL u k ++ [u k] := by simp [usL, List.range_succ]
theorem ids_same (x : Int) (u : Nat → Int) (k : Nat) (h : u k = x) : idsOf x (usL u (k + 1)) = idsOf x (usL u k) := by
  simp [idsOf, usL_succ, h]
theorem ids_more (x : Int) (u : Nat → Int) (k : Nat) (h : u k ≠ x) : idsOf x (usL u (k + 1)) = idsOf x (usL u k) ++ [u k] := by
  simp [idsOf, usL_succ, h]
theorem ids_len (x : Int) (u : Nat → Int) (k : Nat) : (idsOf x (usL u k)).length ≤ k + 1 := by
  have := List.length_filter_le (fun y => y != x) (usL u k)
  simp [idsOf, usL] at *
  exact this

/-- the reader's other fields -/
def FldShape (n : Nat) (fld : Nat → Value) : Prop := ∃ a4 a5 a8 a9 a10 : Option Addr, fld 3 = .int .i64 1048576 ∧ fld 4 = .slice a4 n n ∧ fld 5 = .slice a5 n n ∧ fld 6 = .slice none 0 0 ∧ fld 7 = .bool false ∧
  fld 8 = .slice a8 n n ∧ fld 9 = .slice a9 n n ∧ fld 10 = .slice a10 n n ∧ fld 11 = .slice none 0 0
/-- what 'make' laid for the reader, and the struct -/
structure Laid (w wr : World) (n gs g0 g1 g2 : Nat) (fld : Nat → Value) : Prop where
  chg : Chg w wr (fun _ => False)
  row : wr.rowIs gs 56 12 fld
  f1 : fld 1 = .slice (some ⟨g1, 0, none⟩) n n
  f2 : fld 2 = .slice (some ⟨g2, 0, none⟩) n n
  new : w.heap.size ≤ gs ∧ w.heap.size ≤ g0 ∧ w.heap.size ≤ g1 ∧ w.heap.size ≤ g2
  apart : gs ≠ g0 ∧ gs ≠ g1 ∧ gs ≠ g2 ∧ g0 ≠ g1 ∧ g0 ≠ g2 ∧ g1 ≠ g2
  one : FldShape n fld

/-- the reader while its ids are gathered -/
structure St1 (w wr : World) (n gs g1 g2 : Nat) (fld : Nat → Value) (vi : Value) (xs : List Value) : Prop where
  chg : Chg w wr (fun _ => False)
  row : wr.rowIs gs 56 12 (fun i => if i = 0 then vi else fld i)
  lst : Lst wr 48 vi xs
  own : ∀ g, vi.ownBlock = some g → w.heap.size ≤ g ∧ g ≠ gs ∧ g ≠ g1 ∧ g ≠ g2
  r1 : wr.rowIs g1 30 n (fun _ => .slice none 0 0)
  r2 : wr.rowIs g2 3 n (fun _ => .int .i64 0)
  new : w.heap.size ≤ gs ∧ w.heap.size ≤ g1 ∧ w.heap.size ≤ g2
  apart : gs ≠ g1 ∧ gs ≠ g2 ∧ g1 ≠ g2

theorem St1.append {w wr : World} {n gs g1 g2 : Nat} {fld : Nat → Value} {vi : Value} {xs : List Value} (h : St1 w wr n gs g1 g2 fld vi xs) (y : Int) (hl : xs.length ≤ 1048576) :
    ∃ g cap w', (∀ ty, (Builtin.append_ #[47, 47] ty #[vi, .slice (some ⟨wr.heap.size, 0, none⟩) 1 1]).run Try.prog (wr.alloc (.cells #[.int .u64 y] 48)) = .ok (.slice (some ⟨g, 0, none⟩) (xs.length + 1) cap) w') ∧
      w'.cell? ⟨gs, 0, none⟩ = some vi ∧ w'.frozen? ⟨gs, 0, none⟩ = false ∧
      St1 w (w'.setCell ⟨gs, 0, none⟩ (.slice (some ⟨g, 0, none⟩) (xs.length + 1) cap)) n gs g1 g2 fld (.slice (some ⟨g, 0, none⟩) (xs.length + 1) cap) (xs ++ [ku y]) := by
  obtain ⟨g, cap, w', hr, hl', hg, hc⟩ := append1 (T := 47) (E := 48) (ty := 47) (z := .int .u64 0) (bytes := 8) Try.underlying47 info48 rfl (by omega) h.lst (ku y) rfl hl
  have hgs : ¬ vi.ownBlock = some gs := fun e => (h.own gs e).2.1 rfl
  have hg1 : ¬ vi.ownBlock = some g1 := fun e => (h.own g1 e).2.2.1 rfl
  have hg2 : ¬ vi.ownBlock = some g2 := fun e => (h.own g2 e).2.2.2 rfl
  have lgs := h.row.lt
  have lg1 := h.r1.lt
  have lg2 := h.r2.lt
  have row' := h.row.of_block (hc.block gs lgs hgs)
  have hown : w.heap.size ≤ g ∧ g ≠ gs ∧ g ≠ g1 ∧ g ≠ g2 := by
    rcases hg with e | e
    · exact h.own g e
    · have := h.chg.size
      exact ⟨by omega, by omega, by omega, by omega⟩
  refine ⟨g, cap, w', fun ty => hr, by simpa using row'.cell (i := 0) (by omega), row'.frozen 0, ?_⟩
  refine ⟨?_, ?_, ?_, ?_, ?_, ?_, h.new, h.apart⟩
  · exact (h.chg.trans' hc (fun i hi e => by have := (h.own i e).1; omega)).setCell (fun hlt => by have := h.new.1; simp only at hlt; omega) _
  · exact (row'.set 0 _).congr (fun i hi => by by_cases e : i = 0 <;> simp [e])
  · exact hl'.of_block (fun k hk => heap_setCell_other _ _ _ _ (by
      have : k = g := by simpa [Value.ownBlock] using hk.symm
      rw [this]; exact hown.2.1))
  · intro k hk
    have : k = g := by simpa [Value.ownBlock] using hk.symm
    rw [this]; exact hown
  · exact (h.r1.of_block (hc.block g1 lg1 hg1)).setOther (fun e => h.apart.1 e.symm) _
  · exact (h.r2.of_block (hc.block g2 lg2 hg2)).setOther (fun e => h.apart.2.1 e.symm) _

theorem St1.chg' {w wr wr' : World} {n gs g1 g2 : Nat} {fld : Nat → Value} {vi : Value} {xs : List Value} {S : Nat → Prop} (h : St1 w wr n gs g1 g2 fld vi xs) (hc : Chg wr wr' S)
    (hS : ∀ k, S k → w.heap.size ≤ k ∧ k ≠ gs ∧ k ≠ g1 ∧ k ≠ g2 ∧ vi.ownBlock ≠ some k) : St1 w wr' n gs g1 g2 fld vi xs := by
  refine ⟨h.chg.trans' hc (fun i hi hs => by have := (hS i hs).1; omega), h.row.of_block (hc.block gs h.row.lt (fun hs => (hS gs hs).2.1 rfl)), h.lst.chg hc (fun g hg hs => (hS g hs).2.2.2.2 hg), h.own,
    h.r1.of_block (hc.block g1 h.r1.lt (fun hs => (hS g1 hs).2.2.1 rfl)), h.r2.of_block (hc.block g2 h.r2.lt (fun hs => (hS g2 hs).2.2.2.1 rfl)), h.new, h.apart⟩

theorem Lst.cell {w : World} {E : TypeId} {g n cap k : Nat} {xs : List Value} {y : Value} (h : Lst w E (.slice (some ⟨g, 0, none⟩) n cap) xs) (hk : xs[k]? = some y) : w.cell? ⟨g, k, none⟩ = some y := by
  have := World.ownsRow.cells h (g := g) rfl k y hk
  rw [Addr.add_lit, Nat.zero_add] at this
  exact this
theorem put61 {wr : World} {gp : Nat} {look : Int → Option Value} (h : MapIs ku wr gp look) (T E : TypeId) (hT : Try.prog.underlying T = some (.map 48 E)) (t : Int) (v : Value) :
    ∃ w5, (Instr.mapUpdate T (.map (some gp)) (.int .u64 t) v).run Try.prog wr = .ok () w5 ∧ MapIs ku w5 gp (fun b => if b = t then some v else look b) ∧ Chg wr w5 (fun k => k = gp) := by
  obtain ⟨o, h1, h2⟩ := run_put (P := Try.prog) (T := T) (K := 48) (E := E) (d := .int .u64) hT Try.underlying48 ku_key ku_inj ku_same h t v
  exact ⟨_, h1, h2, Chg.setObj (S := fun k => k = gp) (Chg.refl _ _) (fun _ => rfl) o⟩

theorem mkmap (T K E : TypeId) (hT : Try.prog.underlying T = some (.map K E)) (k : IntKind) (i : Int) (w : World) : (Instr.makeMap T (some (.int k i))).run Try.prog w = .ok (.map (some w.heap.size)) (w.alloc (.map #[] 0)) := by
  simp [Instr.makeMap, run_underlying hT, asInt, asIntOf]

/-- the places of the first k ids, as the map holds them -/
def lookP (ids : List Int) (k : Nat) (t : Int) : Option Value := (posTo ids k t).map fun i => .int .i64 (i : Nat)
theorem lookP_succ (ids : List Int) (k : Nat) : (fun t => if t = ids.getD k 0 then some (.int .i64 (k : Nat)) else lookP ids k t) = lookP ids (k + 1) := by
  funext t
  unfold lookP
  simp only [posTo]
  split <;> rfl

/-- a place as a Go int -/
def ki (p : Nat) : Value := .int .i64 (p : Nat)
/-- the reader while its arcs are gathered -/
structure St3 (w wr : World) (n gs gp g1 g2 : Nat) (fld : Nat → Value) (vi : Value) (ids : List Int) (nv : Nat → Value) (N : Nat → List Nat) : Prop where
  chg : Chg w wr (fun _ => False)
  row : wr.rowIs gs 56 12 (fun i => if i = 0 then vi else fld i)
  lst : Lst wr 48 vi (ids.map ku)
  own : ∀ g, vi.ownBlock = some g → w.heap.size ≤ g ∧ g ≠ gs ∧ g ≠ g1 ∧ g ≠ g2 ∧ g ≠ gp
  map : MapIs ku wr gp (lookP ids n)
  r1 : wr.rowIs g1 30 n nv
  r2 : wr.rowIs g2 3 n (fun _ => .int .i64 0)
  nx : ∀ i, i < n → Lst wr 3 (nv i) ((N i).map ki)
  nown : ∀ i, i < n → ∀ g, (nv i).ownBlock = some g → w.heap.size ≤ g ∧ g ≠ gs ∧ g ≠ g1 ∧ g ≠ g2 ∧ g ≠ gp ∧ vi.ownBlock ≠ some g ∧ ∀ j, j < n → j ≠ i → (nv j).ownBlock ≠ some g
  new : w.heap.size ≤ gs ∧ w.heap.size ≤ g1 ∧ w.heap.size ≤ g2 ∧ w.heap.size ≤ gp
  apart : gs ≠ g1 ∧ gs ≠ g2 ∧ g1 ≠ g2 ∧ gp ≠ gs ∧ gp ≠ g1 ∧ gp ≠ g2

theorem St3.push {w wr : World} {n gs gp g1 g2 : Nat} {fld : Nat → Value} {vi : Value} {ids : List Int} {nv : Nat → Value} {N : Nat → List Nat} (h : St3 w wr n gs gp g1 g2 fld vi ids nv N) (i p : Nat) (hi : i < n) (hl : (N i).length ≤ 1048576) :
    ∃ g cap w', (∀ ty, (Builtin.append_ #[30, 30] ty #[nv i, .slice (some ⟨wr.heap.size, 0, none⟩) 1 1]).run Try.prog (wr.alloc (.cells #[.int .i64 (p : Nat)] 3)) = .ok (.slice (some ⟨g, 0, none⟩) ((N i).length + 1) cap) w') ∧
      w'.cell? ⟨g1, i, none⟩ = some (nv i) ∧ w'.frozen? ⟨g1, i, none⟩ = false ∧ w'.cell? ⟨gs, 1, none⟩ = some (fld 1) ∧
      St3 w (w'.setCell ⟨g1, i, none⟩ (.slice (some ⟨g, 0, none⟩) ((N i).length + 1) cap)) n gs gp g1 g2 fld vi ids (fun j => if j = i then .slice (some ⟨g, 0, none⟩) ((N i).length + 1) cap else nv j) (fun j => if j = i then N i ++ [p] else N j) := by
  obtain ⟨g, cap, w', hr, hl', hg, hc⟩ := append1 (T := 30) (E := 3) (ty := 30) (z := .int .i64 0) (bytes := 8) Try.underlying30 info3 rfl (by omega) (h.nx i hi) (ki p) rfl (by simpa using hl)
  rw [List.length_map] at hr hl'
  have no : ∀ k, (nv i).ownBlock = some k → _ := fun k e => h.nown i hi k e
  have bl : ∀ k, k < wr.heap.size → (nv i).ownBlock ≠ some k → w'.heap[k]? = wr.heap[k]? := fun k hk hne => hc.block k hk hne
  have bgs := bl gs h.row.lt (fun e => (no gs e).2.1 rfl)
  have bg1 := bl g1 h.r1.lt (fun e => (no g1 e).2.2.1 rfl)
  have bg2 := bl g2 h.r2.lt (fun e => (no g2 e).2.2.2.1 rfl)
  have bgp := bl gp h.map.lt (fun e => (no gp e).2.2.2.2.1 rfl)
  have row' := h.row.of_block bgs
  have r1' := h.r1.of_block bg1
  have hown : w.heap.size ≤ g ∧ g ≠ gs ∧ g ≠ g1 ∧ g ≠ g2 ∧ g ≠ gp ∧ vi.ownBlock ≠ some g ∧ ∀ j, j < n → j ≠ i → (nv j).ownBlock ≠ some g := by
    rcases hg with e | e
    · exact h.nown i hi g e
    · have := h.chg.size
      have l1 := h.row.lt
      have l2 := h.r1.lt
      have l3 := h.r2.lt
      have l4 := h.map.lt
      refine ⟨by omega, by omega, by omega, by omega, by omega, fun e' => ?_, fun j hj _ e' => ?_⟩
      · have := h.lst.lt e'; omega
      · have := (h.nx j hj).lt e'; omega
  have eqg : ∀ k, (Value.slice (some ⟨g, 0, none⟩) ((N i).length + 1) cap).ownBlock = some k → k = g := fun k hk => by simpa [Value.ownBlock] using hk.symm
  refine ⟨g, cap, w', fun ty => hr, r1'.cell hi, r1'.frozen i, by simpa using row'.cell (i := 1) (by omega), ?_⟩
  refine ⟨?_, row'.setOther h.apart.1 _, ?_, h.own, ?_, ?_, ?_, ?_, ?_, h.new, h.apart⟩
  · exact (h.chg.trans' hc (fun k hk e => by have := (no k e).1; omega)).setCell (fun hlt => by have := h.new.2.1; simp only at hlt; omega) _
  · have h1 : Lst w' 48 vi (ids.map ku) := h.lst.of_block (fun k hk => bl k (h.lst.lt hk) (fun e => (no k e).2.2.2.2.2.1 hk))
    exact h1.of_block (fun k hk => heap_setCell_other _ _ _ _ (by exact (h.own k hk).2.2.1))
  · exact (h.map.of_block bgp).of_block (heap_setCell_other _ _ _ _ (by exact h.apart.2.2.2.2.1))
  · exact (r1'.set i _)
  · exact (h.r2.of_block bg2).setOther (fun e => h.apart.2.2.1 e.symm) _
  · intro j hj
    by_cases e : j = i
    · subst e
      simp only [if_true, List.map_append, List.map_cons, List.map_nil]
      exact hl'.of_block (fun k hk => heap_setCell_other _ _ _ _ (by rw [eqg k hk]; exact hown.2.2.1))
    · simp only [e, if_false]
      have h1 : Lst w' 3 (nv j) ((N j).map ki) := (h.nx j hj).of_block (fun k hk => bl k ((h.nx j hj).lt hk) (fun e' => (no k e').2.2.2.2.2.2 j hj e hk))
      exact h1.of_block (fun k hk => heap_setCell_other _ _ _ _ (by exact (h.nown j hj k hk).2.2.1))
  · intro j hj k hk
    by_cases e : j = i
    · subst e
      simp only [if_true] at hk
      rw [eqg k hk]
      refine ⟨hown.1, hown.2.1, hown.2.2.1, hown.2.2.2.1, hown.2.2.2.2.1, hown.2.2.2.2.2.1, fun m hm hne => ?_⟩
      simp only [hne, if_false]
      exact hown.2.2.2.2.2.2 m hm hne
    · simp only [e, if_false] at hk
      obtain ⟨a1, a2, a3, a4, a5, a6, a7⟩ := h.nown j hj k hk
      refine ⟨a1, a2, a3, a4, a5, a6, fun m hm hne => ?_⟩
      by_cases e2 : m = i
      · subst e2
        simp only [if_true]
        intro e3
        rw [eqg k e3] at hk
        exact hown.2.2.2.2.2.2 j hj e hk
      · simp only [e2, if_false]
        exact a7 m hm hne

/-! ### the arcs, round by round -/
def NNo (ids : List Int) (TL : Int → List Int) (i j : Nat) : List Nat := if j < i then nextOf ids (TL (ids.getD j 0)) else []
def NNi (ids : List Int) (TL : Int → List Int) (i e j : Nat) : List Nat := if j = i then ((TL (ids.getD i 0)).take e).filterMap (posTo ids ids.length) else NNo ids TL i j
theorem NNi_zero (ids : List Int) (TL : Int → List Int) (i : Nat) : NNi ids TL i 0 = NNo ids TL i := by
  funext j
  unfold NNi NNo
  by_cases e : j = i
  · subst e; simp
  · simp [e]
theorem NNi_full (ids : List Int) (TL : Int → List Int) (i e : Nat) (he : (TL (ids.getD i 0)).length ≤ e) : NNi ids TL i e = NNo ids TL (i + 1) := by
  funext j
  unfold NNi NNo nextOf
  by_cases h : j = i
  · subst h
    rw [if_pos rfl, if_pos (by omega), List.take_of_length_le he]
  · by_cases h2 : j < i
    · rw [if_neg h, if_pos h2, if_pos (by omega)]
    · rw [if_neg h, if_neg h2, if_neg (by omega)]
theorem take_snoc (l : List Int) (e : Nat) (h : e < l.length) : l.take (e + 1) = l.take e ++ [l.getD e 0] := by
  rw [List.take_succ_eq_append_getElem h, List.getD, List.getElem?_eq_getElem h]
  rfl
theorem NNi_some (ids : List Int) (TL : Int → List Int) (i e p : Nat) (he : e < (TL (ids.getD i 0)).length) (hp : posTo ids ids.length ((TL (ids.getD i 0)).getD e 0) = some p) :
    (fun j => if j = i then NNi ids TL i e i ++ [p] else NNi ids TL i e j) = NNi ids TL i (e + 1) := by
  funext j
  unfold NNi
  by_cases h : j = i
  · subst h
    simp only [if_true]
    rw [take_snoc _ _ he, List.filterMap_append, List.filterMap_cons, hp]
    simp
  · simp [h]
theorem NNi_none (ids : List Int) (TL : Int → List Int) (i e : Nat) (he : e < (TL (ids.getD i 0)).length) (hp : posTo ids ids.length ((TL (ids.getD i 0)).getD e 0) = none) :
    NNi ids TL i (e + 1) = NNi ids TL i e := by
  funext j
  unfold NNi
  by_cases h : j = i
  · subst h
    simp only [if_true]
    rw [take_snoc _ _ he, List.filterMap_append, List.filterMap_cons, hp]
    simp
  · simp [h]
theorem NNi_len (ids : List Int) (TL : Int → List Int) (i e : Nat) : (NNi ids TL i e i).length ≤ e := by
  unfold NNi
  rw [if_pos rfl]
  exact Nat.le_trans (List.length_filterMap_le _ _) (by simp; omega)
theorem St3.of1 {w wr : World} {n gs gp g1 g2 : Nat} {fld : Nat → Value} {vi : Value} {ids : List Int} (h : St1 w wr n gs g1 g2 fld vi (ids.map ku)) (hm : MapIs ku wr gp (lookP ids n))
    (hp : w.heap.size ≤ gp ∧ gp ≠ gs ∧ gp ≠ g1 ∧ gp ≠ g2 ∧ vi.ownBlock ≠ some gp) (TL : Int → List Int) : St3 w wr n gs gp g1 g2 fld vi ids (fun _ => .slice none 0 0) (NNo ids TL 0) := by
  refine ⟨h.chg, h.row, h.lst, fun g hg => ?_, hm, h.r1, h.r2, fun i hi => ?_, fun i hi g hg => ?_, ⟨h.new.1, h.new.2.1, h.new.2.2, hp.1⟩, ⟨h.apart.1, h.apart.2.1, h.apart.2.2, hp.2.1, hp.2.2.1, hp.2.2.2.1⟩⟩
  · obtain ⟨a, b, c, d⟩ := h.own g hg
    exact ⟨a, b, c, d, fun e => hp.2.2.2.2 (by rw [← e]; exact hg)⟩
  · simp only [NNo, Nat.not_lt_zero, if_false, List.map_nil]
    exact Lst.nil _ _
  · simp [Value.ownBlock] at hg
/-- each list of arcs is a slice -/
theorem St3.shape {w wr : World} {n gs gp g1 g2 : Nat} {fld : Nat → Value} {vi : Value} {ids : List Int} {nv : Nat → Value} {N : Nat → List Nat} (h : St3 w wr n gs gp g1 g2 fld vi ids nv N) (i : Nat) (hi : i < n) :
    ∃ a c, nv i = .slice a (N i).length c := by
  obtain ⟨a, c, e⟩ := (h.nx i hi).shape
  exact ⟨a, c, by simpa using e⟩
theorem St3.drewN {w wr : World} {n gs gp g1 g2 : Nat} {fld : Nat → Value} {vi : Value} {ids : List Int} {nv : Nat → Value} {N : Nat → List Nat} (h : St3 w wr n gs gp g1 g2 fld vi ids nv N) (m : Nat) : St3 w (wr.drewN m) n gs gp g1 g2 fld vi ids nv N :=
  ⟨h.chg.drewN m, h.row, h.lst, h.own, h.map, h.r1, h.r2, h.nx, h.nown, h.new, h.apart⟩

/-! ### the arcs behind each place -/
theorem after_last (N : Nat → List Nat) (n i : Nat) (h : n ≤ i + 1) : afterOf N n i = 0 := by
  unfold afterOf
  rw [show n - (i + 1) = 0 by omega]
  rfl
theorem after_step (N : Nat → List Nat) (n i : Nat) (h : i + 1 < n) : afterOf N n i = afterOf N n (i + 1) + (N (i + 1)).length := by
  unfold afterOf
  rw [show n - (i + 1) = (n - (i + 1 + 1)) + 1 by omega, List.range_succ_eq_map]
  simp only [List.map_cons, List.sum_cons, List.map_map, Nat.add_zero]
  rw [Nat.add_comm]
  congr 2
  apply List.map_congr_left
  intro d _
  simp only [Function.comp]
  rw [show i + 1 + (d + 1) = i + 1 + 1 + d by omega]
theorem sum_le (l : List Nat) (b : Nat) (h : ∀ x ∈ l, x ≤ b) : l.sum ≤ l.length * b := by
  induction l with
  | nil => simp
  | cons a l ih =>
    have h1 := h a (by simp)
    have h2 := ih (fun x hx => h x (by simp [hx]))
    simp only [List.sum_cons, List.length_cons, Nat.succ_mul]
    omega
theorem after_le (N : Nat → List Nat) (n i : Nat) (hN : ∀ j, (N j).length ≤ 1048576) (hn : n ≤ 1048576) : afterOf N n i ≤ 1099511627776 := by
  unfold afterOf
  refine Nat.le_trans (sum_le _ 1048576 ?_) ?_
  · intro x hx
    simp at hx
    obtain ⟨d, _, rfl⟩ := hx
    exact hN _
  · simp only [List.length_map, List.length_range]
    have : (n - (i + 1)) * 1048576 ≤ 1048576 * 1048576 := Nat.mul_le_mul_right _ (by omega)
    omega
theorem NNo_len (ids : List Int) (TL : Int → List Int) (i j : Nat) (h : ∀ k, (TL k).length ≤ 1048576) : (NNo ids TL i j).length ≤ 1048576 := by
  unfold NNo nextOf
  split
  · exact Nat.le_trans (List.length_filterMap_le _ _) (h _)
  · simp

structure St5 (w wr : World) (n gs g1 g2 : Nat) (fld : Nat → Value) (vi : Value) (ids : List Int) (nv : Nat → Value) (N : Nat → List Nat) (f : Nat → Value) : Prop where
  chg : Chg w wr (fun _ => False)
  row : wr.rowIs gs 56 12 (fun i => if i = 0 then vi else fld i)
  lst : Lst wr 48 vi (ids.map ku)
  own : ∀ g, vi.ownBlock = some g → w.heap.size ≤ g ∧ g ≠ g2
  r1 : wr.rowIs g1 30 n nv
  r2 : wr.rowIs g2 3 n f
  nx : ∀ i, i < n → Lst wr 3 (nv i) ((N i).map ki)
  nown : ∀ i, i < n → ∀ g, (nv i).ownBlock = some g → w.heap.size ≤ g ∧ g ≠ g2
  new : w.heap.size ≤ gs ∧ w.heap.size ≤ g1 ∧ w.heap.size ≤ g2
  apart : gs ≠ g2 ∧ g1 ≠ g2
theorem St3.to5 {w wr : World} {n gs gp g1 g2 : Nat} {fld : Nat → Value} {vi : Value} {ids : List Int} {nv : Nat → Value} {N : Nat → List Nat} (h : St3 w wr n gs gp g1 g2 fld vi ids nv N) : St5 w wr n gs g1 g2 fld vi ids nv N (fun _ => .int .i64 0) :=
  ⟨h.chg, h.row, h.lst, fun g hg => ⟨(h.own g hg).1, (h.own g hg).2.2.2.1⟩, h.r1, h.r2, h.nx, fun i hi g hg => ⟨(h.nown i hi g hg).1, (h.nown i hi g hg).2.2.2.1⟩, ⟨h.new.1, h.new.2.1, h.new.2.2.1⟩, ⟨h.apart.2.1, h.apart.2.2.1⟩⟩
theorem St5.set {w wr : World} {n gs g1 g2 : Nat} {fld : Nat → Value} {vi : Value} {ids : List Int} {nv : Nat → Value} {N : Nat → List Nat} {f : Nat → Value} (h : St5 w wr n gs g1 g2 fld vi ids nv N f) (i : Nat) (v : Value) :
    St5 w (wr.setCell ⟨g2, i, none⟩ v) n gs g1 g2 fld vi ids nv N (fun j => if j = i then v else f j) :=
  ⟨h.chg.setCell (fun hlt => by have := h.new.2.2; simp only at hlt; omega) v, h.row.setOther h.apart.1 v, h.lst.of_block (fun k hk => heap_setCell_other _ _ _ _ (h.own k hk).2), h.own, h.r1.setOther h.apart.2 v, h.r2.set i v,
    fun j hj => (h.nx j hj).of_block (fun k hk => heap_setCell_other _ _ _ _ (h.nown j hj k hk).2), h.nown, h.new, h.apart⟩
theorem St5.congr {w wr : World} {n gs g1 g2 : Nat} {fld : Nat → Value} {vi : Value} {ids : List Int} {nv : Nat → Value} {N : Nat → List Nat} {f g : Nat → Value} (h : St5 w wr n gs g1 g2 fld vi ids nv N f) (e : ∀ i, i < n → f i = g i) : St5 w wr n gs g1 g2 fld vi ids nv N g :=
  ⟨h.chg, h.row, h.lst, h.own, h.r1, h.r2.congr e, h.nx, h.nown, h.new, h.apart⟩
theorem St5.drew {w wr : World} {n gs g1 g2 : Nat} {fld : Nat → Value} {vi : Value} {ids : List Int} {nv : Nat → Value} {N : Nat → List Nat} {f : Nat → Value} (h : St5 w wr n gs g1 g2 fld vi ids nv N f) : St5 w wr.drew n gs g1 g2 fld vi ids nv N f :=
  ⟨h.chg.drew, h.row, h.lst, h.own, h.r1, h.r2, h.nx, h.nown, h.new, h.apart⟩
/-- the arcs' row while it is filled from behind: the places from m on are done -/
def fillA (N : Nat → List Nat) (n m j : Nat) : Value := if m ≤ j then .int .i64 (afterOf N n j : Nat) else .int .i64 0

/-- what newCycleReader leaves -/
def ReaderPost (w w' : World) (n : Nat) (ids : List Int) (N : Nat → List Nat) (e : Ending) : Prop :=
  ∃ gs g1 g2 gi cap fld nv, e = .returned (.pointer (some ⟨gs, 0, none⟩)) ∧ fld 1 = .slice (some ⟨g1, 0, none⟩) n n ∧ fld 2 = .slice (some ⟨g2, 0, none⟩) n n ∧ FldShape n fld ∧
    St5 w w' n gs g1 g2 fld (.slice (some ⟨gi, 0, none⟩) n cap) ids nv N (fun j => .int .i64 (afterOf N n j : Nat))
end Go.Proofs.Qxb6602686a
