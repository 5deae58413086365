import Derived.Test.Qxb6602686aMem
import Derived.ArgAppend
namespace Go.Proofs.Qxb6602686a
open Go.RowKit

/-! ### a queue of ints: 'append' behind, 'q = q[1:]' in front -/
def kn (y : Nat) : Value := .int .i64 (y : Nat)
def Que (w : World) (v : Value) (xs : List Nat) : Prop :=
  (v = .slice none 0 0 ∧ xs = []) ∨
  ∃ g off cap cur, v = .slice (some ⟨g, off, none⟩) xs.length cap ∧ w.heap[g]? = some (.cells cur 3 (0, 0)) ∧ xs.length ≤ cap ∧ cap ≤ maxLen ∧ off + cap ≤ cur.size ∧ ∀ j y, xs[j]? = some y → cur[off + j]? = some (kn y)

theorem Que.of_block {w w' : World} {v : Value} {xs : List Nat} (h : Que w v xs) (hb : ∀ g, v.ownBlock = some g → w'.heap[g]? = w.heap[g]?) : Que w' v xs := by
  rcases h with h | ⟨g, off, cap, cur, rfl, hh, r⟩
  · exact .inl h
  · exact .inr ⟨g, off, cap, cur, rfl, (hb g rfl).trans hh, r⟩
theorem Que.lt {w : World} {v : Value} {xs : List Nat} (h : Que w v xs) {g : Nat} (hg : v.ownBlock = some g) : g < w.heap.size := by
  rcases h with ⟨rfl, _⟩ | ⟨g', off, cap, cur, rfl, hh, _⟩
  · cases hg
  · cases hg
    exact (Array.getElem?_eq_some_iff.1 hh).1
theorem Que.chg {w w' : World} {v : Value} {xs : List Nat} {S : Nat → Prop} (h : Que w v xs) (hc : Chg w w' S) (hS : ∀ g, v.ownBlock = some g → ¬ S g) : Que w' v xs :=
  h.of_block fun g hg => hc.block g (h.lt hg) (hS g hg)
theorem Que.shape {w : World} {v : Value} {xs : List Nat} (h : Que w v xs) : ∃ a c, v = .slice a xs.length c := by
  rcases h with ⟨rfl, rfl⟩ | ⟨g, off, cap, cur, rfl, _⟩
  · exact ⟨none, 0, rfl⟩
  · exact ⟨_, _, rfl⟩
theorem Que.sv {w : World} {v : Value} {xs : List Nat} (h : Que w v xs) (hn : xs.length ≤ 1048576) : SV w v xs.length (fun j => kn (xs.getD j 0)) := by
  rcases h with ⟨rfl, rfl⟩ | ⟨g, off, cap, cur, rfl, hh, h1, h2, h3, h4⟩
  · exact SV.nil w _
  · refine ⟨_, _, rfl, by omega, fun _ => ⟨g, off, rfl⟩, fun j hj => ?_⟩
    have hx := h4 j xs[j] (List.getElem?_eq_getElem hj)
    show w.cell? ⟨g, off + j, none⟩ = _
    simp only [World.cell?, hh, Option.isSome_none, Bool.false_eq_true, if_false, hx]
    rw [List.getD, List.getElem?_eq_getElem hj]
    rfl
theorem Que.one (w : World) (y : Nat) : Que (w.alloc (.cells #[kn y] 3)) (.slice (some ⟨w.heap.size, 0, none⟩) 1 1) [y] := by
  refine .inr ⟨w.heap.size, 0, 1, #[kn y], rfl, ?_, by simp, by unfold maxLen; omega, by simp, fun j z hz => ?_⟩
  · show (w.heap.push _)[w.heap.size]? = _
    simp only [Array.getElem?_push_size]
  · cases j with
    | zero => simp at hz; rw [hz]; rfl
    | succ j => simp at hz
theorem Que.of_owns {w : World} {B : Nat} {v : Value} {xs : List Nat} (h : w.ownsRow B 3 1 v xs.length (xs.map kn)) : Que w v xs := by
  obtain ⟨_, h2⟩ := h
  rcases h2 with ⟨rfl, h0⟩ | ⟨g, cap, cur, rfl, hb, hh, h1, h2, h3, h4⟩
  · exact .inl ⟨rfl, List.eq_nil_of_length_eq_zero h0⟩
  · refine .inr ⟨g, 0, cap, cur, rfl, hh, h1, h2, by omega, fun j y hy => ?_⟩
    have hj : j < xs.length := (List.getElem?_eq_some_iff.1 hy).1
    have h5 : (cur.toList.take (xs.length * 1))[j]? = some (kn y) := by rw [h4]; simp [hy]
    rw [List.getElem?_take_of_lt (by omega)] at h5
    simpa using h5

theorem Que.push {w : World} {v : Value} {xs : List Nat} (h : Que w v xs) (y : Nat) (hl : xs.length ≤ 1048576) :
    ∃ v' w', (∀ ty, (Builtin.append_ #[30, 30] ty #[v, .slice (some ⟨w.heap.size, 0, none⟩) 1 1]).run Try.prog (w.alloc (.cells #[.int .i64 (y : Nat)] 3)) = .ok v' w') ∧
      Que w' v' (xs ++ [y]) ∧ (∀ g, v'.ownBlock = some g → v.ownBlock = some g ∨ w.heap.size ≤ g) ∧ Chg w w' (fun k => v.ownBlock = some k) := by
  obtain ⟨i, hi, hz0, hz1', hz2⟩ := info_parts info3
  have hnews : ∀ (j : Nat) (u : Value), [kn y][j]? = some u → (w.alloc (.cells #[kn y] 3)).cell? ((⟨w.heap.size, 0, none⟩ : Addr).add j) = some u := cell_one_new w (kn y) 3
  have h1c : ∀ u ∈ [kn y], u.oneCell' = true := by intro u hu; simp at hu; rw [hu]; rfl
  rcases h with ⟨rfl, rfl⟩ | ⟨g, off, cap, cur, rfl, hh, h1, h2, h3, h4⟩
  · obtain ⟨g, cap, w', hr, hl', hg, hc⟩ := append1 (T := 30) (E := 3) (ty := 30) (z := .int .i64 0) (bytes := 8) Try.underlying30 info3 rfl (by omega) (Lst.nil w 3) (kn y) rfl (by simp)
    refine ⟨_, w', fun ty => hr, Que.of_owns (B := 0) (xs := [y]) hl', fun k hk => ?_, hc⟩
    right
    have : k = g := by simpa [Value.ownBlock] using hk.symm
    rcases hg with e | e
    · simp [Value.ownBlock] at e
    · omega
  · have hgl : g < w.heap.size := (Array.getElem?_eq_some_iff.1 hh).1
    have hh1 : (w.alloc (.cells #[kn y] 3)).heap[g]? = some (.cells cur 3 (0, 0)) := (Below.heap_alloc w _ g hgl).trans hh
    by_cases hroom : xs.length + 1 ≤ cap
    · have hcell : ∀ j, j < [kn y].length → ((w.alloc (.cells #[kn y] 3)).cell? ⟨g, off + xs.length * i.size + j, none⟩).isSome = true := by
        intro j hj
        simp at hj
        subst hj
        rw [hz1']
        simp only [World.cell?, hh1, Option.isSome_none, Bool.false_eq_true, if_false]
        rw [Array.getElem?_eq_getElem (by omega)]
        rfl
      have hfr : ∀ j, j < [kn y].length → (w.alloc (.cells #[kn y] 3)).frozen? ⟨g, off + xs.length * i.size + j, none⟩ = false := by
        intro j hj
        simp [World.frozen?, hh1]
      have hr := fun ty => run_append_room_cells (P := Try.prog) (w.alloc (.cells #[kn y] 3)) 30 ty 3 i Try.underlying30 hi g off xs.length cap ⟨w.heap.size, 0, none⟩ 1 1 [kn y] (by rw [hz1']; rfl) hnews h1c hroom hcell hfr
      rw [hz1', Nat.mul_one] at hr
      have hset : (w.alloc (.cells #[kn y] 3)).setCells g (off + xs.length) [kn y] = (w.alloc (.cells #[kn y] 3)).setCell ⟨g, off + xs.length, none⟩ (kn y) := rfl
      rw [hset] at hr
      refine ⟨_, _, hr, .inr ⟨g, off, cap, cur.setIfInBounds (off + xs.length) (kn y), by simp, ?_, by simp; omega, h2, by simp; omega, fun j z hz => ?_⟩, fun k hk => .inl ?_, ?_⟩
      · exact heap_setCell_same _ g _ cur 3 _ hh1
      · rw [List.getElem?_append] at hz
        rw [Array.getElem?_setIfInBounds]
        by_cases hj : j < xs.length
        · rw [if_pos hj] at hz
          rw [if_neg (by omega)]
          exact h4 j z hz
        · rw [if_neg hj] at hz
          have hjx : j = xs.length := by
            have := (List.getElem?_eq_some_iff.1 hz).1
            simp at this
            omega
          subst hjx
          simp at hz
          rw [if_pos rfl, if_pos (by omega), hz]
      · simpa [Value.ownBlock] using hk
      · exact Chg.setCell (p := ⟨g, off + xs.length, none⟩) (S := fun k => (Value.slice (some ⟨g, off, none⟩) xs.length cap).ownBlock = some k) ((Chg.refl _ _).alloc _) (fun _ => rfl) _
    · obtain ⟨v', w', hr, ho, hg⟩ := run_append_arg_grows (P := Try.prog) (w.alloc (.cells #[kn y] 3)) 30 30 3 i (.int .i64 0) 1 8 Try.underlying30 hi hz0 hz1' hz2 rfl (by omega) ⟨g, off, none⟩ xs.length cap (xs.map kn) (by simp)
        (fun j u hu => by
          simp only [List.getElem?_map, Option.map_eq_some_iff] at hu
          obtain ⟨z, hz, rfl⟩ := hu
          rw [Addr.add_lit]
          simp only [World.cell?, hh1, Option.isSome_none, Bool.false_eq_true, if_false]
          exact h4 j z hz)
        ⟨w.heap.size, 0, none⟩ 1 1 [kn y] rfl hnews (by omega) (by unfold maxLen; omega) (by omega)
      have e2 : xs.map kn ++ [kn y] = (xs ++ [y]).map kn := by simp
      have ho' : w'.ownsRow (w.alloc (.cells #[kn y] 3)).heap.size 3 1 v' (xs ++ [y]).length ((xs ++ [y]).map kn) := by
        rw [← e2, List.length_append]; exact ho
      refine ⟨v', w', fun ty => hr, Que.of_owns ho', fun k hk => .inr ?_, ⟨hg.os, hg.tape, hg.output, Nat.le_trans (by simp) hg.size, fun k hk _ => ?_⟩⟩
      · have := (World.ownsRow.lt ho k hk).1
        simp at this
        omega
      · rw [hg.block k (by simp; omega) (by simp)]
        exact Below.heap_alloc _ _ _ hk

theorem elem30 : Try.prog.elem 30 = 3 := by simp [Program.elem, Try.underlying30]
theorem Que.pop {w : World} {v : Value} {x : Nat} {xs : List Nat} (h : Que w v (x :: xs)) :
    ∃ v', (∀ w2, (Instr.slice 30 v (some (.int .i64 1)) none none).run Try.prog w2 = .ok v' w2) ∧ Que w v' xs ∧ v'.ownBlock = v.ownBlock := by
  rcases h with ⟨rfl, h0⟩ | ⟨g, off, cap, cur, rfl, hh, h1, h2, h3, h4⟩
  · cases h0
  · simp only [List.length_cons] at h1
    have hr : ∀ w2, (Instr.slice 30 (.slice (some ⟨g, off, none⟩) (xs.length + 1) cap) (some (.int .i64 1)) none none).run Try.prog w2 = .ok (sliced (some ⟨g, off, none⟩) 1 (xs.length + 1) cap 1) w2 := fun w2 => by
      rw [run_slice_l (P := Try.prog) (w := w2) 30 (some ⟨g, off, none⟩) (xs.length + 1) cap (by rw [elem30]; exact Try.underlying30) .i64 1 (by omega) (by omega), elem30, sz3]
      rfl
    by_cases hc : cap = 1
    · subst hc
      have hx : xs = [] := List.eq_nil_of_length_eq_zero (by omega)
      subst hx
      exact ⟨_, hr, .inr ⟨g, off, 0, cur, rfl, hh, by simp, by unfold maxLen; omega, by omega, fun j y hy => by simp at hy⟩, rfl⟩
    · refine ⟨_, hr, .inr ⟨g, off + 1, cap - 1, cur, ?_, hh, by omega, by omega, by omega, fun j y hy => ?_⟩, ?_⟩
      · simp [sliced, hc, Addr.add_lit]
      · have := h4 (j + 1) y (by simpa using hy)
        rw [← this]
        congr 1
        omega
      · simp [sliced, hc, Addr.add_lit, Value.ownBlock]
end Go.Proofs.Qxb6602686a
