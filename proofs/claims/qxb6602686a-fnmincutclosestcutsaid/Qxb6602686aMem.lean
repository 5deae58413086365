import Derived.Test.Qxb6602686aMaps
import Derived.Maps.AppendAt
namespace Go.Proofs.Qxb6602686a
open Go.RowKit

/-! ### what has turned: only blocks of S, and new ones -/
structure Chg (w w' : World) (S : Nat → Prop) : Prop where
  os : w'.os = w.os
  tape : w'.tape = w.tape
  output : w'.output = w.output
  size : w.heap.size ≤ w'.heap.size
  block : ∀ k, k < w.heap.size → ¬ S k → w'.heap[k]? = w.heap[k]?

theorem Chg.refl (w : World) (S : Nat → Prop) : Chg w w S := ⟨rfl, rfl, rfl, Nat.le_refl _, fun _ _ _ => rfl⟩
theorem Chg.trans {a b c : World} {S : Nat → Prop} (h : Chg a b S) (k : Chg b c S) : Chg a c S :=
  ⟨k.os.trans h.os, k.tape.trans h.tape, k.output.trans h.output, Nat.le_trans h.size k.size, fun i hi hs => (k.block i (Nat.lt_of_lt_of_le hi h.size) hs).trans (h.block i hi hs)⟩
/-- what turns behind a has turned from a: blocks that are new to a may turn -/
theorem Chg.trans' {a b c : World} {S S' : Nat → Prop} (h : Chg a b S) (k : Chg b c S') (hS : ∀ i, i < a.heap.size → S' i → S i) : Chg a c S :=
  ⟨k.os.trans h.os, k.tape.trans h.tape, k.output.trans h.output, Nat.le_trans h.size k.size, fun i hi hs => (k.block i (Nat.lt_of_lt_of_le hi h.size) (fun h' => hs (hS i hi h'))).trans (h.block i hi hs)⟩
theorem Chg.mono {a b : World} {S S' : Nat → Prop} (h : Chg a b S) (hS : ∀ i, i < a.heap.size → S i → S' i) : Chg a b S' :=
  ⟨h.os, h.tape, h.output, h.size, fun i hi hs => h.block i hi (fun h' => hs (hS i hi h'))⟩
theorem Chg.alloc {a b : World} {S : Nat → Prop} (h : Chg a b S) (o : Obj) : Chg a (b.alloc o) S :=
  h.trans ⟨rfl, rfl, rfl, by simp, fun k hk _ => Below.heap_alloc _ _ _ hk⟩
theorem Chg.setCell {a b : World} {S : Nat → Prop} (h : Chg a b S) {p : Addr} (hp : p.block < a.heap.size → S p.block) (u : Value) : Chg a (b.setCell p u) S :=
  ⟨h.os, h.tape, h.output, by simpa using h.size, fun k hk hs => by
    rw [heap_setCell_other _ _ _ _ (fun e => hs (by subst e; exact hp hk))]
    exact h.block k hk hs⟩
theorem Chg.drew {a b : World} {S : Nat → Prop} (h : Chg a b S) : Chg a b.drew S := ⟨h.os, h.tape, h.output, h.size, h.block⟩
theorem Chg.drewN {a b : World} {S : Nat → Prop} (h : Chg a b S) (n : Nat) : Chg a (b.drewN n) S := ⟨h.os, h.tape, h.output, h.size, h.block⟩
theorem Chg.of_below {w w' : World} (h : Below w.heap.size w w') (S : Nat → Prop) : Chg w w' S := ⟨h.os, h.tape, h.output, h.size, fun k hk _ => h.block k hk⟩
theorem Chg.below {w w' : World} {S : Nat → Prop} (h : Chg w w' S) (hS : ∀ k, k < w.heap.size → ¬ S k) : Below w.heap.size w w' := ⟨h.os, h.tape, h.output, h.size, fun k hk => h.block k hk (hS k hk)⟩
theorem Chg.setObj {a b : World} {S : Nat → Prop} (h : Chg a b S) {g : Nat} (hg : g < a.heap.size → S g) (o : Obj) : Chg a { b with heap := b.heap.setIfInBounds g o } S :=
  ⟨h.os, h.tape, h.output, by simpa using h.size, fun k hk hs => by
    show (b.heap.setIfInBounds g o)[k]? = _
    rw [Array.getElem?_setIfInBounds, if_neg (fun e => hs (by subst e; exact hg hk))]
    exact h.block k hk hs⟩

/-! ### a slice that grows by append -/
def Lst (w : World) (E : TypeId) (v : Value) (xs : List Value) : Prop := w.ownsRow 0 E 1 v xs.length xs
theorem Lst.nil (w : World) (E : TypeId) : Lst w E (.slice none 0 0) [] := World.ownsRow_nil w 0 E 1
theorem Lst.of_block {w w' : World} {E : TypeId} {v : Value} {xs : List Value} (h : Lst w E v xs) (hb : ∀ g, v.ownBlock = some g → w'.heap[g]? = w.heap[g]?) : Lst w' E v xs := by
  obtain ⟨h1, h2⟩ := h
  refine ⟨h1, ?_⟩
  rcases h2 with h2 | ⟨g, cap, cur, rfl, hg, hh, r⟩
  · exact .inl h2
  · exact .inr ⟨g, cap, cur, rfl, hg, (hb g rfl).trans hh, r⟩
theorem Lst.lt {w : World} {E : TypeId} {v : Value} {xs : List Value} (h : Lst w E v xs) {g : Nat} (hg : v.ownBlock = some g) : g < w.heap.size := (World.ownsRow.lt h g hg).2
theorem Lst.chg {w w' : World} {E : TypeId} {v : Value} {xs : List Value} {S : Nat → Prop} (h : Lst w E v xs) (hc : Chg w w' S) (hS : ∀ g, v.ownBlock = some g → ¬ S g) : Lst w' E v xs :=
  h.of_block fun g hg => hc.block g (h.lt hg) (hS g hg)
theorem Lst.shape {w : World} {E : TypeId} {v : Value} {xs : List Value} (h : Lst w E v xs) : ∃ a cap, v = .slice a xs.length cap := by
  rcases h.2 with ⟨rfl, h0⟩ | ⟨g, cap, cur, rfl, _⟩
  · exact ⟨none, 0, by rw [h0]⟩
  · exact ⟨_, cap, rfl⟩
theorem Lst.sv {w : World} {E : TypeId} {v : Value} {xs : List Value} (h : Lst w E v xs) (hn : xs.length ≤ 281474976710656) (f : Nat → Value) (hf : ∀ j x, xs[j]? = some x → x = f j) : SV w v xs.length f := by
  have h' := h
  obtain ⟨hl, h2⟩ := h
  rcases h2 with ⟨rfl, h0⟩ | ⟨g, cap, cur, rfl, hg, hh, hcap, hm, hcs, ht⟩
  · exact ⟨none, 0, by rw [h0], hn, fun h => by omega, fun j hj => by omega⟩
  · refine ⟨some ⟨g, 0, none⟩, cap, rfl, hn, fun _ => ⟨g, 0, rfl⟩, fun j hj => ?_⟩
    have hx : xs[j]? = some xs[j] := List.getElem?_eq_getElem hj
    have := World.ownsRow.cells h' (g := g) rfl j xs[j] hx
    rw [Addr.add_lit] at this
    rw [← hf j _ hx]
    exact this

theorem append1 {T E ty : TypeId} {z : Value} {bytes : Nat} {w : World} {v : Value} {xs : List Value} (hT : Try.prog.underlying T = some (.slice E))
    (hinfo : (Try.prog.info? E).map (fun i => (i.zero, i.size, i.bytes)) = some (some z, 1, bytes)) (hz1 : z.cells.size = 1) (hby : bytes ≤ 24)
    (h : Lst w E v xs) (x : Value) (hx : x.oneCell' = true) (hlen : xs.length ≤ 1048576) :
    ∃ g cap w', (Builtin.append_ #[T, T] ty #[v, .slice (some ⟨w.heap.size, 0, none⟩) 1 1]).run Try.prog (w.alloc (.cells #[x] E)) = .ok (.slice (some ⟨g, 0, none⟩) (xs.length + 1) cap) w' ∧
      Lst w' E (.slice (some ⟨g, 0, none⟩) (xs.length + 1) cap) (xs ++ [x]) ∧ (v.ownBlock = some g ∨ w.heap.size ≤ g) ∧ Chg w w' (fun k => v.ownBlock = some k) := by
  obtain ⟨i, hi, hz0, hz1', hz2⟩ := info_parts hinfo
  obtain ⟨v', w', hr, ho, hg, hnil, hat⟩ := run_append_own_at (P := Try.prog) (w.alloc (.cells #[x] E)) 0 T ty E i z 1 bytes hT hi hz0 hz1' hz2 hz1 (by omega) v xs.length xs (World.ownsRow.alloc h _)
    ⟨w.heap.size, 0, none⟩ 1 1 [x] rfl (cell_one_new w x E) (by intro u hu; simp at hu; rw [hu]; exact hx) (by unfold maxLen; omega) (by
      have : (xs.length + 1) * bytes ≤ 1048577 * 24 := Nat.mul_le_mul (by omega) hby
      omega) (Nat.zero_le _)
  have hC : Chg w w' (fun k => v.ownBlock = some k) := by
    refine ⟨hg.os, hg.tape, hg.output, Nat.le_trans (by simp) hg.size, fun k hk hs => ?_⟩
    rw [hg.block k (by simp; omega) (fun e => hs e.symm)]
    exact Below.heap_alloc _ _ _ hk
  have ho2 := ho.2
  rcases ho2 with ⟨_, h0⟩ | ⟨g, cap, cur, rfl, hb, hh, r⟩
  · omega
  · refine ⟨g, cap, w', hr, ?_, ?_, hC⟩
    · show w'.ownsRow 0 E 1 _ (xs ++ [x]).length (xs ++ [x])
      rw [List.length_append]
      exact ho
    · rcases hat with h' | h'
      · exact .inl h'.symm
      · right
        have : g = w.heap.size + 1 := by simpa [Value.ownBlock] using h'
        omega

/-- at the operation: an append whose run is known -/
theorem wpList_append_eq {ops : Array Oper} {rest : List Oper} {o : Oper} {a : Act} {w : World} {Q : Exit → Act → World → Prop} (hgd : o.guard = none) (s x : Operand) (t : TypeId)
    (ho : o.op = .call { callee := .builtin .append, args := #[s, x], argTypes := #[t, t] }) (v xv v' : Value) (w' : World) (hs : a.eval s = v) (hx : a.eval x = xv)
    (hr : ∀ ty, (Builtin.append_ #[t, t] ty #[v, xv]).run Try.prog w = .ok v' w') (h : wpList Try.prog ops Q rest (a.put o.dst v') w') : wpList Try.prog ops Q (o :: rest) a w := by
  refine wpList_plain hgd fun K hK => ?_
  unfold Oper.wp execOp
  simp only [ho, resolve, invoke, builtin, Sem.run_bind, Sem.run_pure, Result.andThen_ok, List.map_toArray, List.map_cons, List.map_nil, hs, hx, hr]
  exact hK _ _ h
/-- .. as one step of a region that draws -/
theorem step_append_eq {ops : Array Oper} {o : Oper} {a : Act} {w : World} {K : Act → World → Prop} {Q : Exit → Act → World → Prop} {E : Prop} (hg : o.guard = none) (s x : Operand) (t : TypeId)
    (ho : o.op = .call { callee := .builtin .append, args := #[s, x], argTypes := #[t, t] }) (v xv v' : Value) (w' : World) (hs : a.eval s = v) (hx : a.eval x = xv)
    (hr : ∀ ty, (Builtin.append_ #[t, t] ty #[v, xv]).run Try.prog w = .ok v' w') (hK : K (a.put o.dst v') w') :
    if Region.wanted o (yielded ops a.tmps) = true then Oper.wp Try.prog o a w K Q else E := by
  have hw : Region.wanted o (yielded ops a.tmps) = true := by simp [Region.wanted, hg]
  rw [if_pos hw]
  unfold Oper.wp execOp
  simp only [ho, resolve, invoke, builtin, Sem.run_bind, Sem.run_pure, Result.andThen_ok, List.map_toArray, List.map_cons, List.map_nil, hs, hx, hr]
  exact hK
end Go.Proofs.Qxb6602686a
