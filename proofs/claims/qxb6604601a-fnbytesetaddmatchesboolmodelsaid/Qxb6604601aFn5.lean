import Derived.Test.Qxb6604601aWalkA
import Derived.ChangeKeysEq
import Derived.Deep.RegionHeld3
import Derived.Deep.MidRow
namespace Go.Proofs.Qxb6604601a
open Go.RowKit

theorem setRow_last (w : World) (c d : Array Value) (t : TypeId) (n : Nat) (hn : n = w.heap.size) : (w.alloc (.cells c t)).setRow n d = w.alloc (.cells d t) := by
  subst hn
  unfold World.setRow World.alloc
  congr 1
  apply Array.ext_getElem?
  intro k
  simp only [Array.getElem?_modify, Array.getElem?_push]
  by_cases h1 : k = w.heap.size
  · subst h1; simp
  · simp [h1, Ne.symm h1]
theorem setRow_drew (w : World) (n : Nat) (d : Array Value) : w.drew.setRow n d = (w.setRow n d).drew := rfl

theorem eqItems36 (w : World) (f : Nat → Bool) : ∀ (l : List Nat), (∀ i ∈ l, i < 256) → (Op.eqItems 9999 4 1 (barr f) (barr f) l).run Try.prog w = .ok true w
  | [], _ => by simp [Op.eqItems]
  | i :: l, h => by
    have hi : i < 256 := h i (by simp)
    have hp : (part 4 (barr f) i).run Try.prog w = .ok (.bool (f i)) w := by
      simp [part, isAgg, run_underlying Try.underlying4, barr_get f i hi]
    have he : (Op.equalIn 9999 4 (.bool (f i)) (.bool (f i))).run Try.prog w = .ok true w := by
      rw [run_equalIn_bool w 9998 4 _ _ Try.underlying4]; simp
    have ih := eqItems36 w f l fun j hj => h j (by simp [hj])
    simp [Op.eqItems, hp, he, ih]
theorem c4 : Try.prog.cellsOf 4 = 1 := by kernel_rfl
theorem eq36 (w : World) (f : Nat → Bool) : (Op.equalIn 10000 36 (.agg (barr f)) (.agg (barr f))).run Try.prog w = .ok true w := by
  cases hi : Try.prog.info? 4 with
  | none =>
    have : (Try.prog.info? 4).isSome = true := by kernel_rfl
    simp [hi] at this
  | some i =>
    rw [run_equalIn_array w 9999 (barr f) (barr f) Try.underlying36 hi, c4]
    exact eqItems36 w f _ (by simp)

theorem run_store_new (X : World) (f : Nat → Bool) (B : Array Value) (n : Nat) (hB : B.size = 256) (hn : n = X.heap.size) :
    Sem.run Try.prog (storeCells ⟨n, 0, none⟩ (barr f).toList) (X.alloc (.cells B 36)).drew = .ok () (X.alloc (.cells (barr f) 36)).drew := by
  have h := run_storeCells_from (P := Try.prog) n 36 (barr f).toList 0 B (X.alloc (.cells B 36)).drew
    (by show (X.alloc (.cells B 36)).heap[n]? = _; rw [heap_get, if_pos hn]) (by simp [barr_size, hB])
    (fun v hv => (Array.all_eq_true_iff_forall_mem.1 (barr_one f)) v (by simpa using hv))
  rw [h, setRow_drew, setRow_last _ _ _ _ _ hn]
  simp
theorem range_of_block (w : World) (b : Nat) (c : Array Value) (t : TypeId) (h : w.heap[b]? = some (.cells c t)) : w.rangeAt b 0 c.toList := by
  intro j v hv
  rw [Nat.zero_add, cell_of_row w b j c t (0, 0) h]
  simpa using hv

theorem range_alloc {w : World} {b : Nat} {cs : List Value} (h : w.rangeAt b 0 cs) (hb : b < w.heap.size) (o : Obj) : (w.alloc o).rangeAt b 0 cs := by
  intro j v hv
  rw [World.cell?_alloc_lt w o _ hb]
  exact h j v hv

set_option maxRecDepth 100000 in
set_option maxHeartbeats 1000000 in
theorem walk5 (x0 x1 x2 x3 v : Int) (hx : Wd x0 x1 x2 x3) (hv0 : 0 ≤ v) (hv1 : v < 256) (w : World) :
    Calls Try.prog 5 #[.agg (ws x0 x1 x2 x3), .int .u8 v] w fun e w' => e = .returned (.bool true) ∧ Grown w w' := by
  have hg := barr_get (bitAt x0 x1 x2 x3)
  have hset : (barr (bitAt x0 x1 x2 x3)).setIfInBounds v.toNat (.bool true) = barr (bitAt (ad x0 v 0) (ad x1 v 1) (ad x2 v 2) (ad x3 v 3)) := by
    rw [barr_set]
    apply barr_ext
    intro i hi
    rw [bitAt_ad _ _ _ _ _ hx hv0 i hi]
    by_cases e : i = v.toNat
    · have h' : ((v.toNat : Nat) : Int) = v := by omega
      subst e
      rw [decide_eq_true h', Bool.or_true, if_pos rfl]
    · have : ¬ (i : Int) = v := by omega
      simp [e, this]
  have hq := fun w => eq36 w (bitAt (ad x0 v 0) (ad x1 v 1) (ad x2 v 2) (ad x3 v 3))
  have hz := z36
  generalize hB : Array.replicate 256 (Value.bool false) = B at hz
  unfold ws
  go_enter Try.func5, Try.ntmps5
  go_wp2_with fail
  refine (setadd_any _ _ _ _ _ _ hv0 hv1).mono ?_
  rintro e w' ⟨rfl, c1, c2, c3, rfl⟩
  unfold ws
  go_wp2_with fail
  refine (mem_any _ _ _ _ _ (fun k => (hx k).1) (fun k => (hx k).2)).mono ?_
  rintro e w' ⟨rfl, c4, c5, c6, rfl⟩
  have hBs : B.size = 256 := by rw [← hB]; simp
  clear hB
  have hst := fun X n hn => run_store_new X (bitAt x0 x1 x2 x3) B n hBs hn
  go_wp2_with fail
  clear hst hBs hz hset hg
  have hl : (Try.prog.info? 36).map (·.size) = some (barr (bitAt (ad x0 v 0) (ad x1 v 1) (ad x2 v 2) (ad x3 v 3))).toList.length := by rw [Array.length_toList, barr_size]; exact i36
  have hu := Try.underlying36
  have hxd := hx.ad hv0
  go_region_held3 (fun w' => w'.cell? ⟨w.heap.size + 1 + 1 + 1 + 1, 0, none⟩ = some (.int .u64 (ad x0 v 0)) ∧ w'.cell? ⟨w.heap.size + 1 + 1 + 1 + 1, 1, none⟩ = some (.int .u64 (ad x1 v 1)) ∧ w'.cell? ⟨w.heap.size + 1 + 1 + 1 + 1, 2, none⟩ = some (.int .u64 (ad x2 v 2)) ∧ w'.cell? ⟨w.heap.size + 1 + 1 + 1 + 1, 3, none⟩ = some (.int .u64 (ad x3 v 3)) ∧ w.heap.size + 1 + 1 + 1 + 1 + 1 + 1 + 1 + 1 < w'.heap.size ∧ w'.rangeAt (w.heap.size + 1 + 1 + 1 + 1 + 1 + 1 + 1 + 1) 0 (barr (bitAt (ad x0 v 0) (ad x1 v 1) (ad x2 v 2) (ad x3 v 3))).toList)
    ((refine ⟨by simp [go_sem], by simp [go_sem], by simp [go_sem], by simp [go_sem], by simp, ?_⟩; refine range_of_block _ _ _ 36 ?_; simp only [heap_drew, heap_get, World.size_alloc]; simp))
    (first
      | (go_at_call 16; refine (mem_any _ _ _ _ _ (fun k => (hxd k).1) (fun k => (hxd k).2)).mono ?_; rintro e w' ⟨rfl, d1, d2, d3, rfl⟩))
  go_wp2
  go_ret
  exact ⟨rfl, by repeat (first | with_reducible exact Grown.refl _ | with_reducible apply Grown.drew | with_reducible apply Grown.alloc)⟩
end Go.Proofs.Qxb6604601a
