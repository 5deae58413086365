import Derived.Test.Qxb6602686aFit
import Derived.ProofKit
import Derived.OpenShut
import Derived.ChangeOld
import Derived.Below
import Derived.Carry
import Derived.SizedLaws
import Derived.Deep.Matrix
namespace Go.Proofs.Qxb6602686a
open Go.ChangeShapes Go.WideShapes Go.ChangeAt Go.RowKit Go.Deep

theorem own : ownKnob Try.prog.godebug = none := by kernel_rfl
theorem laidOut : laidOutB Try.prog = true := by kernel_rfl

theorem sv_of_cells {w : World} {x : Addr} {len cap : Nat} {f : Nat → Value} (hl : len ≤ 281474976710656) (h : ∀ i, i < len → w.cell? (x.add i) = some (f i)) : SV w (.slice (some x) len cap) len f := by
  obtain ⟨b, o, sp⟩ := x
  refine ⟨_, _, rfl, hl, fun h0 => ?_, fun j hj => ?_⟩
  · have hspot : sp = none := by simpa [Addr.add] using World.cell?_spot (h 0 h0)
    subst hspot
    exact ⟨b, o, rfl⟩
  · have hspot : sp = none := by simpa [Addr.add] using World.cell?_spot (h 0 (by omega))
    subst hspot
    have := h j hj
    rw [Addr.add_lit] at this
    exact this
theorem reach48 {n : Nat} (h : n * 8 ≤ reachBytes) : n ≤ 281474976710656 := by
  have := reachBytes_lt
  omega
theorem reach48' {n : Nat} (h : n * 24 ≤ reachBytes) : n ≤ 281474976710656 := by
  have := reachBytes_lt
  omega
theorem mem_weightsAll {H : Type} {P : Program} {e : TypeId} {d : DataW H} {n : Nat} : ∀ {l : List (DataW H)}, d ∈ l → n ∈ d.weights P e → n ∈ DataW.weightsAll P e l
  | [], h, _ => by cases h
  | x :: l, h, hn => by
    simp only [DataW.weightsAll, List.mem_append]
    rcases List.mem_cons.1 h with rfl | h
    · exact .inl hn
    · exact .inr (mem_weightsAll h hn)

section
variable {H : Type} {enc : TypeId × Value → H}
/-- a slice of integers that came in, as the walk sees it -/
theorem ints_sv {t q : TypeId} {k : IntKind} (ht : Try.prog.underlying t = some (.slice q)) (hq : Try.prog.underlying q = some (.int k)) (cq : Try.prog.cellsOf q = 1) (bq : Try.prog.bytesOf q = 8)
    {W : World} {a : Option Addr} {len cap : Nat} {d : DataW H} {p : List MemPlace} (h : DataW.Trod enc Try.prog W 0 (fun _ => true) true t (.slice a len cap) d p) (hz : ∀ n ∈ d.weights Try.prog t, n ≤ reachBytes) :
    ∃ z : Nat → Int, SV W (.slice a len cap) len (fun j => .int k (z j)) ∧ ∀ j, j < len → (Lit.int k (z j)).wf = true := by
  obtain ⟨fuel, hf⟩ := h
  rcases open_ints ht hq cq hf with ⟨hcs, _⟩ | ⟨x, l, c, zs, hcs, _, hl, hm, hzl, hx, hcell, hwz⟩
  · simp [Value.cells] at hcs
    obtain ⟨rfl, rfl, rfl⟩ := hcs
    exact ⟨fun _ => 0, SV.nil W _, fun j hj => by omega⟩
  · simp [Value.cells] at hcs
    obtain ⟨rfl, rfl, rfl⟩ := hcs
    have hzl' : zs.length = cap := by simpa using hzl
    simp only [Prod.mk.injEq] at hx
    have hw : (len + (cap - len)) * 8 ≤ reachBytes := hz _ (by
      rw [hx.1]
      simp [DataW.weights, ht, lits, hzl', bq, Nat.min_eq_left hl])
    have := reach48 hw
    refine ⟨fun j => zs.getD j 0, sv_of_cells (by omega) (fun i hi => hcell i (by omega)), fun j hj => hwz _ ?_⟩
    show zs.getD j 0 ∈ zs
    rw [List.getD, List.getElem?_eq_getElem (by omega)]
    exact List.getElem_mem _

theorem rows_ss {t e q : TypeId} {k : IntKind} (ht : Try.prog.underlying t = some (.slice e)) (he : Try.prog.underlying e = some (.slice q)) (hq : Try.prog.underlying q = some (.int k)) (ce : Try.prog.cellsOf e = 1) (cq : Try.prog.cellsOf q = 1) (be : Try.prog.bytesOf e = 24) (bq : Try.prog.bytesOf q = 8)
    {W : World} {a : Option Addr} {len cap : Nat} {d : DataW H} {p : List MemPlace} (h : DataW.Trod enc Try.prog W 0 (fun _ => true) true t (.slice a len cap) d p) (hz : ∀ n ∈ d.weights Try.prog t, n ≤ reachBytes) :
    ∃ (A : Nat → Option Addr) (L C : Nat → Nat) (z : Nat → Nat → Int), SS W (.slice a len cap) len A L C (fun i j => .int k (z i j)) ∧ ∀ i, i < len → ∀ j, j < L i → (Lit.int k (z i j)).wf = true := by
  obtain ⟨fuel, hf⟩ := h
  rcases open_int_rows ht he hq ce cq hf with ⟨hcs, _⟩ | ⟨x, l, c, A, L, C, Z, hcs, _, hl, hm, hx, hrows⟩
  · simp [Value.cells] at hcs
    obtain ⟨rfl, rfl, rfl⟩ := hcs
    exact ⟨fun _ => none, fun _ => 0, fun _ => 0, fun _ _ => 0, ⟨SV.nil W _, fun i hi => by omega⟩, fun i hi => by omega⟩
  · simp [Value.cells] at hcs
    obtain ⟨rfl, rfl, rfl⟩ := hcs
    simp only [Prod.mk.injEq] at hx
    have hw : (len + (cap - len)) * 24 ≤ reachBytes := hz _ (by
      rw [hx.1]
      simp [DataW.weights, ht, be])
    have hlen := reach48' hw
    have each : ∀ r, r < len → L r ≤ 281474976710656 := fun r hr => by
      obtain ⟨_, h1, _, h2, _, h3, _⟩ := hrows r (by omega)
      cases hA : A r with
      | none => have := h3 hA; omega
      | some a' =>
        have hm2 : (L r + (C r - L r)) * 8 ∈ (intRow (H := H) k (A r) (L r) (Z r)).weights Try.prog e := by
          rw [hA]
          simp [intRow, DataW.weights, he, lits, h2, bq, Nat.min_eq_left h1]
        have := hz _ (by
          rw [hx.1]
          simp only [DataW.weights, ht, List.mem_cons, List.mem_append]
          exact .inr (.inl (mem_weightsAll (List.mem_map.2 ⟨r, List.mem_range.2 hr, rfl⟩) hm2)))
        have := reach48 this
        omega
    refine ⟨A, L, C, fun i j => (Z i).getD j 0, ⟨sv_of_cells (by omega) (fun i hi => (hrows i (by omega)).1), fun i hi => ?_⟩, fun i hi j hj => ?_⟩
    · obtain ⟨_, h1, _, h2, _, h3, h4⟩ := hrows i (by omega)
      have hLi := each i hi
      cases hA : A i with
      | none =>
        have h0 := h3 hA
        have hL0 : L i = 0 := by omega
        rw [hL0]
        exact ⟨_, _, rfl, by omega, fun h => absurd h (by omega), fun j hj => absurd hj (by omega)⟩
      | some a' =>
        obtain ⟨_, hcell⟩ := h4 a' hA
        exact sv_of_cells hLi (fun j hj => hcell j (by omega))
    · obtain ⟨_, h1, _, h2, h5, _, _⟩ := hrows i (by omega)
      refine h5 _ ?_
      show (Z i).getD j 0 ∈ Z i
      rw [List.getD, List.getElem?_eq_getElem (by omega)]
      exact List.getElem_mem _
end
theorem cells22 : Try.prog.cellsOf 22 = 1 := by kernel_rfl
theorem cells24 : Try.prog.cellsOf 24 = 1 := by kernel_rfl
theorem cells30 : Try.prog.cellsOf 30 = 1 := by kernel_rfl
theorem cells3 : Try.prog.cellsOf 3 = 1 := by kernel_rfl
theorem bytes22 : Try.prog.bytesOf 22 = 24 := by kernel_rfl
theorem bytes24 : Try.prog.bytesOf 24 = 8 := by kernel_rfl
theorem bytes30 : Try.prog.bytesOf 30 = 24 := by kernel_rfl
theorem bytes3 : Try.prog.bytesOf 3 = 8 := by kernel_rfl
end Go.Proofs.Qxb6602686a
