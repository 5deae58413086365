import Derived.Test.Qxb6602686aQue
import Derived.Test.Qxb6602686aNet
import Derived.Laws.Bits64
namespace Go.Proofs.Qxb6602686a
open Go.RowKit

theorem xor_i64 (a : Nat) (ha : a < 4611686018427387904) : bits .xor .i64 (a : Int) 1 = ((tw a : Nat) : Int) := by
  have hx : a ^^^ 1 < 2 ^ 62 := Nat.xor_lt_two_pow (by omega) (by omega)
  have h1 : (BitVec.ofInt 64 (a : Int)).toNat = a := by
    rw [BitVec.ofInt_natCast, BitVec.toNat_ofNat]; exact Nat.mod_eq_of_lt (by omega)
  have h2 : (BitVec.ofInt 64 (1 : Int)).toNat = 1 := by decide
  show IntKind.i64.wrap ((BitVec.ofInt 64 (a : Int) ^^^ BitVec.ofInt 64 (1 : Int)).toNat : Int) = ((a ^^^ 1 : Nat) : Int)
  rw [BitVec.toNat_xor, h1, h2, IntKind.wrap_i64]
  omega

/-! ### a measure that may speak of what the state does not show -/
theorem least_ex {p : Nat → Prop} : ∀ n, p n → ∃ n, p n ∧ ∀ m, p m → n ≤ m := by
  intro n
  induction n using Nat.strongRecOn with
  | ind n ih =>
    intro hn
    by_cases h : ∃ m, m < n ∧ p m
    · obtain ⟨m, hm, hp⟩ := h
      exact ih m hm hp
    · exact ⟨n, hn, fun m hm => Nat.le_of_not_lt (fun hlt => h ⟨m, hlt, hm⟩)⟩
open Classical in
noncomputable def least (p : Nat → Prop) : Nat := if h : ∃ n, p n ∧ ∀ m, p m → n ≤ m then Classical.choose h else 0
theorem least_spec {p : Nat → Prop} (h : ∃ n, p n) : p (least p) ∧ ∀ m, p m → least p ≤ m := by
  obtain ⟨n, hn⟩ := h
  have := least_ex n hn
  unfold least
  rw [dif_pos this]
  exact Classical.choose_spec this

/-! ### the network in memory -/
theorem SV.chg {w w' : World} {a : Option Addr} {n c : Nat} {f : Nat → Value} {S : Nat → Prop} (h : SV w (.slice a n c) n f) (hc : Chg w w' S) (hS : ∀ x, a = some x → ¬ S x.block) : SV w' (.slice a n c) n f := by
  obtain ⟨a', c', e, hn, ha, hcell⟩ := h
  cases e
  refine ⟨_, _, rfl, hn, ha, fun j hj => ?_⟩
  obtain ⟨b, off, rfl⟩ := ha (by omega)
  have h1 := hcell j hj
  have h2 : ¬ S b := hS _ rfl
  rw [World.cell?_of_block (w := w) (hc.block _ (adr_lt h1) h2)]
  exact h1
theorem sv_some' {w : World} {a : Option Addr} {n c : Nat} {f : Nat → Value} (h : SV w (.slice a n c) n f) : 0 < n → ∃ b off, a = some ⟨b, off, none⟩ := by
  obtain ⟨a', c', e, _, h, _⟩ := h
  cases e
  exact h
theorem sv_cell' {w : World} {a : Option Addr} {n c : Nat} {f : Nat → Value} (h : SV w (.slice a n c) n f) (j : Nat) (hj : j < n) : w.cell? (adr a j) = some (f j) := by
  obtain ⟨a', c', e, _, _, h⟩ := h
  cases e
  exact h j hj
theorem sv_max {w : World} {a : Option Addr} {n c : Nat} {f : Nat → Value} (h : SV w (.slice a n c) n f) : n ≤ 281474976710656 := by
  obtain ⟨_, _, _, h, _⟩ := h
  exact h

/-- how the network lies -/
structure Lay where
  p : Nat
  aA : Option Addr
  cA : Nat
  aH : Option Addr
  cH : Nat
  aR : Option Addr
  cR : Nat
  A : Nat → Option Addr
  C : Nat → Nat
/-- the network's three fields; none of its arcs or heads lies in a block of F -/
structure NetS (w : World) (N : Net) (Y : Lay) (F : Nat → Prop) : Prop where
  c0 : w.cell? ⟨Y.p, 0, none⟩ = some (.slice Y.aA N.V Y.cA)
  c1 : w.cell? ⟨Y.p, 1, none⟩ = some (.slice Y.aH N.m Y.cH)
  c2 : w.cell? ⟨Y.p, 2, none⟩ = some (.slice Y.aR N.m Y.cR)
  top : SV w (.slice Y.aA N.V Y.cA) N.V (fun i => .slice (Y.A i) (N.L i) (Y.C i))
  row : ∀ i, i < N.V → SV w (.slice (Y.A i) (N.L i) (Y.C i)) (N.L i) (fun j => kn (N.arc i j))
  hd : SV w (.slice Y.aH N.m Y.cH) N.m (fun a => kn (N.hd a))
  np : ¬ F Y.p
  nA : ∀ x, Y.aA = some x → ¬ F x.block
  nH : ∀ x, Y.aH = some x → ¬ F x.block
  nr : ∀ i, i < N.V → ∀ x, Y.A i = some x → ¬ F x.block
theorem NetS.chg {w w' : World} {N : Net} {Y : Lay} {F S : Nat → Prop} (h : NetS w N Y F) (hc : Chg w w' S) (hS : ∀ k, k < w.heap.size → S k → F k) : NetS w' N Y F := by
  have hc' : Chg w w' F := hc.mono hS
  have cell : ∀ {i : Nat} {v : Value}, w.cell? ⟨Y.p, i, none⟩ = some v → w'.cell? ⟨Y.p, i, none⟩ = some v := fun {i v} hv => by
    rw [World.cell?_of_block (w := w) (hc'.block _ (block_lt_of_cell hv) h.np)]; exact hv
  exact ⟨cell h.c0, cell h.c1, cell h.c2, h.top.chg hc' h.nA, fun i hi => (h.row i hi).chg hc' (h.nr i hi), h.hd.chg hc' h.nH, h.np, h.nA, h.nH, h.nr⟩
/-- the sizes -/
structure NetSz (N : Net) : Prop where
  V : N.V ≤ 1048576
  m : N.m ≤ 1048576
  L : ∀ v, v < N.V → N.L v ≤ 1048576
theorem i59 : (Try.prog.info? 59).map (·.size) = some 3 := by kernel_rfl
end Go.Proofs.Qxb6602686a
