import Derived.Test.Qxb6602686aCut
import Derived.Test.Qxb6602686aDomW
import Derived.Test.Qxb6602686aCert
namespace Go.Proofs.Qxb6602686a
open Go.RowKit

/-! ### the copies, as the network's memory -/
/-- arcs and heads as they lie: none of their blocks outside lo .. hi -/
structure NetD (w : World) (N : Net) (aA : Option Addr) (cA : Nat) (aH : Option Addr) (cH : Nat) (A : Nat → Option Addr) (C : Nat → Nat) (lo hi : Nat) : Prop where
  top : SV w (.slice aA N.V cA) N.V (fun i => .slice (A i) (N.L i) (C i))
  row : ∀ i, i < N.V → SV w (.slice (A i) (N.L i) (C i)) (N.L i) (fun j => kn (N.arc i j))
  hd : SV w (.slice aH N.m cH) N.m (fun a => kn (N.hd a))
  bA : ∀ x, aA = some x → lo ≤ x.block ∧ x.block < hi
  bH : ∀ x, aH = some x → lo ≤ x.block ∧ x.block < hi
  bR : ∀ i, i < N.V → ∀ x, A i = some x → lo ≤ x.block ∧ x.block < hi
theorem NetD.below {w w' : World} {N : Net} {aA : Option Addr} {cA : Nat} {aH : Option Addr} {cH : Nat} {A : Nat → Option Addr} {C : Nat → Nat} {lo hi : Nat} (h : NetD w N aA cA aH cH A C lo hi) (hb : Below w.heap.size w w') : NetD w' N aA cA aH cH A C lo hi :=
  ⟨h.top.below hb, fun i hi => (h.row i hi).below hb, h.hd.below hb, h.bA, h.bH, h.bR⟩
theorem NetD.chg {w w' : World} {N : Net} {aA : Option Addr} {cA : Nat} {aH : Option Addr} {cH : Nat} {A : Nat → Option Addr} {C : Nat → Nat} {lo hi : Nat} {S : Nat → Prop} (h : NetD w N aA cA aH cH A C lo hi) (hc : Chg w w' S) (hS : ∀ k, lo ≤ k → k < hi → ¬ S k) : NetD w' N aA cA aH cH A C lo hi :=
  ⟨h.top.chg hc (fun x e => hS _ (h.bA x e).1 (h.bA x e).2), fun i hi => (h.row i hi).chg hc (fun x e => hS _ (h.bR i hi x e).1 (h.bR i hi x e).2), h.hd.chg hc (fun x e => hS _ (h.bH x e).1 (h.bH x e).2), h.bA, h.bH, h.bR⟩
theorem Own.shape {w : World} {B : Nat} {E : TypeId} {v : Value} {n : Nat} {f : Nat → Value} (h : Own w B E v n f) : ∃ a c, v = .slice a n c ∧ ∀ x, a = some x → B ≤ x.block ∧ x.block < w.heap.size := by
  rcases h with ⟨rfl, rfl⟩ | ⟨g, hg, rfl, hr⟩
  · exact ⟨_, _, rfl, fun x e => by cases e⟩
  · exact ⟨_, _, rfl, fun x e => by cases e; exact ⟨hg, hr.lt⟩⟩
theorem netD_of_own {w : World} {B : Nat} {N : Net} {v0 v1 : Value} {cv : Nat → Value} (h0 : Own w B 30 v0 N.V cv) (hr : ∀ i, i < N.V → Own w B 3 (cv i) (N.L i) (fun j => kn (N.arc i j))) (h1 : Own w B 3 v1 N.m (fun a => kn (N.hd a))) (sz : NetSz N) :
    ∃ aA cA aH cH A C, v0 = .slice aA N.V cA ∧ v1 = .slice aH N.m cH ∧ NetD w N aA cA aH cH A C B w.heap.size := by
  obtain ⟨aA, cA, e0, b0⟩ := h0.shape
  obtain ⟨aH, cH, e1, b1⟩ := h1.shape
  have hA : ∃ A : Nat → Option Addr, ∀ i, i < N.V → ∃ c, cv i = .slice (A i) (N.L i) c ∧ ∀ x, A i = some x → B ≤ x.block ∧ x.block < w.heap.size := by
    have : ∀ i, ∃ a, i < N.V → ∃ c, cv i = .slice a (N.L i) c ∧ ∀ x, a = some x → B ≤ x.block ∧ x.block < w.heap.size := fun i => by
      by_cases hi : i < N.V
      · obtain ⟨a, c, e, b⟩ := (hr i hi).shape
        exact ⟨a, fun _ => ⟨c, e, b⟩⟩
      · exact ⟨none, fun h => absurd h hi⟩
    exact ⟨fun i => Classical.choose (this i), fun i hi => Classical.choose_spec (this i) hi⟩
  obtain ⟨A, hA⟩ := hA
  have hC : ∃ C : Nat → Nat, ∀ i, i < N.V → cv i = .slice (A i) (N.L i) (C i) := by
    have : ∀ i, ∃ c, i < N.V → cv i = .slice (A i) (N.L i) c := fun i => by
      by_cases hi : i < N.V
      · obtain ⟨c, e, _⟩ := hA i hi
        exact ⟨c, fun _ => e⟩
      · exact ⟨0, fun h => absurd h hi⟩
    exact ⟨fun i => Classical.choose (this i), fun i hi => Classical.choose_spec (this i) hi⟩
  obtain ⟨C, hC⟩ := hC
  refine ⟨aA, cA, aH, cH, A, C, e0, e1, ⟨?_, fun i hi => ?_, ?_, b0, b1, fun i hi => ?_⟩⟩
  · rw [← e0]
    exact (h0.sv (by have := sz.V; omega)).congr hC
  · have := (hr i hi).sv (by have := sz.L i hi; omega)
    rw [hC i hi] at this
    exact this
  · rw [← e1]
    exact h1.sv (by have := sz.m; omega)
  · obtain ⟨_, _, b⟩ := hA i hi
    exact b
/-- a row of residuals of its own -/
def ResO (w : World) (m : Nat) (aR : Option Addr) (gr : Nat) (r : Nat → Int) : Prop := (0 < m → aR = some ⟨gr, 0, none⟩ ∧ w.rowIs gr 2 m (fun a => .int .i64 (r a))) ∧ (∀ x, aR = some x → x.block < w.heap.size)

set_option maxHeartbeats 2000000 in
theorem cut23_any (N : Net) (ok : NetOk N) (sz : NetSz N) (aA aH aR : Option Addr) (cA cH cR : Nat) (A : Nat → Option Addr) (C : Nat → Nat) (lo hi gr : Nat) (r0 : Nat → Int) (cap : Cap N r0) (w : World)
    (hD : NetD w N aA cA aH cH A C lo hi) (hhi : hi ≤ w.heap.size) (hR : ResO w N.m aR gr r0) (hgr : gr < w.heap.size) (hgo : gr < lo ∨ hi ≤ gr) :
    Calls Try.prog 23 #[.slice aA N.V cA, .slice aH N.m cH, .slice aR N.m cR, .int .i64 (N.s : Nat), .int .i64 (N.t : Nat)] w fun e w' => CutPost w w' N ⟨w.heap.size, aA, cA, aH, cH, aR, cR, A, C⟩ gr r0 e := by
  have HD := hide hD
  have HR := hide hR
  clear hD hR
  go_enter Try.func23, Try.ntmps23
  go_wp2_with fail
  have hc : Chg w (w.alloc (.cells #[.slice aA N.V cA, .slice aH N.m cH, .slice aR N.m cR] 59)) (fun _ => False) := (Chg.refl _ _).alloc _
  have hsz : (w.alloc (.cells #[.slice aA N.V cA, .slice aH N.m cH, .slice aR N.m cR] 59)).heap.size = w.heap.size + 1 := by simp
  have hob := heap_at w (.cells #[.slice aA N.V cA, .slice aH N.m cH, .slice aR N.m cR] 59) _ rfl
  generalize w.alloc (.cells #[.slice aA N.V cA, .slice aH N.m cH, .slice aR N.m cR] 59) = w1 at *
  have D1 := HD.out.chg hc (fun k _ _ h => h)
  have hlt : ∀ {x : Addr}, (lo ≤ x.block ∧ x.block < hi) → ¬ (x.block = gr ∨ w1.heap.size ≤ x.block) := fun {x} h => by omega
  have hS : NetS w1 N ⟨w.heap.size, aA, cA, aH, cH, aR, cR, A, C⟩ (fun k => k = gr ∨ w1.heap.size ≤ k) :=
    ⟨by simp [World.cell?, hob], by simp [World.cell?, hob], by simp [World.cell?, hob], D1.top, D1.row, D1.hd, by show ¬ (w.heap.size = gr ∨ w1.heap.size ≤ w.heap.size); omega, fun x e => hlt (D1.bA x e), fun x e => hlt (D1.bH x e), fun i hi x e => hlt (D1.bR i hi x e)⟩
  have hR : ResAt w1 N ⟨w.heap.size, aA, cA, aH, cH, aR, cR, A, C⟩ gr r0 := fun h0 => ⟨(HR.out.1 h0).1, (HR.out.1 h0).2.of_block (hc.block _ hgr (fun h => h))⟩
  refine (cut_any N ok sz ⟨w.heap.size, aA, cA, aH, cH, aR, cR, A, C⟩ gr r0 cap w1 hS hR (by omega) (fun x e => by have := HR.out.2 x e; omega)).mono ?_
  rintro e w2 ⟨r, h, ex, cur, qd, d, g, rfl, hg, P, D, hrow, hres, hch⟩
  have FIN : Hid (CutPost w w2 N ⟨w.heap.size, aA, cA, aH, cH, aR, cR, A, C⟩ gr r0 (.returned (.slice (some ⟨g, 0, none⟩) N.V N.V))) :=
    hide ⟨r, h, ex, cur, qd, d, g, rfl, by omega, P, D, hrow, hres, (hc.mono (fun _ _ h => h.elim)).trans' hch (fun i _ h => h)⟩
  clear hc hsz hob D1 hlt hS hR hg P D hrow hres hch HD HR
  go_wp2_with fail
  go_ret
  exact FIN.out
end Go.Proofs.Qxb6602686a
