import Derived.Test.Qxb6603233aRows
import Derived.WalkKit
import Derived.WalkSpells
import Derived.WalkLawsBesides
import Derived.RowKit3
import Derived.BigQuiet
import Derived.Deep.QuietTactic
import Derived.Deep.OwnRows
namespace Go.Proofs.Qxb6603233a
open Go.RowKit

theorem hide {p : Prop} (h : p) : Hid p := h

/-! ### a slice, looked at by its index: nil, empty or not: one word -/
/-- where element j of a slice over 'a' lies -/
def adr : Option Addr → Nat → Addr
  | some x, j => ⟨x.block, x.off + j, none⟩
  | none, _ => ⟨0, 0, none⟩

/-- v is a slice of n elements of one cell each; element j holds f j -/
def SV (w : World) (v : Value) (n : Nat) (f : Nat → Value) : Prop :=
  ∃ a cap, v = .slice a n cap ∧ n ≤ 281474976710656 ∧ (0 < n → ∃ b off, a = some ⟨b, off, none⟩) ∧ ∀ j, j < n → w.cell? (adr a j) = some (f j)

theorem idx_any {P : Program} {t e : TypeId} (ht : P.underlying t = some (.slice e)) (he : ∀ w, (sizeOf e).run P w = .ok 1 w) {n : Nat} {a : Option Addr} (cap : Nat)
    (ha : 0 < n → ∃ b off, a = some ⟨b, off, none⟩) (w : World) (i : Int) (h0 : 0 ≤ i) (hn : i < n) :
    (Instr.indexAt t (.slice a n cap) (.int .i64 i)).run P w = .ok (.pointer (some (adr a i.toNat))) w := by
  obtain ⟨b, off, rfl⟩ := ha (by omega)
  have hel : P.elem t = e := by simp [Program.elem, ht]
  rw [run_indexAt_slice w t ⟨b, off, none⟩ n cap .i64 i (by rw [ht, hel]), if_pos ⟨h0, hn⟩, hel, he w]
  simp [adr, Addr.add_lit]

theorem adr_lt {w : World} {a : Option Addr} {j : Nat} {x : Value} (h : w.cell? (adr a j) = some x) : (adr a j).block < w.heap.size := block_lt_of_cell h

theorem SV.below {w w' : World} {v : Value} {n : Nat} {f : Nat → Value} (h : SV w v n f) (hb : Below w.heap.size w w') : SV w' v n f := by
  obtain ⟨a, cap, rfl, hn, ha, hc⟩ := h
  exact ⟨a, cap, rfl, hn, ha, fun j hj => by rw [hb.cell (adr_lt (hc j hj))]; exact hc j hj⟩
theorem SV.congr {w : World} {v : Value} {n : Nat} {f g : Nat → Value} (h : SV w v n f) (e : ∀ i, i < n → f i = g i) : SV w v n g := by
  obtain ⟨a, cap, rfl, hn, ha, hc⟩ := h
  exact ⟨a, cap, rfl, hn, ha, fun j hj => by rw [hc j hj, e j hj]⟩
theorem SV.of_row {w : World} {b : Nat} {t : TypeId} {n m : Nat} {f : Nat → Value} (h : w.rowIs b t m f) (hnm : n ≤ m) (hn : n ≤ 281474976710656) (cap : Nat) : SV w (.slice (some ⟨b, 0, none⟩) n cap) n f :=
  ⟨_, _, rfl, hn, fun _ => ⟨b, 0, rfl⟩, fun j hj => by
    have := h.cell (i := j) (by omega)
    simpa [adr] using this⟩
theorem SV.nil (w : World) (f : Nat → Value) : SV w (.slice none 0 0) 0 f := ⟨_, _, rfl, by omega, fun h => absurd h (by omega), fun j hj => absurd hj (by omega)⟩

theorem sz9 (w : World) : (sizeOf 9).run Try.prog w = .ok 1 w := by kernel_rfl
theorem sz22 (w : World) : (sizeOf 22).run Try.prog w = .ok 1 w := by kernel_rfl
theorem sz4 (w : World) : (sizeOf 4).run Try.prog w = .ok 1 w := by kernel_rfl
theorem sz54 (w : World) : (sizeOf 54).run Try.prog w = .ok 6 w := by kernel_rfl
theorem info9 : (Try.prog.info? 9).map (fun i => (i.zero, i.size, i.bytes)) = some (some (.string ⟨#[]⟩), 1, 16) := by kernel_rfl
theorem info22 : (Try.prog.info? 22).map (fun i => (i.zero, i.size, i.bytes)) = some (some (.slice none 0 0), 1, 24) := by kernel_rfl
theorem info4 : (Try.prog.info? 4).map (fun i => (i.zero, i.size, i.bytes)) = some (some (.bool false), 1, 1) := by kernel_rfl

/-- it answers a bool, and if it answers yes then p -/
def RB (e : Ending) (p : Prop) : Prop := ∃ b, e = .returned (.bool b) ∧ (b = true → p)
theorem RB.no (p : Prop) : RB (.returned (.bool false)) p := ⟨false, rfl, fun h => by cases h⟩
theorem RB.yes {p : Prop} (h : p) : RB (.returned (.bool true)) p := ⟨true, rfl, fun _ => h⟩
theorem RB.mono {e : Ending} {p q : Prop} (h : RB e p) (k : p → q) : RB e q := by
  obtain ⟨b, rfl, hb⟩ := h
  exact ⟨b, rfl, fun e => k (hb e)⟩

/-- a slice of slices -/
def SS (w : World) (v : Value) (n : Nat) (A : Nat → Option Addr) (L C : Nat → Nat) (F : Nat → Nat → Value) : Prop :=
  SV w v n (fun i => .slice (A i) (L i) (C i)) ∧ ∀ i, i < n → SV w (.slice (A i) (L i) (C i)) (L i) (F i)

end Go.Proofs.Qxb6603233a
