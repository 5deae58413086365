import Derived.Test.Qxb6603233aStrs
import Derived.Test.Qxb6603233aMaps
import Derived.Deep.MidRow
namespace Go.Proofs.Qxb6603233a
open Go.RowKit Go.MapKept

theorem mkmap (T K E : TypeId) (hT : Try.prog.underlying T = some (.map K E)) (k : IntKind) (i : Int) (w : World) : (Instr.makeMap T (some (.int k i))).run Try.prog w = .ok (.map (some w.heap.size)) (w.alloc (.map #[] 0)) := by
  simp [Instr.makeMap, run_underlying hT, asInt, asIntOf]

/-- one Instance: its UUID, the rest nought -/
def inst (s : ByteArray) : List Value := [.string s, .string ⟨#[]⟩, .string ⟨#[]⟩, .int .i64 0, .int .i64 0, .int .i64 0]
def Insts (w : World) (b n : Nat) (u : Nat → ByteArray) : Prop := ∀ k, k < n → w.rangeAt b (6 * k) (inst (u k))
theorem rangeAt_block {w w' : World} {b o : Nat} {cs : List Value} (h : w.rangeAt b o cs) (hb : w'.heap[b]? = w.heap[b]?) : w'.rangeAt b o cs := fun j v hv => by
  rw [World.cell?_of_block (w := w) (a := ⟨b, o + j, none⟩) hb]
  exact h j v hv
theorem Insts.of_block {w w' : World} {b n : Nat} {u : Nat → ByteArray} (h : Insts w b n u) (hb : w'.heap[b]? = w.heap[b]?) : Insts w' b n u := fun k hk => rangeAt_block (h k hk) hb
theorem Insts.lt {w : World} {b n : Nat} {u : Nat → ByteArray} (h : Insts w b n u) (hn : 0 < n) : b < w.heap.size := block_lt_of_cell (h 0 hn 0 _ rfl)

/-- what the map holds for a name, when k entries were laid -/
def HostIs (wr : World) (g : Nat) (f : Nat → ByteArray) (nl : Nat → Bool) (L : Nat → Nat) (F : Nat → Nat → ByteArray) (k : Nat) (y : ByteArray) (o : Option Value) : Prop :=
  (o = none ∧ ∀ j, j < k → f j ≠ y) ∨ ∃ j, j < k ∧ f j = y ∧ (∀ i, j < i → i < k → f i ≠ y) ∧
    ((nl j = true ∧ o = some (.pointer none)) ∨ (nl j = false ∧ ∃ hb ib, g < hb ∧ g < ib ∧ ib < wr.heap.size ∧ o = some (.pointer (some ⟨hb, 0, none⟩)) ∧ wr.cell? ⟨hb, 7, none⟩ = some (.slice (some ⟨ib, 0, none⟩) (L j) (L j)) ∧ Insts wr ib (L j) (F j)))
structure HM (w wr : World) (g : Nat) (f : Nat → ByteArray) (nl : Nat → Bool) (L : Nat → Nat) (F : Nat → Nat → ByteArray) (k : Nat) (look : ByteArray → Option Value) : Prop where
  bel : Below w.heap.size w wr
  ge : w.heap.size ≤ g
  map : MapIs ks wr g look
  ent : ∀ y, HostIs wr g f nl L F k y (look y)
section
variable {w wr : World} {g : Nat} {f : Nat → ByteArray} {nl : Nat → Bool} {L : Nat → Nat} {F : Nat → Nat → ByteArray} {k : Nat} {look : ByteArray → Option Value}
theorem HostIs.blocks {wr' : World} {y : ByteArray} {o : Option Value} (h : HostIs wr g f nl L F k y o) (hs : wr.heap.size ≤ wr'.heap.size) (hb : ∀ b, b < wr.heap.size → g < b → wr'.heap[b]? = wr.heap[b]?) : HostIs wr' g f nl L F k y o := by
  rcases h with h | ⟨j, h1, h2, h3, h4⟩
  · exact .inl h
  · refine .inr ⟨j, h1, h2, h3, ?_⟩
    rcases h4 with h4 | ⟨h4, hb', ib, a1, a2, a3, a4, a5, a6⟩
    · exact .inl h4
    · refine .inr ⟨h4, hb', ib, a1, a2, by omega, a4, ?_, a6.of_block (hb _ a3 a2)⟩
      rw [World.cell?_of_block (w := wr) (a := ⟨hb', 7, none⟩) (hb _ (block_lt_of_cell a5) a1)]
      exact a5
theorem HM.below {wr' : World} (h : HM w wr g f nl L F k look) (hb : Below wr.heap.size wr wr') : HM w wr' g f nl L F k look :=
  ⟨h.bel.trans (hb.mono h.bel.size), h.ge, h.map.of_block (hb.block _ h.map.lt), fun y => (h.ent y).blocks hb.size (fun b hb' _ => hb.block b hb')⟩
theorem HM.put (h : HM w wr g f nl L F k look) (v : Value) (hv : (nl k = true ∧ v = .pointer none) ∨ (nl k = false ∧ ∃ hb ib, g < hb ∧ g < ib ∧ ib < wr.heap.size ∧ v = .pointer (some ⟨hb, 0, none⟩) ∧ wr.cell? ⟨hb, 7, none⟩ = some (.slice (some ⟨ib, 0, none⟩) (L k) (L k)) ∧ Insts wr ib (L k) (F k))) :
    ∃ w5, (Instr.mapUpdate 33 (.map (some g)) (.string (f k)) v).run Try.prog wr = .ok () w5 ∧ HM w w5 g f nl L F (k + 1) (fun b => if b = f k then some v else look b) := by
  obtain ⟨o, hr, hm⟩ := run_put (P := Try.prog) (T := 33) (K := 9) (E := 51) Try.underlying33 Try.underlying9 ks_key ks_inj ks_same h.map (f k) v
  refine ⟨_, hr, ?_, h.ge, hm, fun y => ?_⟩
  · have hge := h.ge
    refine h.bel.trans ⟨rfl, rfl, rfl, by simp, fun b hb => ?_⟩
    show (wr.heap.setIfInBounds g o)[b]? = _
    rw [Array.getElem?_setIfInBounds, if_neg (by omega)]
  · have hblk : ∀ b, b < wr.heap.size → g < b → ({ wr with heap := wr.heap.setIfInBounds g o } : World).heap[b]? = wr.heap[b]? := fun b _ hb => by
      show (wr.heap.setIfInBounds g o)[b]? = _
      rw [Array.getElem?_setIfInBounds, if_neg (by omega)]
    have hsz : wr.heap.size ≤ ({ wr with heap := wr.heap.setIfInBounds g o } : World).heap.size := by simp
    show HostIs _ g f nl L F (k + 1) y (if y = f k then some v else look y)
    by_cases e : y = f k
    · rw [if_pos e, e]
      refine .inr ⟨k, by omega, rfl, fun i h1 h2 => by omega, ?_⟩
      rcases hv with ⟨a, b⟩ | ⟨a, hb, ib, a1, a2, a3, a4, a5, a6⟩
      · exact .inl ⟨a, by rw [b]⟩
      · refine .inr ⟨a, hb, ib, a1, a2, by omega, by rw [a4], ?_, a6.of_block (hblk _ a3 a2)⟩
        rw [World.cell?_of_block (w := wr) (a := ⟨hb, 7, none⟩) (hblk _ (block_lt_of_cell a5) a1)]
        exact a5
    · rw [if_neg e]
      rcases (h.ent y).blocks hsz hblk with ⟨h1, h2⟩ | ⟨j, h1, h2, h3, h4⟩
      · exact .inl ⟨h1, fun j hj => by
          by_cases ej : j = k
          · rw [ej]; exact fun e' => e e'.symm
          · exact h2 j (by omega)⟩
      · exact .inr ⟨j, by omega, h2, fun i hi1 hi2 => by
          by_cases ej : i = k
          · rw [ej]; exact fun e' => e e'.symm
          · exact h3 i hi1 (by omega), h4⟩
theorem HM.start (w : World) (f : Nat → ByteArray) (nl : Nat → Bool) (L : Nat → Nat) (F : Nat → Nat → ByteArray) : HM w (w.alloc (.map #[] 0)) w.heap.size f nl L F 0 (fun _ => none) :=
  ⟨(Below.refl _ _).alloc (Nat.le_refl _) _, Nat.le_refl _, MapIs.made ks w, fun y => .inl ⟨rfl, fun j hj => by omega⟩⟩
end
theorem idx6 (b n c k : Nat) (hk : k < n) (w : World) : (Instr.indexAt 52 (.slice (some ⟨b, 0, none⟩) n c) (.int .i64 (k : Int))).run Try.prog w = .ok (.pointer (some ⟨b, 6 * k, none⟩)) w := by
  have hel : Try.prog.elem 52 = 54 := by simp [Program.elem, Try.underlying52]
  rw [run_indexAt_slice w 52 ⟨b, 0, none⟩ n c .i64 (k : Int) (by rw [Try.underlying52, hel]), if_pos ⟨by omega, by omega⟩, hel, sz54 w]
  simp [Addr.add_lit]
end Go.Proofs.Qxb6603233a
