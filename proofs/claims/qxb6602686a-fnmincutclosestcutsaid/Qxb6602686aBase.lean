import Derived.Test.Qxb6602686aRows
import Derived.WalkKit
import Derived.WalkSpells
import Derived.WalkLawsBesides
import Derived.RowKit3
import Derived.BigQuiet
import Derived.Deep.QuietTactic
import Derived.Deep.OwnRows
namespace Go.Proofs.Qxb6602686a
open Go.RowKit

theorem hide {p : Prop} (h : p) : Hid p := h

/-! ### a slice, looked at by its index: nil, empty or not: one word -/
/-- where element j of a slice over 'a' lies -/
def adr : Option Addr → Nat → Addr
  | some x, j => ⟨x.block, x.off + j, none⟩
  | none, _ => ⟨0, 0, none⟩

/-- v is a slice of n elements of one cell each; element j holds f j -/
def SV (w : World) (v : Value) (n : Nat) (f : Nat → Value) : Prop :=
  ∃ a cap, v = .slice a n cap ∧ n ≤ 281474976710656 ∧ (0 < n → ∃ b off, a = some ⟨b, off, none⟩) ∧ ∀ j, j < n → w.cell? (adr a j) = some (f j)

theorem idx_any {P : Program} {t e : TypeId} (ht : P.underlying t = some (.slice e)) (he : ∀ w, (sizeOf e).run P w = .ok 1 w) {n : Nat} {a : Option Addr} (cap : Nat)
    (ha : 0 < n → ∃ b off, a = some ⟨b, off, none⟩) (w : World) (i : Int) (h0 : 0 ≤ i) (hn : i < n) :
    (Instr.indexAt t (.slice a n cap) (.int .i64 i)).run P w = .ok (.pointer (some (adr a i.toNat))) w := by
  obtain ⟨b, off, rfl⟩ := ha (by omega)
  have hel : P.elem t = e := by simp [Program.elem, ht]
  rw [run_indexAt_slice w t ⟨b, off, none⟩ n cap .i64 i (by rw [ht, hel]), if_pos ⟨h0, hn⟩, hel, he w]
  simp [adr, Addr.add_lit]

theorem adr_lt {w : World} {a : Option Addr} {j : Nat} {x : Value} (h : w.cell? (adr a j) = some x) : (adr a j).block < w.heap.size := block_lt_of_cell h

theorem SV.below {w w' : World} {v : Value} {n : Nat} {f : Nat → Value} (h : SV w v n f) (hb : Below w.heap.size w w') : SV w' v n f := by
  obtain ⟨a, cap, rfl, hn, ha, hc⟩ := h
  exact ⟨a, cap, rfl, hn, ha, fun j hj => by rw [hb.cell (adr_lt (hc j hj))]; exact hc j hj⟩
theorem SV.congr {w : World} {v : Value} {n : Nat} {f g : Nat → Value} (h : SV w v n f) (e : ∀ i, i < n → f i = g i) : SV w v n g := by
  obtain ⟨a, cap, rfl, hn, ha, hc⟩ := h
  exact ⟨a, cap, rfl, hn, ha, fun j hj => by rw [hc j hj, e j hj]⟩
theorem SV.of_row {w : World} {b : Nat} {t : TypeId} {n m : Nat} {f : Nat → Value} (h : w.rowIs b t m f) (hnm : n ≤ m) (hn : n ≤ 281474976710656) (cap : Nat) : SV w (.slice (some ⟨b, 0, none⟩) n cap) n f :=
  ⟨_, _, rfl, hn, fun _ => ⟨b, 0, rfl⟩, fun j hj => by
    have := h.cell (i := j) (by omega)
    simpa [adr] using this⟩
theorem SV.nil (w : World) (f : Nat → Value) : SV w (.slice none 0 0) 0 f := ⟨_, _, rfl, by omega, fun h => absurd h (by omega), fun j hj => absurd hj (by omega)⟩

theorem sz24 (w : World) : (sizeOf 24).run Try.prog w = .ok 1 w := by kernel_rfl
theorem sz22 (w : World) : (sizeOf 22).run Try.prog w = .ok 1 w := by kernel_rfl
theorem sz30 (w : World) : (sizeOf 30).run Try.prog w = .ok 1 w := by kernel_rfl
theorem sz3 (w : World) : (sizeOf 3).run Try.prog w = .ok 1 w := by kernel_rfl
theorem sz2 (w : World) : (sizeOf 2).run Try.prog w = .ok 1 w := by kernel_rfl
theorem sz4 (w : World) : (sizeOf 4).run Try.prog w = .ok 1 w := by kernel_rfl
theorem sz48 (w : World) : (sizeOf 48).run Try.prog w = .ok 1 w := by kernel_rfl
theorem info24 : (Try.prog.info? 24).map (fun i => (i.zero, i.size, i.bytes)) = some (some (.int .u64 0), 1, 8) := by kernel_rfl
theorem info48 : (Try.prog.info? 48).map (fun i => (i.zero, i.size, i.bytes)) = some (some (.int .u64 0), 1, 8) := by kernel_rfl
theorem info22 : (Try.prog.info? 22).map (fun i => (i.zero, i.size, i.bytes)) = some (some (.slice none 0 0), 1, 24) := by kernel_rfl
theorem info30 : (Try.prog.info? 30).map (fun i => (i.zero, i.size, i.bytes)) = some (some (.slice none 0 0), 1, 24) := by kernel_rfl
theorem info3 : (Try.prog.info? 3).map (fun i => (i.zero, i.size, i.bytes)) = some (some (.int .i64 0), 1, 8) := by kernel_rfl
theorem info2 : (Try.prog.info? 2).map (fun i => (i.zero, i.size, i.bytes)) = some (some (.int .i64 0), 1, 8) := by kernel_rfl
theorem info4 : (Try.prog.info? 4).map (fun i => (i.zero, i.size, i.bytes)) = some (some (.bool false), 1, 1) := by kernel_rfl

/-! ### zzRank -/
def srt (u : Nat → Int) (n : Nat) : Prop := ∀ i j, i < j → j < n → u i < u j
/-- r is the place of t among u 0 .. u (n-1), or -1 -/
def rankIs (u : Nat → Int) (n : Nat) (t : Int) (r : Int) : Prop := (∃ i : Nat, i < n ∧ u i = t ∧ r = i) ∨ ((∀ i, i < n → u i ≠ t) ∧ r = -1)

set_option maxHeartbeats 1000000 in
theorem rank_any (v : Value) (n : Nat) (u : Nat → Int) (t : Int) (w : World) (hv : SV w v n fun j => .int .u64 (u j)) (hs : srt u n) :
    Calls Try.prog 16 #[v, .int .u64 t] w fun e w' => (∃ r, e = .returned (.int .i64 r) ∧ rankIs u n t r) ∧ w' = w := by
  obtain ⟨a, cap, rfl, hn, ha, hc⟩ := hv
  have hix := fun w' i h0 hi => idx_any (P := Try.prog) Try.underlying22 sz24 (n := n) (a := a) cap ha w' i h0 hi
  have HS := hide hs
  clear hs ha
  go_enter Try.func16, Try.ntmps16
  go_wp2
  go_loop [5, 6] (fun x y => ∃ lo hi : Nat, x = .int .i64 lo ∧ y = .int .i64 hi ∧ lo ≤ hi ∧ hi ≤ n ∧ Hid (∀ j, j < lo → u j < t) ∧ Hid (∀ j, hi ≤ j → j < n → t ≤ u j)) (fun x y => (intOf y - intOf x).toNat)
  case atStart => exact ⟨0, n, rfl, rfl, by omega, by omega, hide (fun j hj => by omega), hide (fun j hj hj' => by omega)⟩
  case round =>
    obtain ⟨lo, hi, rfl, rfl, hle, hhn, HL, HH⟩ := hrel
    by_cases hlt : lo < hi
    · have hm : ∃ m : Nat, (lo : Int) + ((hi : Int) - lo) / 2 = m ∧ lo ≤ m ∧ m < hi := ⟨lo + (hi - lo) / 2, by omega, by omega, by omega⟩
      obtain ⟨m, hme, hm1, hm2⟩ := hm
      have hcm := hc m (by omega)
      have hmn : m < n := by omega
      by_cases hut : u m < t
      · go_wp2
        go_round
        case rel => exact ⟨m + 1, hi, by go_num, rfl, by omega, hhn, hide (fun j hj => by
          by_cases e : j = m
          · rw [e]; exact hut
          · have := HS.out j m (by omega) (by omega); omega), HH⟩
        case measure => simp [intOf]; omega
      · go_wp2
        go_round
        case rel => exact ⟨lo, m, rfl, rfl, by omega, by omega, HL, hide (fun j hj hj' => by
          by_cases e : j = m
          · rw [e]; omega
          · have := HS.out m j (by omega) (by omega); omega)⟩
        case measure => simp [intOf]; omega
    · have he : lo = hi := by omega
      subst he
      by_cases hln : lo < n
      · have hcl := hc lo hln
        by_cases het : u lo = t
        · have heb : (u lo == t) = true := by simp [het]
          have HE := hide het
          clear het
          go_wp2
          go_ret
          exact ⟨⟨lo, rfl, .inl ⟨lo, hln, HE.out, rfl⟩⟩, rfl⟩
        · have heb : (u lo == t) = false := by simp [het]
          have HE := hide het
          clear het
          go_wp2
          go_ret
          refine ⟨⟨-1, rfl, .inr ⟨fun i hi' e => ?_, rfl⟩⟩, rfl⟩
          by_cases h1 : i < lo
          · have := HL.out i h1; omega
          · by_cases h2 : i = lo
            · rw [h2] at e; exact HE.out e
            · have h3 := HS.out lo i (by omega) hi'
              have h4 := HH.out lo (by omega) hln
              omega
      · have hdec : decide ((lo : Int) < (n : Int)) = false := by simp; omega
        go_wp2
        go_ret
        refine ⟨⟨-1, rfl, .inr ⟨fun i hi' e => ?_, rfl⟩⟩, rfl⟩
        have := HL.out i (by omega)
        omega
end Go.Proofs.Qxb6602686a
