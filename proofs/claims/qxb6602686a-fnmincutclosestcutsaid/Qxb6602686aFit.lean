import Derived.Test.Qxb6602686aClone
namespace Go.Proofs.Qxb6602686a
open Go.RowKit

/-- it answers a bool, and if it answers yes then p -/
def RB (e : Ending) (p : Prop) : Prop := ∃ b, e = .returned (.bool b) ∧ (b = true → p)
theorem RB.no (p : Prop) : RB (.returned (.bool false)) p := ⟨false, rfl, fun h => by cases h⟩
theorem RB.yes {p : Prop} (h : p) : RB (.returned (.bool true)) p := ⟨true, rfl, fun _ => h⟩
theorem RB.mono {e : Ending} {p q : Prop} (h : RB e p) (k : p → q) : RB e q := by
  obtain ⟨b, rfl, hb⟩ := h
  exact ⟨b, rfl, fun e => k (hb e)⟩

/-- a slice of slices -/
def SS (w : World) (v : Value) (n : Nat) (A : Nat → Option Addr) (L C : Nat → Nat) (F : Nat → Nat → Value) : Prop :=
  SV w v n (fun i => .slice (A i) (L i) (C i)) ∧ ∀ i, i < n → SV w (.slice (A i) (L i) (C i)) (L i) (F i)

def Fit3 (n0 n1 n4 : Nat) (L : Nat → Nat) : Prop := n0 ≤ 1048576 ∧ n1 ≤ 1048576 ∧ n4 ≤ 1048576 ∧ ∀ i, i < n1 → L i ≤ 1048576
def Dom9 (n0 n1 n4 : Nat) (u : Nat → Int) (x : Int) : Prop := n0 = n1 ∧ srt u n4 ∧ ∃ i, i < n4 ∧ u i = x

set_option maxHeartbeats 2000000 in
theorem bytes15_any (v0 v1 v4 : Value) (x y : Int) (n0 n1 n4 : Nat) (f0 f4 : Nat → Value) (A : Nat → Option Addr) (L C : Nat → Nat) (F : Nat → Nat → Value) (w : World)
    (h0 : SV w v0 n0 f0) (h1 : SS w v1 n1 A L C F) (h4 : SV w v4 n4 f4) :
    Calls Try.prog 15 #[v0, v1, .int .u64 x, .int .u64 y, v4] w fun e w' => RB e (Fit3 n0 n1 n4 L) ∧ w' = w := by
  obtain ⟨a0, c0, rfl, b0, _, _⟩ := h0
  obtain ⟨a4, c4, rfl, b4, _, _⟩ := h4
  obtain ⟨⟨a1, c1, rfl, b1, ha1, hc1⟩, hF⟩ := h1
  have hL : ∀ i, i < n1 → L i ≤ 281474976710656 := fun i hi => by
    obtain ⟨_, _, _, h, _⟩ := hF i hi
    exact h
  have HL := hide hL
  clear hF hL
  have hix := fun w' i h0 hi => idx_any (P := Try.prog) Try.underlying23 sz22 (n := n1) (a := a1) c1 ha1 w' i h0 hi
  have HA := hide ha1
  clear ha1
  go_enter Try.func15, Try.ntmps15
  go_wp2
  all_goals try (go_ret; exact ⟨RB.no _, rfl⟩)
  have q0 : n0 ≤ 1048576 := by omega
  have q1 : n1 ≤ 1048576 := by omega
  go_loop [11, 12] (fun s i => ∃ k z : Nat, k ≤ n1 ∧ i = .int .i64 k ∧ s = .int .i64 z ∧ z ≤ 1048576 ∧ Hid (∀ i, i < k → L i ≤ 1048576)) (fun _ i => n1 - (intOf i).toNat)
  case atStart => exact ⟨0, n0 + n1, by omega, rfl, by go_num, by omega, hide (fun i hi => by omega)⟩
  case round =>
    obtain ⟨k, z, hk, rfl, rfl, hz, HK⟩ := hrel
    by_cases hkn : k < n1
    · have hcell := hc1 k hkn
      have hlk := HL.out k hkn
      by_cases g1 : (1048576 : Int) < (L k : Int)
      · go_wp2
        go_ret
        exact ⟨RB.no _, rfl⟩
      · by_cases g2 : (1048576 : Int) < (z : Int) + (L k : Int)
        · go_wp2
          go_ret
          exact ⟨RB.no _, rfl⟩
        · go_wp2
          go_round
          case rel => exact ⟨k + 1, z + L k, by omega, by go_num, by go_num, by omega, hide (fun i hi => by
            by_cases e : i = k
            · rw [e]; omega
            · exact HK.out i (by omega))⟩
          case measure => simp [intOf]; omega
    · have hkn' : k = n1 := by omega
      subst hkn'
      go_wp2
      all_goals go_ret
      all_goals first | exact ⟨RB.no _, rfl⟩ | exact ⟨RB.yes ⟨by omega, by omega, by omega, HK.out⟩, rfl⟩

set_option maxHeartbeats 2000000 in
theorem fit8_any (v0 v1 v4 : Value) (n0 n1 n4 : Nat) (f0 f4 : Nat → Value) (A : Nat → Option Addr) (L C : Nat → Nat) (F : Nat → Nat → Value) (w : World)
    (h0 : SV w v0 n0 f0) (h1 : SS w v1 n1 A L C F) (h4 : SV w v4 n4 f4) (q0 : n0 ≤ 1048576) (q1 : n1 ≤ 1048576) (q4 : n4 ≤ 1048576) (hL : ∀ i, i < n1 → L i ≤ 1048576) :
    Calls Try.prog 8 #[v0, v1, v4] w fun e w' => RB e True ∧ w' = w := by
  obtain ⟨a0, c0, rfl, b0, _, _⟩ := h0
  obtain ⟨a4, c4, rfl, b4, _, _⟩ := h4
  obtain ⟨⟨a1, c1, rfl, b1, ha1, hc1⟩, hF⟩ := h1
  have HL := hide hL
  clear hF hL
  have hix := fun w' i h0 hi => idx_any (P := Try.prog) Try.underlying23 sz22 (n := n1) (a := a1) c1 ha1 w' i h0 hi
  have HA := hide ha1
  clear ha1
  have g0 : ¬ (1048576 : Int) < (n0 : Int) := by omega
  have g1 : ¬ (1048576 : Int) < (n1 : Int) := by omega
  have g4 : ¬ (1048576 : Int) < (n4 : Int) := by omega
  by_cases gt : (1048576 : Int) < 8 * (n0 : Int) + 8 * (n1 : Int) + 8 * (n4 : Int)
  · go_enter Try.func8, Try.ntmps8
    go_wp2
    go_ret
    exact ⟨RB.no _, rfl⟩
  go_enter Try.func8, Try.ntmps8
  go_wp2
  go_loop [7, 8] (fun s i => ∃ k z : Nat, k ≤ n1 ∧ i = .int .i64 k ∧ s = .int .i64 z ∧ z ≤ 1048576) (fun _ i => n1 - (intOf i).toNat)
  case atStart => exact ⟨0, 8 * n0 + 8 * n1 + 8 * n4, by omega, rfl, by go_num, by omega⟩
  case round =>
    obtain ⟨k, z, hk, rfl, rfl, hz⟩ := hrel
    by_cases hkn : k < n1
    · have hcell := hc1 k hkn
      have hlk := HL.out k hkn
      have g1 : ¬ (1048576 : Int) < (L k : Int) := by omega
      by_cases g2 : (1048576 : Int) < (z : Int) + 8 * (L k : Int)
      · go_wp2
        go_ret
        exact ⟨RB.no _, rfl⟩
      · go_wp2
        go_round
        case rel => exact ⟨k + 1, z + 8 * L k, by omega, by go_num, by go_num, by omega⟩
        case measure => simp [intOf]; omega
    · have hkn' : k = n1 := by omega
      subst hkn'
      go_wp2
      go_ret
      exact ⟨RB.yes trivial, rfl⟩

set_option maxHeartbeats 2000000 in
theorem domain9_any (v0 v1 v4 : Value) (x : Int) (n0 n1 n4 : Nat) (f0 f1 : Nat → Value) (u : Nat → Int) (w : World)
    (h0 : SV w v0 n0 f0) (h1 : SV w v1 n1 f1) (h4 : SV w v4 n4 fun j => .int .u64 (u j)) :
    Calls Try.prog 9 #[v0, v1, .int .u64 x, v4] w fun e w' => RB e (Dom9 n0 n1 n4 u x) ∧ ∃ m, w' = w.drewN m := by
  have h4' := h4
  obtain ⟨a0, c0, rfl, b0, _, _⟩ := h0
  obtain ⟨a1, c1, rfl, b1, _, _⟩ := h1
  obtain ⟨a4, c4, rfl, b4, ha4, hc4⟩ := h4
  have hix := fun w' i h0 hi => idx_any (P := Try.prog) Try.underlying22 sz24 (n := n4) (a := a4) c4 ha4 w' i h0 hi
  have HA := hide ha4
  clear ha4
  by_cases hne : n0 = n1
  · have hb : (((n0 : Nat) : Int) != ((n1 : Nat) : Int)) = false := by simp [hne]
    have HN := hide hne
    clear hne
    go_enter Try.func9, Try.ntmps9
    go_wp2
    go_loopw [9] (fun i wr => ∃ k m : Nat, 1 ≤ k ∧ (k ≤ n4 ∨ k = 1) ∧ i = .int .i64 k ∧ Hid (srt u k) ∧ wr = w.drewN m) (fun i _ => n4 - (intOf i).toNat)
    case atStart => exact ⟨1, 0, by omega, by omega, rfl, hide (fun i j hij hj => by omega), rfl⟩
    case round =>
      obtain ⟨k, m, hk1, hk, rfl, HK, rfl⟩ := hrel
      by_cases hkn : k < n4
      · obtain ⟨j, rfl⟩ : ∃ j, k = j + 1 := ⟨k - 1, by omega⟩
        have e1 : (((j + 1 : Nat) : Int) - 1) = (j : Int) := by omega
        have hj0 : j < n4 := by omega
        have c1 := hc4 j hj0
        have c2 := hc4 (j + 1) hkn
        have hx1 : ∀ w', (Instr.indexAt 22 (.slice a4 n4 c4) (.int .i64 (((j + 1 : Nat) : Int) - 1))).run Try.prog w' = .ok (.pointer (some (adr a4 j))) w' := fun w' => by
          rw [e1, hix w' j (by omega) (by omega)]; simp
        have hx2 : ∀ w', (Instr.indexAt 22 (.slice a4 n4 c4) (.int .i64 ((j + 1 : Nat) : Int))).run Try.prog w' = .ok (.pointer (some (adr a4 (j + 1)))) w' := fun w' => by
          rw [hix w' _ (by omega) (by omega)]; simp
        have hx3 : ∀ w', (Instr.indexAt 22 (.slice a4 n4 c4) (.int .i64 ((j : Int) + 1))).run Try.prog w' = .ok (.pointer (some (adr a4 (j + 1)))) w' := fun w' => by
          rw [hix w' _ (by omega) (by omega)]; rfl
        have hx4 : ∀ w', (Instr.indexAt 22 (.slice a4 n4 c4) (.int .i64 (j : Int))).run Try.prog w' = .ok (.pointer (some (adr a4 j))) w' := fun w' => by
          rw [hix w' _ (by omega) (by omega)]; rfl
        clear hx1 hx2 e1
        have hkn2 : (j : Int) + 1 < (n4 : Int) := by omega
        have ej : ((j + 1 : Nat) : Int) = (j : Int) + 1 := by omega
        rw [ej]
        by_cases hge : u (j + 1) ≤ u j
        · go_wp2
          go_quiet (fail)
          go_wp2
          go_ret
          exact ⟨RB.no _, _, by simp only [World.drewN_drewN]; rfl⟩
        · go_wp2
          go_quiet (fail)
          go_wp2
          go_roundw
          case rel => exact ⟨j + 2, _, by omega, by omega, by go_num, hide (fun a b hab hb => by
            by_cases e : b = j + 1
            · subst e
              by_cases e2 : a = j
              · subst e2; omega
              · have := HK.out a j (by omega) (by omega); omega
            · exact HK.out a b hab (by omega)), rfl⟩
          case measure => simp [intOf]; omega
      · have hS : srt u n4 := fun i j hij hj => HK.out i j hij (by omega)
        have HS := hide hS
        clear hS
        go_wp2_with fail
        refine (rank_any _ n4 u x _ (h4'.below (below_drewN (Below.refl _ _) m)) HS.out).mono ?_
        rintro e w' ⟨⟨r, rfl, hr⟩, rfl⟩
        have hr' := hr
        rcases hr with ⟨i, hi, hux, rfl⟩ | ⟨hno, rfl⟩
        · have HD : Hid (Dom9 n0 n1 n4 u x) := hide ⟨HN.out, HS.out, i, hi, hux⟩
          clear hux hr'
          go_wp2_with fail
          go_ret
          exact ⟨by simpa using RB.yes HD.out, m, rfl⟩
        · clear hno hr'
          go_wp2_with fail
          go_ret
          exact ⟨RB.no _, m, rfl⟩
  · have hb : (((n0 : Nat) : Int) != ((n1 : Nat) : Int)) = true := by rw [bne_iff_ne]; omega
    go_enter Try.func9, Try.ntmps9
    go_wp2
    go_ret
    exact ⟨RB.no _, 0, rfl⟩
end Go.Proofs.Qxb6602686a
