import Derived.Test.Qxb6603233aGuard
namespace Go.Proofs.Qxb6603233a
open Go.RowKit

def FitE (n1 n2 n3 n4 : Nat) (L : Nat → Nat) : Prop := n1 ≤ 1048576 ∧ n2 ≤ 1048576 ∧ n3 ≤ 1048576 ∧ n4 ≤ 1048576 ∧ ∀ i, i < n4 → L i ≤ 1048576

set_option maxHeartbeats 8000000 in
set_option maxRecDepth 100000 in
theorem bytes17_any (b0 b1 b2 b3 b4 : Bool) (uuid : ByteArray) (v1 v2 v3 v4 : Value) (n1 n2 n3 n4 : Nat) (f1 f2 : Nat → ByteArray) (f3 : Nat → Value) (A : Nat → Option Addr) (L C : Nat → Nat) (F : Nat → Nat → ByteArray) (w : World)
    (h1 : SV w v1 n1 fun j => .string (f1 j)) (h2 : SV w v2 n2 fun j => .string (f2 j)) (h3 : SV w v3 n3 f3) (h4 : SS w v4 n4 A L C (fun i j => .string (F i j))) :
    Calls Try.prog 17 #[.bool b0, .bool b1, .bool b2, .bool b3, .bool b4, .string uuid, v1, v2, v3, v4] w fun e w' => RB e (FitE n1 n2 n3 n4 L) ∧ w' = w := by
  obtain ⟨a1, c1, rfl, d1, ha1, hc1⟩ := h1
  obtain ⟨a2, c2, rfl, d2, ha2, hc2⟩ := h2
  obtain ⟨a3, c3, rfl, d3, _, _⟩ := h3
  obtain ⟨⟨a4, c4, rfl, d4, ha4, hc4⟩, hr⟩ := h4
  have hix1 := fun w' i h0 hi => idx_any (P := Try.prog) Try.underlying22 sz9 (n := n1) (a := a1) c1 ha1 w' i h0 hi
  have hix2 := fun w' i h0 hi => idx_any (P := Try.prog) Try.underlying22 sz9 (n := n2) (a := a2) c2 ha2 w' i h0 hi
  have hix4 := fun w' i h0 hi => idx_any (P := Try.prog) Try.underlying24 sz22 (n := n4) (a := a4) c4 ha4 w' i h0 hi
  have HR := hide hr
  have HC1 := hide hc1
  have HC2 := hide hc2
  have HC4 := hide hc4
  clear ha1 ha2 ha4 hr hc1 hc2 hc4
  by_cases g0 : (1048576 : Int) < (uuid.size : Int)
  · go_enter Try.func17, Try.ntmps17
    go_wp2_with fail
    go_ret
    exact ⟨RB.no _, rfl⟩
  by_cases g1 : (1048576 : Int) < (n1 : Int)
  · go_enter Try.func17, Try.ntmps17
    go_wp2_with fail
    go_ret
    exact ⟨RB.no _, rfl⟩
  by_cases g1' : (1048576 : Int) < (uuid.size : Int) + (n1 : Int)
  · go_enter Try.func17, Try.ntmps17
    go_wp2_with fail
    go_ret
    exact ⟨RB.no _, rfl⟩
  go_enter Try.func17, Try.ntmps17
  go_wp2_with fail
  go_loop [21, 22] (fun s i => ∃ k z : Nat, k ≤ n1 ∧ i = .int .i64 (k : Int) ∧ s = .int .i64 (z : Int) ∧ z ≤ 1048576) (fun _ i => n1 - (intOf i).toNat)
  case atStart => exact ⟨0, uuid.size + n1, by omega, rfl, by go_num, by omega⟩
  case round =>
    obtain ⟨k, z, hk, rfl, rfl, hz⟩ := hrel
    by_cases hkn : k < n1
    · as_aux_lemma =>
      have hcell := HC1.out k hkn
      by_cases g2 : (1048576 : Int) < ((f1 k).size : Int)
      · go_wp2_with fail
        go_ret
        exact ⟨RB.no _, rfl⟩
      by_cases g3 : (1048576 : Int) < (z : Int) + ((f1 k).size : Int)
      · go_wp2_with fail
        go_ret
        exact ⟨RB.no _, rfl⟩
      go_wp2_with fail
      go_round
      case rel => exact ⟨k + 1, z + (f1 k).size, by omega, by go_num, by go_num, by omega⟩
      case measure => simp [intOf]; omega
    have hkN : ¬ ((k : Int) < (n1 : Int)) := by omega
    by_cases g2 : (1048576 : Int) < (n2 : Int)
    · go_wp2_with fail
      go_ret
      exact ⟨RB.no _, rfl⟩
    by_cases g2' : (1048576 : Int) < (z : Int) + (n2 : Int)
    · go_wp2_with fail
      go_ret
      exact ⟨RB.no _, rfl⟩
    clear hix1 HC1
    go_wp2_with fail
    clear hkN hkn
    go_loop [21, 23] (fun s i => ∃ k z : Nat, k ≤ n2 ∧ i = .int .i64 (k : Int) ∧ s = .int .i64 (z : Int) ∧ z ≤ 1048576) (fun _ i => n2 - (intOf i).toNat)
    case atStart => exact ⟨0, z + n2, by omega, rfl, by go_num, by omega⟩
    case round =>
      clear g2' hz
      obtain ⟨k', z, hk', rfl, rfl, hz⟩ := hrel
      by_cases hkn : k' < n2
      · as_aux_lemma =>
        have hcell := HC2.out k' hkn
        by_cases g3 : (1048576 : Int) < ((f2 k').size : Int)
        · go_wp2_with fail
          go_ret
          exact ⟨RB.no _, rfl⟩
        by_cases g4 : (1048576 : Int) < (z : Int) + ((f2 k').size : Int)
        · go_wp2_with fail
          go_ret
          exact ⟨RB.no _, rfl⟩
        go_wp2_with fail
        go_round
        case rel => exact ⟨k' + 1, z + (f2 k').size, by omega, by go_num, by go_num, by omega⟩
        case measure => simp [intOf]; omega
      have hkN : ¬ ((k' : Int) < (n2 : Int)) := by omega
      by_cases g3 : (1048576 : Int) < (n3 : Int)
      · go_wp2_with fail
        go_ret
        exact ⟨RB.no _, rfl⟩
      by_cases g3' : (1048576 : Int) < (z : Int) + (n3 : Int)
      · go_wp2_with fail
        go_ret
        exact ⟨RB.no _, rfl⟩
      by_cases g4 : (1048576 : Int) < (n4 : Int)
      · go_wp2_with fail
        go_ret
        exact ⟨RB.no _, rfl⟩
      by_cases g4' : (1048576 : Int) < (z : Int) + (n3 : Int) + (n4 : Int)
      · go_wp2_with fail
        go_ret
        exact ⟨RB.no _, rfl⟩
      clear hix2 HC2
      go_wp2_with fail
      clear hkN hkn
      go_loop [21, 24] (fun s i => ∃ k z : Nat, k ≤ n4 ∧ i = .int .i64 (k : Int) ∧ s = .int .i64 (z : Int) ∧ z ≤ 1048576 ∧ Hid (∀ i, i < k → L i ≤ 1048576)) (fun _ i => n4 - (intOf i).toNat)
      case atStart => exact ⟨0, z + n3 + n4, by omega, rfl, by go_num, by omega, hide (fun i hi => by omega)⟩
      case round =>
        clear g3' g4' hz
        obtain ⟨q, z, hq, rfl, rfl, hz, HK⟩ := hrel
        by_cases hkn : q < n4
        · have hcell := HC4.out q hkn
          by_cases g5 : (1048576 : Int) < (L q : Int)
          · go_wp2_with fail
            go_ret
            exact ⟨RB.no _, rfl⟩
          by_cases g6 : (1048576 : Int) < (z : Int) + (L q : Int)
          · go_wp2_with fail
            go_ret
            exact ⟨RB.no _, rfl⟩
          go_wp2_with fail
          go_loop [21, 25] (fun s i => ∃ j z : Nat, j ≤ L q ∧ i = .int .i64 (j : Int) ∧ s = .int .i64 (z : Int) ∧ z ≤ 1048576) (fun _ i => L q - (intOf i).toNat)
          case atStart => exact ⟨0, z + L q, by omega, rfl, by go_num, by omega⟩
          case round =>
            clear g6 hz
            obtain ⟨j, z, hj, rfl, rfl, hz⟩ := hrel
            by_cases hjn : j < L q
            · as_aux_lemma =>
              have hrow := HR.out q hkn
              obtain ⟨aq, cq, eq, dq, haq, hcq⟩ := hrow
              cases eq
              have hcj := hcq j hjn
              have hixq := fun w' i h0 hi => idx_any (P := Try.prog) Try.underlying22 sz9 (n := L q) (a := A q) (C q) haq w' i h0 hi
              clear haq hcq
              by_cases g7 : (1048576 : Int) < ((F q j).size : Int)
              · go_wp2_with fail
                go_ret
                exact ⟨RB.no _, rfl⟩
              by_cases g8 : (1048576 : Int) < (z : Int) + ((F q j).size : Int)
              · go_wp2_with fail
                go_ret
                exact ⟨RB.no _, rfl⟩
              go_wp2_with fail
              go_round
              case rel => exact ⟨j + 1, z + (F q j).size, by omega, by go_num, by go_num, by omega⟩
              case measure => simp [intOf]; omega
            have hjN : ¬ ((j : Int) < (L q : Int)) := by omega
            have HN : Hid (∀ i, i < q + 1 → L i ≤ 1048576) := hide (fun i hi => by
              by_cases e : i = q
              · rw [e]; omega
              · exact HK.out i (by omega))
            go_wp2_with fail
            go_round
            case rel => exact ⟨q + 1, z, by omega, by go_num, rfl, hz, HN⟩
            case measure => simp [intOf]; omega
        · have hqN : ¬ ((q : Int) < (n4 : Int)) := by omega
          go_wp2_with fail
          go_ret
          exact ⟨RB.yes ⟨by omega, by omega, by omega, by omega, fun i hi => HK.out i (by omega)⟩, rfl⟩
end Go.Proofs.Qxb6603233a
