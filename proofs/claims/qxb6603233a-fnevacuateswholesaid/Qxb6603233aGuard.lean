import Derived.Test.Qxb6603233aStrs
namespace Go.Proofs.Qxb6603233a
open Go.RowKit

set_option maxHeartbeats 2000000 in
theorem nestedBytes_any (v : Value) (n : Nat) (A : Nat → Option Addr) (L C : Nat → Nat) (F : Nat → Nat → ByteArray) (w : World) (hv : SS w v n A L C (fun i j => .string (F i j))) :
    Calls Try.prog 22 #[v] w fun e w' => IntTo e ∧ w' = w := by
  obtain ⟨⟨a, cap, rfl, hn, ha, hc⟩, hr⟩ := hv
  have hix := fun w' i h0 hi => idx_any (P := Try.prog) Try.underlying24 sz22 (n := n) (a := a) cap ha w' i h0 hi
  have HA := hide ha
  have HR := hide hr
  clear ha hr
  by_cases g0 : (1048576 : Int) < (n : Int)
  · go_enter Try.func22, Try.ntmps22
    go_wp2_with fail
    go_ret
    exact ⟨⟨1048577, rfl, by omega⟩, rfl⟩
  by_cases g1 : (1048576 : Int) < 24 * (n : Int)
  · go_enter Try.func22, Try.ntmps22
    go_wp2_with fail
    go_ret
    exact ⟨⟨1048577, rfl, by omega⟩, rfl⟩
  go_enter Try.func22, Try.ntmps22
  go_wp2_with fail
  go_loop [3, 4] (fun s i => ∃ k z : Nat, k ≤ n ∧ i = .int .i64 (k : Int) ∧ s = .int .i64 (z : Int) ∧ z ≤ 1048576) (fun _ i => n - (intOf i).toNat)
  case atStart => exact ⟨0, 24 * n, by omega, rfl, by go_num, by omega⟩
  case round =>
    obtain ⟨k, z, hk, rfl, rfl, hz⟩ := hrel
    by_cases hkn : k < n
    · have hcell := hc k hkn
      go_wp2_with fail
      refine (strsBytes_any _ (L k) (F k) w (HR.out k hkn)).mono ?_
      rintro e w' ⟨⟨z', rfl, hz'⟩, hw⟩
      obtain rfl : w = w' := hw.symm
      clear hw
      by_cases g3 : (1048576 : Int) < (z : Int) + (z' : Int)
      · go_wp2_with fail
        go_ret
        exact ⟨⟨1048577, rfl, by omega⟩, rfl⟩
      go_wp2_with fail
      go_round
      case rel => exact ⟨k + 1, z + z', by omega, by go_num, by go_num, by omega⟩
      case measure => simp [intOf]; omega
    · have hkN : ¬ ((k : Int) < (n : Int)) := by omega
      go_wp2_with fail
      go_ret
      exact ⟨⟨z, rfl, by omega⟩, rfl⟩

set_option maxHeartbeats 2000000 in
theorem tooBig_any (uuid : ByteArray) (v1 v2 v3 v4 : Value) (n1 n2 n3 n4 : Nat) (f1 f2 : Nat → ByteArray) (f3 : Nat → Value) (A : Nat → Option Addr) (L C : Nat → Nat) (F : Nat → Nat → ByteArray) (w : World)
    (h1 : SV w v1 n1 fun j => .string (f1 j)) (h2 : SV w v2 n2 fun j => .string (f2 j)) (h3 : SV w v3 n3 f3) (h4 : SS w v4 n4 A L C (fun i j => .string (F i j))) :
    Calls Try.prog 8 #[.string uuid, v1, .slice none 0 0, v2, v3, v4] w fun e w' => RB e True ∧ w' = w := by
  have H1 := hide h1
  have H2 := hide h2
  have H4 := hide h4
  clear h1 h2 h4
  obtain ⟨a3, c3, rfl, b3, _, _⟩ := h3
  by_cases g0 : (1048576 : Int) < (uuid.size : Int)
  · go_enter Try.func8, Try.ntmps8
    go_wp2_with fail
    go_ret
    exact ⟨RB.yes trivial, rfl⟩
  by_cases g1 : (1048576 : Int) < (n3 : Int)
  · go_enter Try.func8, Try.ntmps8
    go_wp2_with fail
    go_ret
    exact ⟨RB.yes trivial, rfl⟩
  go_enter Try.func8, Try.ntmps8
  go_wp2_with fail
  refine (strsBytes_any _ n1 f1 w H1.out).mono ?_
  rintro e w' ⟨⟨z1, rfl, hz1⟩, hw⟩
  obtain rfl : w = w' := hw.symm
  clear hw
  go_wp2_with fail
  refine (strsBytes_any _ 0 f1 w (SV.nil w _)).mono ?_
  rintro e w' ⟨⟨z2, rfl, hz2⟩, hw⟩
  obtain rfl : w = w' := hw.symm
  clear hw
  go_wp2_with fail
  refine (strsBytes_any _ n2 f2 w H2.out).mono ?_
  rintro e w' ⟨⟨z3, rfl, hz3⟩, hw⟩
  obtain rfl : w = w' := hw.symm
  clear hw
  go_wp2_with fail
  refine (nestedBytes_any _ n4 A L C F w H4.out).mono ?_
  rintro e w' ⟨⟨z4, rfl, hz4⟩, hw⟩
  obtain rfl : w = w' := hw.symm
  clear hw
  go_wp2_with fail
  go_ret
  exact ⟨⟨_, rfl, fun _ => trivial⟩, rfl⟩

set_option maxHeartbeats 1000000 in
theorem shape_any (v2 v3 v4 : Value) (n2 n3 n4 : Nat) (f2 f3 f4 : Nat → Value) (w : World) (h2 : SV w v2 n2 f2) (h3 : SV w v3 n3 f3) (h4 : SV w v4 n4 f4) :
    Calls Try.prog 9 #[v2, v3, v4] w fun e w' => RB e (n3 = n2 ∧ n4 = n2 ∧ n2 ≤ 4096) ∧ w' = w := by
  obtain ⟨a2, c2, rfl, b2, _, _⟩ := h2
  obtain ⟨a3, c3, rfl, b3, _, _⟩ := h3
  obtain ⟨a4, c4, rfl, b4, _, _⟩ := h4
  by_cases e1 : n3 = n2
  · have q1 : (((n3 : Nat) : Int) == ((n2 : Nat) : Int)) = true := by simp [e1]
    have E1 := hide e1
    clear e1
    by_cases e2 : n4 = n2
    · have q2 : (((n4 : Nat) : Int) == ((n2 : Nat) : Int)) = true := by simp [e2]
      have E2 := hide e2
      clear e2
      by_cases e3 : ((n2 : Nat) : Int) ≤ 4096
      · go_enter Try.func9, Try.ntmps9
        go_wp2_with fail
        go_ret
        exact ⟨⟨true, by simp, fun _ => ⟨E1.out, E2.out, by omega⟩⟩, rfl⟩
      · go_enter Try.func9, Try.ntmps9
        go_wp2_with fail
        go_ret
        exact ⟨⟨false, by simp, fun h => by cases h⟩, rfl⟩
    · have q2 : (((n4 : Nat) : Int) == ((n2 : Nat) : Int)) = false := by rw [beq_eq_false_iff_ne]; omega
      clear e2
      go_enter Try.func9, Try.ntmps9
      go_wp2_with fail
      go_ret
      exact ⟨⟨false, by simp, fun h => by cases h⟩, rfl⟩
  · have q1 : (((n3 : Nat) : Int) == ((n2 : Nat) : Int)) = false := by rw [beq_eq_false_iff_ne]; omega
    clear e1
    go_enter Try.func9, Try.ntmps9
    go_wp2_with fail
    go_ret
    exact ⟨⟨false, by simp, fun h => by cases h⟩, rfl⟩
end Go.Proofs.Qxb6603233a
