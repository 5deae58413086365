import Derived.Test.Qxb6603233aClone
namespace Go.Proofs.Qxb6603233a
open Go.RowKit

theorem str_eq (a b : ByteArray) : (a.toList == b.toList) = true ↔ a = b := by
  rw [ByteArray.toList_eq, ByteArray.toList_eq]
  constructor
  · intro h
    exact Go.WideShapes.bytes_inj (by simpa using h)
  · rintro rfl
    simp
theorem str_ne {a b : ByteArray} (h : a ≠ b) : (a.toList == b.toList) = false := by
  cases e : (a.toList == b.toList) with
  | false => rfl
  | true => exact absurd ((str_eq a b).1 e) h
/-- it answers whether p -/
def Ans (e : Ending) (p : Prop) : Prop := ∃ b, e = .returned (.bool b) ∧ (b = true ↔ p)
theorem Ans.yes {p : Prop} (h : p) : Ans (.returned (.bool true)) p := ⟨true, rfl, fun _ => h, fun _ => rfl⟩
theorem Ans.no {p : Prop} (h : ¬ p) : Ans (.returned (.bool false)) p := ⟨false, rfl, ⟨fun h' => (by cases h'), fun h' => absurd h' h⟩⟩

set_option maxHeartbeats 1000000 in
theorem contains_any (v : Value) (n : Nat) (f : Nat → ByteArray) (s : ByteArray) (w : World) (hv : SV w v n fun j => .string (f j)) :
    Calls Try.prog 25 #[v, .string s] w fun e w' => Ans e (∃ i, i < n ∧ f i = s) ∧ w' = w := by
  obtain ⟨a, cap, rfl, hn, ha, hc⟩ := hv
  have hix := fun w' i h0 hi => idx_any (P := Try.prog) Try.underlying22 sz9 (n := n) (a := a) cap ha w' i h0 hi
  have HA := hide ha
  clear ha
  go_enter Try.func25, Try.ntmps25
  go_wp2_with fail
  go_loop [5] (fun i => ∃ k : Nat, k ≤ n ∧ i = .int .i64 k ∧ Hid (∀ j, j < k → f j ≠ s)) (fun i => n - (intOf i).toNat)
  case atStart => exact ⟨0, by omega, rfl, hide (fun j hj => by omega)⟩
  case round =>
    obtain ⟨k, hk, rfl, HK⟩ := hrel
    by_cases hkn : k < n
    · have hcell := hc k hkn
      by_cases he : f k = s
      · have hb : ((f k).toList == s.toList) = true := (str_eq _ _).2 he
        have HE := hide he
        clear he
        go_wp2_with fail
        go_ret
        exact ⟨Ans.yes ⟨k, hkn, HE.out⟩, rfl⟩
      · have hb : ((f k).toList == s.toList) = false := str_ne he
        have HN : Hid (∀ j, j < k + 1 → f j ≠ s) := hide (fun j hj => by
          by_cases e : j = k
          · rw [e]; exact he
          · exact HK.out j (by omega))
        clear he HK
        go_wp2_with fail
        go_round
        case rel => exact ⟨k + 1, by omega, by go_num, HN⟩
        case measure => simp [intOf]; omega
    · have hkN : ¬ ((k : Int) < (n : Int)) := by omega
      go_wp2_with fail
      go_ret
      exact ⟨Ans.no (fun ⟨i, hi, e⟩ => HK.out i (by omega) e), rfl⟩

/-- no later entry bears the name of entry j -/
def LastH (f : Nat → ByteArray) (n j : Nat) : Prop := ∀ k, j < k → k < n → f k ≠ f j
set_option maxHeartbeats 1000000 in
theorem last_any (v : Value) (n : Nat) (f : Nat → ByteArray) (j : Nat) (w : World) (hv : SV w v n fun j => .string (f j)) (hj : j < n) (hn2 : n ≤ 1048576) :
    Calls Try.prog 24 #[v, .int .i64 (j : Int)] w fun e w' => Ans e (LastH f n j) ∧ ∃ m, w' = w.drewN m := by
  obtain ⟨a, cap, rfl, hn, ha, hc⟩ := hv
  have hix := fun w' i h0 hi => idx_any (P := Try.prog) Try.underlying22 sz9 (n := n) (a := a) cap ha w' i h0 hi
  have HA := hide ha
  clear ha
  have hcj := hc j hj
  have hxj : ∀ w', (Instr.indexAt 22 (.slice a n cap) (.int .i64 (j : Int))).run Try.prog w' = .ok (.pointer (some (adr a j))) w' := fun w' => by
    rw [hix w' _ (by omega) (by omega)]; rfl
  go_enter Try.func24, Try.ntmps24
  go_wp2_with fail
  go_loopw [5] (fun i wr => ∃ k m : Nat, j < k ∧ k ≤ n ∧ i = .int .i64 (k : Int) ∧ wr = w.drewN m ∧ Hid (∀ i, j < i → i < k → f i ≠ f j)) (fun i _ => n - (intOf i).toNat)
  case atStart => exact ⟨j + 1, 0, by omega, by omega, by go_num, rfl, hide (fun i h1 h2 => by omega)⟩
  case round =>
    obtain ⟨k, m, hjk, hk, rfl, rfl, HK⟩ := hrel
    by_cases hkn : k < n
    · have hcell := hc k hkn
      have hxk : ∀ w', (Instr.indexAt 22 (.slice a n cap) (.int .i64 (k : Int))).run Try.prog w' = .ok (.pointer (some (adr a k))) w' := fun w' => by
        rw [hix w' _ (by omega) (by omega)]; rfl
      clear hix
      by_cases he : f k = f j
      · have hb : ((f k).toList == (f j).toList) = true := (str_eq _ _).2 he
        have HE := hide he
        clear he
        go_wp2_with fail
        go_quiet (fail)
        go_wp2_with fail
        go_ret
        exact ⟨Ans.no (fun h => h k hjk hkn HE.out), _, by simp only [World.drewN_drewN]; rfl⟩
      · have hb : ((f k).toList == (f j).toList) = false := str_ne he
        have HN : Hid (∀ i, j < i → i < k + 1 → f i ≠ f j) := hide (fun i h1 h2 => by
          by_cases e : i = k
          · rw [e]; exact he
          · exact HK.out i h1 (by omega))
        clear he HK
        go_wp2_with fail
        go_quiet (fail)
        go_wp2_with fail
        go_roundw
        case rel => exact ⟨k + 1, _, by omega, by omega, by go_num, rfl, HN⟩
        case measure => simp [intOf]; omega
    · have hkN : ¬ ((k : Int) < (n : Int)) := by omega
      go_wp2_with fail
      go_ret
      exact ⟨Ans.yes (fun i h1 h2 => HK.out i h1 (by omega)), m, rfl⟩

/-- an integer of no more than 1<<20 + 1 -/
def IntTo (e : Ending) : Prop := ∃ z : Nat, e = .returned (.int .i64 (z : Int)) ∧ z ≤ 1048577
set_option maxHeartbeats 2000000 in
theorem strsBytes_any (v : Value) (n : Nat) (f : Nat → ByteArray) (w : World) (hv : SV w v n fun j => .string (f j)) :
    Calls Try.prog 21 #[v] w fun e w' => IntTo e ∧ w' = w := by
  obtain ⟨a, cap, rfl, hn, ha, hc⟩ := hv
  have hix := fun w' i h0 hi => idx_any (P := Try.prog) Try.underlying22 sz9 (n := n) (a := a) cap ha w' i h0 hi
  have HA := hide ha
  clear ha
  by_cases g0 : (1048576 : Int) < (n : Int)
  · go_enter Try.func21, Try.ntmps21
    go_wp2_with fail
    go_ret
    exact ⟨⟨1048577, rfl, by omega⟩, rfl⟩
  by_cases g1 : (1048576 : Int) < 16 * (n : Int)
  · go_enter Try.func21, Try.ntmps21
    go_wp2_with fail
    go_ret
    exact ⟨⟨1048577, rfl, by omega⟩, rfl⟩
  go_enter Try.func21, Try.ntmps21
  go_wp2_with fail
  go_loop [3, 4] (fun s i => ∃ k z : Nat, k ≤ n ∧ i = .int .i64 (k : Int) ∧ s = .int .i64 (z : Int) ∧ z ≤ 1048576) (fun _ i => n - (intOf i).toNat)
  case atStart => exact ⟨0, 16 * n, by omega, rfl, by go_num, by omega⟩
  case round =>
    obtain ⟨k, z, hk, rfl, rfl, hz⟩ := hrel
    by_cases hkn : k < n
    · have hcell := hc k hkn
      by_cases g2 : (1048576 : Int) < ((f k).size : Int)
      · go_wp2_with fail
        go_ret
        exact ⟨⟨1048577, rfl, by omega⟩, rfl⟩
      by_cases g3 : (1048576 : Int) < (z : Int) + ((f k).size : Int)
      · go_wp2_with fail
        go_ret
        exact ⟨⟨1048577, rfl, by omega⟩, rfl⟩
      go_wp2_with fail
      go_round
      case rel => exact ⟨k + 1, z + (f k).size, by omega, by go_num, by go_num, by omega⟩
      case measure => simp [intOf]; omega
    · have hkN : ¬ ((k : Int) < (n : Int)) := by omega
      go_wp2_with fail
      go_ret
      exact ⟨⟨z, rfl, by omega⟩, rfl⟩
end Go.Proofs.Qxb6603233a
