import Derived.Test.Qxb6602675aWalkB
namespace Go.Proofs.Qxb6602675a
open Go.RowKit

set_option maxHeartbeats 1000000 in
theorem bytes2_fit (a b : ByteArray) (w : World) (h : a.size + b.size ≤ 1048576) :
    Calls Try.prog 11 #[.string a, .string b] w fun e w' => e = .returned (.bool true) ∧ w' = w := by
  have h1 : ¬ (1048576 : Int) < (a.size : Int) := by omega
  have h2 : ¬ (1048576 : Int) < (b.size : Int) := by omega
  have h3 : ¬ (1048576 : Int) < (a.size : Int) + (b.size : Int) := by omega
  go_enter Try.func11, Try.ntmps11
  go_wp2
  go_ret
  exact ⟨rfl, rfl⟩
set_option maxHeartbeats 1000000 in
theorem bytes2_long (a b : ByteArray) (w : World) (ha : a.size ≤ maxLen) (hb : b.size ≤ maxLen) (h : ¬ a.size + b.size ≤ 1048576) :
    Calls Try.prog 11 #[.string a, .string b] w fun e w' => e = .returned (.bool false) ∧ w' = w := by
  unfold maxLen at ha hb
  by_cases g1 : (1048576 : Int) < (a.size : Int)
  · go_enter Try.func11, Try.ntmps11
    go_wp2
    go_ret
    exact ⟨rfl, rfl⟩
  · by_cases g2 : (1048576 : Int) < (b.size : Int)
    · go_enter Try.func11, Try.ntmps11
      go_wp2
      go_ret
      exact ⟨rfl, rfl⟩
    · have h3 : (1048576 : Int) < (a.size : Int) + (b.size : Int) := by omega
      go_enter Try.func11, Try.ntmps11
      go_wp2
      go_ret
      exact ⟨rfl, rfl⟩

theorem first_diff (a b : ByteArray) : ∀ m, m ≤ 19 → ∃ n, n ≤ m ∧ (∀ j, j < n → bt a j = bt b j) ∧ (n < m → bt a n ≠ bt b n)
  | 0, _ => ⟨0, by omega, fun j hj => by omega, fun h => by omega⟩
  | m + 1, hm => by
    obtain ⟨n, hn, he, hb⟩ := first_diff a b m (by omega)
    by_cases e : n < m
    · exact ⟨n, by omega, he, fun _ => hb e⟩
    · have e' : n = m := by omega
      subst e'
      by_cases h : bt a n = bt b n
      · refine ⟨n + 1, by omega, fun j hj => ?_, fun h' => by omega⟩
        by_cases ej : j = n
        · rw [ej]; exact h
        · exact he j (by omega)
      · exact ⟨n, by omega, he, fun _ => h⟩

set_option maxHeartbeats 2000000 in
theorem cmp_any (a b : ByteArray) (w : World) (ha : a.size = 19) (hb : b.size = 19) (n : Nat) (hn : n ≤ 19) (he : ∀ j, j < n → bt a j = bt b j)
    (c : Int) (hc : (n = 19 ∧ c = 0) ∨ (n < 19 ∧ bt a n < bt b n ∧ c = -1) ∨ (n < 19 ∧ bt b n < bt a n ∧ c = 1)) :
    Calls Try.prog 12 #[.string a, .string b] w fun e w' => e = .returned (.int .i64 c) ∧ ∃ m, w' = w.drewN m := by
  have hba : ¬ (b.size : Int) < (a.size : Int) := by omega
  have hab : ¬ (a.size : Int) < (b.size : Int) := by omega
  have ha1 : a.size ≤ 19 := by omega
  have ha2 : 19 ≤ a.size := by omega
  have hb1 : b.size ≤ 19 := by omega
  have hb2 : 19 ≤ b.size := by omega
  have HE : Hid (∀ j, j < n → bt a j = bt b j) := he
  have HC : Hid ((n = 19 ∧ c = 0) ∨ (n < 19 ∧ bt a n < bt b n ∧ c = -1) ∨ (n < 19 ∧ bt b n < bt a n ∧ c = 1)) := hc
  clear ha hb he hc
  go_enter Try.func12, Try.ntmps12
  go_wp2
  go_loopw [6] (fun i wr => ∃ k m : Nat, k ≤ n ∧ i = .int .i64 k ∧ wr = w.drewN m) (fun i _ => 19 - (intOf i).toNat)
  case atStart => exact ⟨0, 0, by omega, rfl, rfl⟩
  case round =>
    obtain ⟨k, m, hk, rfl, rfl⟩ := hrel
    by_cases hkn : k < n
    · have hka : k < a.size := by omega
      have hkb : k < b.size := by omega
      have h1 : ¬ ((a[k].toNat : Nat) : Int) < ((b[k].toNat : Nat) : Int) := by rw [bt_eq a k hka, bt_eq b k hkb, HE.out k hkn]; omega
      have h2 : ¬ ((b[k].toNat : Nat) : Int) < ((a[k].toNat : Nat) : Int) := by rw [bt_eq a k hka, bt_eq b k hkb, HE.out k hkn]; omega
      go_wp2
      go_quiet (fail)
      go_wp2
      go_quiet (fail)
      go_wp2
      go_roundw
      case rel => exact ⟨k + 1, _, by omega, by go_num, rfl⟩
      case measure => simp [intOf]; omega
    · have hkn' : k = n := by omega
      subst hkn'
      rcases HC.out with ⟨h19, rfl⟩ | ⟨hlt, hd, rfl⟩ | ⟨hlt, hd, rfl⟩
      · subst h19
        clear HC HE
        go_wp2
        go_ret
        exact ⟨rfl, m, rfl⟩
      · have hka : k < a.size := by omega
        have hkb : k < b.size := by omega
        have h1 : ((a[k].toNat : Nat) : Int) < ((b[k].toNat : Nat) : Int) := by rw [bt_eq a k hka, bt_eq b k hkb]; exact hd
        clear HC HE hd
        go_wp2
        go_quiet (fail)
        go_wp2
        go_ret
        exact ⟨rfl, _, by simp only [World.drewN_drewN]; rfl⟩
      · have hka : k < a.size := by omega
        have hkb : k < b.size := by omega
        have h1 : ((b[k].toNat : Nat) : Int) < ((a[k].toNat : Nat) : Int) := by rw [bt_eq a k hka, bt_eq b k hkb]; exact hd
        have h2 : ¬ ((a[k].toNat : Nat) : Int) < ((b[k].toNat : Nat) : Int) := by omega
        clear HC HE hd
        go_wp2
        go_quiet (fail)
        go_wp2
        go_quiet (fail)
        go_wp2
        go_ret
        exact ⟨rfl, _, by simp only [World.drewN_drewN]; rfl⟩
end Go.Proofs.Qxb6602675a
