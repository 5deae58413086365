import Derived.Test.Qxb6602675aRows
import Derived.Test.Qxb6602675aPlain
import Derived.WalkKit
import Derived.WalkSpells
import Derived.WalkLawsBesides
import Derived.RowKit3
import Derived.BigQuiet
import Derived.Deep.QuietTactic
namespace Go.Proofs.Qxb6602675a
open Go.RowKit

theorem size_iff (s : ByteArray) : (((s.size : Nat) : Int) != 19) = !decide (s.size = 19) := by
  rw [Bool.eq_iff_iff]; simp; omega

/-! ### what a place's verdict says of the byte, as the walk spells it -/
theorem sep_ok {s : ByteArray} {i : Nat} (hi : i < s.size) (h : okAt s i = true) (hs : isSep i = true) (v : Int) (hv : sepOf i = v) : (((s[i].toNat : Nat) : Int) != v) = false := by
  rw [bt_eq s i hi, ok_sep h hs, hv]; simp
theorem sep_bad {s : ByteArray} {i : Nat} (hi : i < s.size) (h : okAt s i = false) (hs : isSep i = true) (v : Int) (hv : sepOf i = v) : (((s[i].toNat : Nat) : Int) != v) = true := by
  rw [bt_eq s i hi]
  unfold okAt at h
  rw [hs, hv] at h
  simpa using h
theorem dig_ok {s : ByteArray} {i : Nat} (hi : i < s.size) (h : okAt s i = true) (hs : isSep i = false) : 48 ≤ ((s[i].toNat : Nat) : Int) ∧ ((s[i].toNat : Nat) : Int) ≤ 57 := by
  rw [bt_eq s i hi]; exact ok_digit h hs
theorem dig_bad {s : ByteArray} {i : Nat} (hi : i < s.size) (h : okAt s i = false) (hs : isSep i = false) : ((s[i].toNat : Nat) : Int) < 48 ∨ 57 < ((s[i].toNat : Nat) : Int) := by
  rw [bt_eq s i hi]
  unfold okAt at h
  rw [hs] at h
  simp at h
  by_cases g : bt s i < 48
  · exact .inl g
  · exact .inr (h (by omega))
theorem notSep {k : Nat} (h4 : k ≠ 4) (h7 : k ≠ 7) (h10 : k ≠ 10) (h13 : k ≠ 13) (h16 : k ≠ 16) : isSep k = false := by
  simp [isSep, h4, h7, h10, h13, h16]
theorem neB {k n : Nat} (h : k ≠ n) (m : Int) (hm : m = n) : (((k : Nat) : Int) == m) = false := by
  rw [beq_eq_false_iff_ne]; omega

set_option maxHeartbeats 1000000 in
theorem shape_short (s : ByteArray) (w : World) (h : ¬ s.size = 19) :
    Calls Try.prog 9 #[.string s] w fun e w' => e = .returned (.bool false) ∧ w' = w := by
  have h1 : (((s.size : Nat) : Int) != 19) = true := by rw [size_iff]; simp [h]
  go_enter Try.func9, Try.ntmps9
  go_wp2
  go_ret
  exact ⟨rfl, rfl⟩

set_option maxHeartbeats 1000000 in
theorem shape_full (s : ByteArray) (w : World) (h : s.size = 19) (n : Nat) (hn : n ≤ 19) (hok : okTo s n) (hbad : n < 19 → okAt s n = false) (b : Bool) (hb : b = decide (n = 19)) :
    Calls Try.prog 9 #[.string s] w fun e w' => e = .returned (.bool b) ∧ w' = w := by
  have h1 : (((s.size : Nat) : Int) != 19) = false := by rw [size_iff]; simp [h]
  have h2 : 19 ≤ s.size := by omega
  have h3 : s.size ≤ 19 := by omega
  have HB : Hid (b = decide (n = 19)) := hb
  have HO : Hid (okTo s n) := hok
  have HD : Hid (n < 19 → okAt s n = false) := hbad
  clear h hb hok hbad
  go_enter Try.func9, Try.ntmps9
  go_wp2
  go_loop [3] (fun i => ∃ k : Nat, k ≤ n ∧ i = .int .i64 k) (fun i => 19 - (intOf i).toNat)
  case atStart => exact ⟨0, by omega, rfl⟩
  case round =>
    obtain ⟨k, hk, rfl⟩ := hrel
    by_cases hkn : k < n
    · have HA : Hid (okAt s k = true) := HO.out k hkn
      have hlt : k < 19 := by omega
      by_cases e4 : k = 4
      · subst e4
        have hq := sep_ok (s := s) (i := 4) (by omega) HA.out rfl 45 rfl
        go_wp2
        exact ⟨⟨5, by omega, by go_num⟩, by simp [intOf]⟩
      by_cases e7 : k = 7
      · subst e7
        have hq := sep_ok (s := s) (i := 7) (by omega) HA.out rfl 45 rfl
        go_wp2
        exact ⟨⟨8, by omega, by go_num⟩, by simp [intOf]⟩
      by_cases e10 : k = 10
      · subst e10
        have hq := sep_ok (s := s) (i := 10) (by omega) HA.out rfl 32 rfl
        go_wp2
        exact ⟨⟨11, by omega, by go_num⟩, by simp [intOf]⟩
      by_cases e13 : k = 13
      · subst e13
        have hq := sep_ok (s := s) (i := 13) (by omega) HA.out rfl 58 rfl
        go_wp2
        exact ⟨⟨14, by omega, by go_num⟩, by simp [intOf]⟩
      by_cases e16 : k = 16
      · subst e16
        have hq := sep_ok (s := s) (i := 16) (by omega) HA.out rfl 58 rfl
        go_wp2
        exact ⟨⟨17, by omega, by go_num⟩, by simp [intOf]⟩
      have b4 := neB e4 4 rfl
      have b7 := neB e7 7 rfl
      have b10 := neB e10 10 rfl
      have b13 := neB e13 13 rfl
      have b16 := neB e16 16 rfl
      obtain ⟨hq1, hq2⟩ := dig_ok (s := s) (i := k) (by omega) HA.out (notSep e4 e7 e10 e13 e16)
      clear e4 e7 e10 e13 e16
      go_wp2
      exact ⟨⟨k + 1, by omega, by go_num⟩, by simp [intOf]; omega⟩
    · have hkn' : k = n := by omega
      subst hkn'
      by_cases hlt : k < 19
      · have HA : Hid (okAt s k = false) := HD.out hlt
        have hbf : b = false := by rw [HB.out]; simp; omega
        subst hbf
        clear HB HO HD
        by_cases e4 : k = 4
        · subst e4
          have hq := sep_bad (s := s) (i := 4) (by omega) HA.out rfl 45 rfl
          go_wp2
          go_ret
          exact ⟨rfl, rfl⟩
        by_cases e7 : k = 7
        · subst e7
          have hq := sep_bad (s := s) (i := 7) (by omega) HA.out rfl 45 rfl
          go_wp2
          go_ret
          exact ⟨rfl, rfl⟩
        by_cases e10 : k = 10
        · subst e10
          have hq := sep_bad (s := s) (i := 10) (by omega) HA.out rfl 32 rfl
          go_wp2
          go_ret
          exact ⟨rfl, rfl⟩
        by_cases e13 : k = 13
        · subst e13
          have hq := sep_bad (s := s) (i := 13) (by omega) HA.out rfl 58 rfl
          go_wp2
          go_ret
          exact ⟨rfl, rfl⟩
        by_cases e16 : k = 16
        · subst e16
          have hq := sep_bad (s := s) (i := 16) (by omega) HA.out rfl 58 rfl
          go_wp2
          go_ret
          exact ⟨rfl, rfl⟩
        have b4 := neB e4 4 rfl
        have b7 := neB e7 7 rfl
        have b10 := neB e10 10 rfl
        have b13 := neB e13 13 rfl
        have b16 := neB e16 16 rfl
        have hq := dig_bad (s := s) (i := k) (by omega) HA.out (notSep e4 e7 e10 e13 e16)
        clear e4 e7 e10 e13 e16
        rcases hq with hq | hq
        · go_wp2
          go_ret
          exact ⟨rfl, rfl⟩
        · have hq' : ¬ ((s[k].toNat : Nat) : Int) < 48 := by omega
          go_wp2
          go_ret
          exact ⟨rfl, rfl⟩
      · have hbt : b = true := by rw [HB.out]; simp; omega
        subst hbt
        clear HB HO HD
        go_wp2
        go_ret
        exact ⟨rfl, rfl⟩
theorem byte_bd (s : ByteArray) (i : Nat) (h : i < s.size) : 0 ≤ ((s[i].toNat : Nat) : Int) ∧ ((s[i].toNat : Nat) : Int) ≤ 255 := by
  rw [bt_eq s i h]
  have := bt_bd s i
  omega
theorem lay_dig (k : Nat) (hk : k < 19) (h : isSep k = false) : 48 ≤ (((({ data := #[50, 48, 48, 54, 45, 48, 49, 45, 48, 50, 32, 49, 53, 58, 48, 52, 58, 48, 53] } : ByteArray)[k]'hk).toNat : Nat) : Int) ∧ (((({ data := #[50, 48, 48, 54, 45, 48, 49, 45, 48, 50, 32, 49, 53, 58, 48, 52, 58, 48, 53] } : ByteArray)[k]'hk).toNat : Nat) : Int) ≤ 57 := by
  rw [bt_eq ({ data := #[50, 48, 48, 54, 45, 48, 49, 45, 48, 50, 32, 49, 53, 58, 48, 52, 58, 48, 53] } : ByteArray) k hk]
  rcases (by omega : k = 0 ∨ k = 1 ∨ k = 2 ∨ k = 3 ∨ k = 4 ∨ k = 5 ∨ k = 6 ∨ k = 7 ∨ k = 8 ∨ k = 9 ∨ k = 10 ∨ k = 11 ∨ k = 12 ∨ k = 13 ∨ k = 14 ∨ k = 15 ∨ k = 16 ∨ k = 17 ∨ k = 18) with e | e | e | e | e | e | e | e | e | e | e | e | e | e | e | e | e | e | e <;> subst e <;> first | (simp [isSep] at h; done) | decide

set_option maxHeartbeats 1000000 in
theorem dig_short (s : ByteArray) (w : World) (h : ¬ s.size = 19) :
    Calls Try.prog 8 #[.string s] w fun e w' => e = .returned (.tuple #[.int .i64 0, .bool false]) ∧ w' = w := by
  have h1 : (((s.size : Nat) : Int) != 19) = true := by rw [size_iff]; simp [h]
  go_enter Try.func8, Try.ntmps8
  go_wp2
  go_ret2
  exact ⟨rfl, rfl⟩

/-- what TimeDigits answers at a text of nineteen bytes whose first n places fit and whose n-th, if there is one, does not -/
def ansD (s : ByteArray) (n : Nat) : Int := if n = 19 then dg s 19 else 0

set_option maxHeartbeats 2000000 in
theorem dig_full (s : ByteArray) (w : World) (h : s.size = 19) (n : Nat) (hn : n ≤ 19) (hok : okTo s n) (hbad : n < 19 → okAt s n = false) (b : Bool) (hb : b = decide (n = 19)) (d : Int) (hd : d = ansD s n) :
    Calls Try.prog 8 #[.string s] w fun e w' => e = .returned (.tuple #[.int .i64 d, .bool b]) ∧ ∃ m, w' = w.drewN m := by
  have h1 : (((s.size : Nat) : Int) != 19) = false := by rw [size_iff]; simp [h]
  have h2 : 19 ≤ s.size := by omega
  have h3 : s.size ≤ 19 := by omega
  have HO : Hid (okTo s n) := hok
  have HD : Hid (n < 19 → okAt s n = false) := hbad
  have HB : Hid (b = decide (n = 19)) := hb
  have HV : Hid (d = ansD s n) := hd
  clear h hok hbad hb hd
  go_enter Try.func8, Try.ntmps8
  go_wp2
  go_loopw [2, 4] (fun d i wr => ∃ k m : Nat, k ≤ n ∧ i = .int .i64 k ∧ d = .int .i64 (dg s k) ∧ wr = w.drewN m) (fun _ i _ => 19 - (intOf i).toNat)
  case atStart => exact ⟨0, 0, by omega, rfl, rfl, rfl⟩
  case round =>
    obtain ⟨k, m, hk, rfl, rfl, rfl⟩ := hrel
    by_cases hkn : k < n
    · have HA : Hid (okAt s k = true) := HO.out k hkn
      have hlt : k < 19 := by omega
      by_cases e4 : k = 4
      · subst e4
        have hq := sep_ok (s := s) (i := 4) (by omega) HA.out rfl 45 rfl
        have hL : (((({ data := #[50, 48, 48, 54, 45, 48, 49, 45, 48, 50, 32, 49, 53, 58, 48, 52, 58, 48, 53] } : ByteArray)[4]).toNat : Nat) : Int) = 45 := rfl
        have hy := byte_bd s 4 (by omega)
        obtain ⟨hy1, hy2⟩ := hy
        go_wp2
        go_quiet (fail)
        go_wp2
        go_roundw
        case rel => exact ⟨5, _, by omega, by go_num, rfl, rfl⟩
        case measure => simp [intOf]
      by_cases e7 : k = 7
      · subst e7
        have hq := sep_ok (s := s) (i := 7) (by omega) HA.out rfl 45 rfl
        have hL : (((({ data := #[50, 48, 48, 54, 45, 48, 49, 45, 48, 50, 32, 49, 53, 58, 48, 52, 58, 48, 53] } : ByteArray)[7]).toNat : Nat) : Int) = 45 := rfl
        have hy := byte_bd s 7 (by omega)
        obtain ⟨hy1, hy2⟩ := hy
        go_wp2
        go_quiet (fail)
        go_wp2
        go_roundw
        case rel => exact ⟨8, _, by omega, by go_num, rfl, rfl⟩
        case measure => simp [intOf]
      by_cases e10 : k = 10
      · subst e10
        have hq := sep_ok (s := s) (i := 10) (by omega) HA.out rfl 32 rfl
        have hL : (((({ data := #[50, 48, 48, 54, 45, 48, 49, 45, 48, 50, 32, 49, 53, 58, 48, 52, 58, 48, 53] } : ByteArray)[10]).toNat : Nat) : Int) = 32 := rfl
        have hy := byte_bd s 10 (by omega)
        obtain ⟨hy1, hy2⟩ := hy
        go_wp2
        go_quiet (fail)
        go_wp2
        go_roundw
        case rel => exact ⟨11, _, by omega, by go_num, rfl, rfl⟩
        case measure => simp [intOf]
      by_cases e13 : k = 13
      · subst e13
        have hq := sep_ok (s := s) (i := 13) (by omega) HA.out rfl 58 rfl
        have hL : (((({ data := #[50, 48, 48, 54, 45, 48, 49, 45, 48, 50, 32, 49, 53, 58, 48, 52, 58, 48, 53] } : ByteArray)[13]).toNat : Nat) : Int) = 58 := rfl
        have hy := byte_bd s 13 (by omega)
        obtain ⟨hy1, hy2⟩ := hy
        go_wp2
        go_quiet (fail)
        go_wp2
        go_roundw
        case rel => exact ⟨14, _, by omega, by go_num, rfl, rfl⟩
        case measure => simp [intOf]
      by_cases e16 : k = 16
      · subst e16
        have hq := sep_ok (s := s) (i := 16) (by omega) HA.out rfl 58 rfl
        have hL : (((({ data := #[50, 48, 48, 54, 45, 48, 49, 45, 48, 50, 32, 49, 53, 58, 48, 52, 58, 48, 53] } : ByteArray)[16]).toNat : Nat) : Int) = 58 := rfl
        have hy := byte_bd s 16 (by omega)
        obtain ⟨hy1, hy2⟩ := hy
        go_wp2
        go_quiet (fail)
        go_wp2
        go_roundw
        case rel => exact ⟨17, _, by omega, by go_num, rfl, rfl⟩
        case measure => simp [intOf]
      have HN : Hid (isSep k = false) := notSep e4 e7 e10 e13 e16
      obtain ⟨hq1, hq2⟩ := dig_ok (s := s) (i := k) (by omega) HA.out HN.out
      obtain ⟨hl1, hl2⟩ := lay_dig k hlt HN.out
      obtain ⟨hd1, hd2⟩ := dg_small (s := s) k (okTo_mono HO.out (by omega)) (by omega)
      have HE : Hid (dg s (k + 1) = dg s k * 10 + (((s[k].toNat : Nat) : Int) - 48)) := by
        show dg s (k + 1) = _
        simp only [dg, HN.out, Bool.false_eq_true, if_false, bt_eq s k (by omega)]
      clear e4 e7 e10 e13 e16
      go_wp2
      go_roundw
      case rel => exact ⟨k + 1, m, by omega, by go_num, by rw [HE.out], rfl⟩
      case measure => simp [intOf]; omega
    · have hkn' : k = n := by omega
      subst hkn'
      by_cases hlt : k < 19
      · have HA : Hid (okAt s k = false) := HD.out hlt
        have hbf : b = false := by rw [HB.out]; simp; omega
        subst hbf
        have hd0 : d = 0 := by rw [HV.out]; unfold ansD; rw [if_neg (by omega)]
        subst hd0
        clear HB HD HV
        by_cases e4 : k = 4
        · subst e4
          have hq := sep_bad (s := s) (i := 4) (by omega) HA.out rfl 45 rfl
          have hL : (((({ data := #[50, 48, 48, 54, 45, 48, 49, 45, 48, 50, 32, 49, 53, 58, 48, 52, 58, 48, 53] } : ByteArray)[4]).toNat : Nat) : Int) = 45 := rfl
          have hy := byte_bd s 4 (by omega)
          obtain ⟨hy1, hy2⟩ := hy
          go_wp2
          go_quiet (fail)
          go_wp2
          go_ret2
          exact ⟨rfl, _, by simp only [World.drewN_drewN]; rfl⟩
        by_cases e7 : k = 7
        · subst e7
          have hq := sep_bad (s := s) (i := 7) (by omega) HA.out rfl 45 rfl
          have hL : (((({ data := #[50, 48, 48, 54, 45, 48, 49, 45, 48, 50, 32, 49, 53, 58, 48, 52, 58, 48, 53] } : ByteArray)[7]).toNat : Nat) : Int) = 45 := rfl
          have hy := byte_bd s 7 (by omega)
          obtain ⟨hy1, hy2⟩ := hy
          go_wp2
          go_quiet (fail)
          go_wp2
          go_ret2
          exact ⟨rfl, _, by simp only [World.drewN_drewN]; rfl⟩
        by_cases e10 : k = 10
        · subst e10
          have hq := sep_bad (s := s) (i := 10) (by omega) HA.out rfl 32 rfl
          have hL : (((({ data := #[50, 48, 48, 54, 45, 48, 49, 45, 48, 50, 32, 49, 53, 58, 48, 52, 58, 48, 53] } : ByteArray)[10]).toNat : Nat) : Int) = 32 := rfl
          have hy := byte_bd s 10 (by omega)
          obtain ⟨hy1, hy2⟩ := hy
          go_wp2
          go_quiet (fail)
          go_wp2
          go_ret2
          exact ⟨rfl, _, by simp only [World.drewN_drewN]; rfl⟩
        by_cases e13 : k = 13
        · subst e13
          have hq := sep_bad (s := s) (i := 13) (by omega) HA.out rfl 58 rfl
          have hL : (((({ data := #[50, 48, 48, 54, 45, 48, 49, 45, 48, 50, 32, 49, 53, 58, 48, 52, 58, 48, 53] } : ByteArray)[13]).toNat : Nat) : Int) = 58 := rfl
          have hy := byte_bd s 13 (by omega)
          obtain ⟨hy1, hy2⟩ := hy
          go_wp2
          go_quiet (fail)
          go_wp2
          go_ret2
          exact ⟨rfl, _, by simp only [World.drewN_drewN]; rfl⟩
        by_cases e16 : k = 16
        · subst e16
          have hq := sep_bad (s := s) (i := 16) (by omega) HA.out rfl 58 rfl
          have hL : (((({ data := #[50, 48, 48, 54, 45, 48, 49, 45, 48, 50, 32, 49, 53, 58, 48, 52, 58, 48, 53] } : ByteArray)[16]).toNat : Nat) : Int) = 58 := rfl
          have hy := byte_bd s 16 (by omega)
          obtain ⟨hy1, hy2⟩ := hy
          go_wp2
          go_quiet (fail)
          go_wp2
          go_ret2
          exact ⟨rfl, _, by simp only [World.drewN_drewN]; rfl⟩
        have HN : Hid (isSep k = false) := notSep e4 e7 e10 e13 e16
        have hq := dig_bad (s := s) (i := k) (by omega) HA.out HN.out
        obtain ⟨hl1, hl2⟩ := lay_dig k hlt HN.out
        obtain ⟨hy1, hy2⟩ := byte_bd s k (by omega)
        clear e4 e7 e10 e13 e16
        rcases hq with hq | hq
        · go_wp2
          go_ret2
          exact ⟨rfl, m, rfl⟩
        · have hq' : ¬ ((s[k].toNat : Nat) : Int) - 48 < 0 := by omega
          have hq'' : 9 < ((s[k].toNat : Nat) : Int) - 48 := by omega
          go_wp2
          go_ret2
          exact ⟨rfl, m, rfl⟩
      · have hk19 : k = 19 := by omega
        subst hk19
        have hbt : b = true := by rw [HB.out]; simp
        subst hbt
        have hd0 : d = dg s 19 := by rw [HV.out]; rfl
        subst hd0
        clear HB HD HV
        go_wp2
        go_ret2
        exact ⟨rfl, m, rfl⟩
end Go.Proofs.Qxb6602675a
