import Derived.Test.Qxb6604601aRows
import Derived.WalkKit
import Derived.WalkSpells
import Derived.WalkLawsBesides
import Derived.RowKit3
import Derived.BigRegion
namespace Go.Proofs.Qxb6604601a
open Go.RowKit

/-! ### the plain functions -/
def orb (x v : Int) : Int := bits .or .u64 x (IntKind.u64.wrap (2 ^ (v % 64).toNat))
def ws (x0 x1 x2 x3 : Int) : Array Value := #[.int .u64 x0, .int .u64 x1, .int .u64 x2, .int .u64 x3]
def nx (x0 x1 x2 x3 : Int) (k : Nat) : Int := if k = 0 then x0 else if k = 1 then x1 else if k = 2 then x2 else x3
def bitAt (x0 x1 x2 x3 : Int) (i : Nat) : Bool := nx x0 x1 x2 x3 (i / 64) / 2 ^ (i % 64) % 2 == 1
def barr (f : Nat → Bool) : Array Value := ((List.range 256).map fun i => Value.bool (f i)).toArray
def marr (x0 x1 x2 x3 : Int) (n : Nat) : Array Value := barr fun i => decide (i < n) && bitAt x0 x1 x2 x3 i
def cnt (f : Nat → Bool) (n : Nat) : Nat := ((List.range n).filter f).length
/-- word j of the set with v added -/
def ad (x v : Int) (j : Int) : Int := if v / 64 = j then orb x v else x

theorem barr_size (f : Nat → Bool) : (barr f).size = 256 := by simp [barr]
theorem barr_get (f : Nat → Bool) (i : Nat) (hi : i < 256) : (barr f)[i]? = some (.bool (f i)) := by simp [barr, hi]
theorem barr_ext (f g : Nat → Bool) (h : ∀ i, i < 256 → f i = g i) : barr f = barr g := by
  unfold barr
  congr 1
  apply List.map_congr_left
  intro i hi
  rw [h i (by simpa using hi)]
theorem barr_one (f : Nat → Bool) : (barr f).all (·.oneCell') = true := by
  rw [Array.all_eq_true_iff_forall_mem]
  intro v hv
  simp [barr] at hv
  obtain ⟨i, _, rfl⟩ := hv
  rfl
theorem barr_set (f : Nat → Bool) (k : Nat) (b : Bool) : (barr f).setIfInBounds k (.bool b) = barr fun i => if i = k then b else f i := by
  apply Array.ext_getElem?
  intro i
  by_cases hi : i < 256
  · rw [Array.getElem?_setIfInBounds, barr_get _ _ hi, barr_get _ _ hi, barr_size]
    by_cases e : k = i
    · subst e; simp [hi]
    · have e' : ¬ i = k := fun h => e h.symm
      simp [e, e']
  · simp [barr_size, hi]

theorem marr_size (x0 x1 x2 x3 : Int) (n : Nat) : (marr x0 x1 x2 x3 n).size = 256 := barr_size _
theorem marr_get (x0 x1 x2 x3 : Int) (n i : Nat) (hi : i < 256) : (marr x0 x1 x2 x3 n)[i]? = some (.bool (decide (i < n) && bitAt x0 x1 x2 x3 i)) := barr_get _ _ hi
theorem marr_zero (x0 x1 x2 x3 : Int) : marr x0 x1 x2 x3 0 = Array.replicate 256 (.bool false) := by
  apply Array.ext_getElem?
  intro i
  by_cases hi : i < 256
  · rw [marr_get _ _ _ _ _ _ hi]; simp [hi]
  · simp [marr_size, hi]
theorem marr_full (x0 x1 x2 x3 : Int) : marr x0 x1 x2 x3 256 = barr (bitAt x0 x1 x2 x3) :=
  barr_ext _ _ fun i hi => by simp [hi]
theorem z36 (w : World) : Sem.run Try.prog (zeroValue 36) w = .ok (.agg (Array.replicate 256 (.bool false))) w := by kernel_rfl
theorem i36 : (Try.prog.info? 36).map (·.size) = some 256 := by kernel_rfl
theorem ws_get (x0 x1 x2 x3 : Int) (k : Nat) (h : k < 4) : (ws x0 x1 x2 x3)[k]? = some (.int .u64 (nx x0 x1 x2 x3 k)) := by
  unfold ws nx
  rcases (by omega : k = 0 ∨ k = 1 ∨ k = 2 ∨ k = 3) with h | h | h | h <;> subst h <;> rfl

theorem marr_step (x0 x1 x2 x3 : Int) (n m : Nat) (hm : m < 64) (h0 : 0 ≤ nx x0 x1 x2 x3 n) (h1 : nx x0 x1 x2 x3 n ≤ 18446744073709551615) :
    (marr x0 x1 x2 x3 (64 * n + m)).setIfInBounds (64 * n + m) (.bool (bits .and .u64 (nx x0 x1 x2 x3 n / 2 ^ m) 1 == 1)) = marr x0 x1 x2 x3 (64 * n + (m + 1)) := by
  have hp : (0 : Int) < 2 ^ m := Int.pow_pos (by decide)
  have hb0 : 0 ≤ nx x0 x1 x2 x3 n / 2 ^ m := Int.ediv_nonneg h0 (by omega)
  have hb1 : nx x0 x1 x2 x3 n / 2 ^ m ≤ 18446744073709551615 := Int.le_trans (Int.ediv_le_self _ h0) h1
  rw [and_one_u64 _ hb0 hb1]
  unfold marr
  rw [barr_set]
  apply barr_ext
  intro i hi
  by_cases e : i = 64 * n + m
  · subst e
    have e1 : (64 * n + m) / 64 = n := by omega
    have e2 : (64 * n + m) % 64 = m := by omega
    simp [bitAt, e1, e2]
  · have : decide (i < 64 * n + m) = decide (i < 64 * n + (m + 1)) := by rw [decide_eq_decide]; omega
    simp [e, this]

/-! ### the walks -/
set_option maxHeartbeats 400000 in
theorem add_any (b : Nat) (x v : Int) (w : World) (hv0 : 0 ≤ v) (hv1 : v < 256)
    (hb : w.cell? ⟨b, (v / 64).toNat, none⟩ = some (.int .u64 x)) (hf : w.frozen? ⟨b, (v / 64).toNat, none⟩ = false) :
    Calls Try.prog 24 #[.pointer (some ⟨b, 0, none⟩), .int .u8 v] w fun e w' => e = .returned (.tuple #[]) ∧ w' = (w.setCell ⟨b, (v / 64).toNat, none⟩ (.int .u64 (orb x v))).drew := by
  go_enter Try.func24, Try.ntmps24
  go_wp2
  go_region
  go_end0
  exact ⟨rfl, rfl⟩

set_option maxHeartbeats 1000000 in
theorem setadd_any (x0 x1 x2 x3 v : Int) (w : World) (hv0 : 0 ≤ v) (hv1 : v < 256) :
    Calls Try.prog 15 #[.agg (ws x0 x1 x2 x3), .int .u8 v] w fun e w' =>
      e = .returned (.agg (ws (ad x0 v 0) (ad x1 v 1) (ad x2 v 2) (ad x3 v 3))) ∧ ∃ c1 c2 c3 : Array Value, w' = (((w.alloc (.cells c1 34)).alloc (.cells c2 34)).alloc (.cells c3 51)).drew := by
  unfold ws
  rcases (by omega : v / 64 = 0 ∨ v / 64 = 1 ∨ v / 64 = 2 ∨ v / 64 = 3) with h | h | h | h
  all_goals
    go_enter Try.func15, Try.ntmps15
    go_wp2_with fail
    refine (add_any _ (match v / 64 with | 0 => x0 | 1 => x1 | 2 => x2 | _ => x3) v _ hv0 hv1 ?_ ?_).mono ?_
    · simp [go_sem, h]
    · simp [go_sem, h]
    rintro e w' ⟨rfl, rfl⟩
    simp only [h, Int.toNat_zero, Int.toNat_one, Int.reduceToNat]
    go_wp2_with fail
    refine bodyPost_ret (v := .agg #[.int .u64 (ad x0 v 0), .int .u64 (ad x1 v 1), .int .u64 (ad x2 v 2), .int .u64 (ad x3 v 3)]) (by simp [results, Try.results15, go_sem, ad, h]) rfl ⟨rfl, _, _, _, rfl⟩
theorem heap_get (w : World) (o : Obj) (n : Nat) : (w.alloc o).heap[n]? = if n = w.heap.size then some o else w.heap[n]? := by
  show (w.heap.push o)[n]? = _
  rw [Array.getElem?_push]

theorem setRow_mid (w : World) (A C : Obj) (c d : Array Value) (t : TypeId) :
    (((w.alloc A).alloc (.cells c t)).alloc C).setRow (w.heap.size + 1) d = ((w.alloc A).alloc (.cells d t)).alloc C := by
  unfold World.setRow World.alloc
  congr 1
  apply Array.ext_getElem?
  intro k
  simp only [Array.getElem?_modify, Array.getElem?_push, Array.size_push]
  by_cases h1 : k = w.heap.size + 1
  · subst h1; simp
  · by_cases h2 : k = w.heap.size + 1 + 1
    · subst h2; simp
    · simp [h1, h2, Ne.symm h1]

set_option maxHeartbeats 1000000 in
theorem mem_any (x0 x1 x2 x3 : Int) (w : World) (h0 : ∀ k, 0 ≤ nx x0 x1 x2 x3 k) (h1 : ∀ k, nx x0 x1 x2 x3 k ≤ 18446744073709551615) :
    Calls Try.prog 16 #[.agg (ws x0 x1 x2 x3)] w fun e w' => e = .returned (.agg (barr (bitAt x0 x1 x2 x3))) ∧ ∃ c1 c2 c3 : Array Value, w' = ((w.alloc (.cells c1 34)).alloc (.cells c2 36)).alloc (.cells c3 36) := by
  have hz : ∀ w, Sem.run Try.prog (zeroValue 36) w = .ok (.agg (marr x0 x1 x2 x3 0)) w := by intro w; rw [z36, marr_zero]
  have hg := ws_get x0 x1 x2 x3
  rw [← marr_full]
  go_enter Try.func16, Try.ntmps16
  go_wp2_with fail
  go_loopw [4, 5] (fun i k wr => ∃ n : Nat, n ≤ 4 ∧ i = .int .i64 (64 * n : Nat) ∧ k = .int .i64 n ∧ wr = ((w.alloc (.cells (ws x0 x1 x2 x3) 34)).alloc (.cells (marr x0 x1 x2 x3 0) 36)).alloc (.cells (marr x0 x1 x2 x3 (64 * n)) 36)) (fun _ k _ => 4 - (intOf k).toNat)
  case atStart => exact ⟨0, by omega, rfl, rfl, rfl⟩
  case round =>
    obtain ⟨n, hn, rfl, rfl, rfl⟩ := hrel
    by_cases hlt : n < 4
    · go_wp2_with fail
      go_loopw [4, 6, 7] (fun i v b wr => ∃ m : Nat, m ≤ 64 ∧ i = .int .i64 (64 * n + m : Nat) ∧ v = .int .u64 (nx x0 x1 x2 x3 n / 2 ^ m) ∧ b = .int .i64 m ∧ wr = ((w.alloc (.cells (ws x0 x1 x2 x3) 34)).alloc (.cells (marr x0 x1 x2 x3 0) 36)).alloc (.cells (marr x0 x1 x2 x3 (64 * n + m)) 36)) (fun _ _ b _ => 64 - (intOf b).toNat)
      case atStart => exact ⟨0, by omega, rfl, by simp, rfl, rfl⟩
      case round =>
        obtain ⟨m, hm, rfl, rfl, rfl, rfl⟩ := hrel
        by_cases hlm : m < 64
        · have hmg := marr_get x0 x1 x2 x3 (64 * n + m) (64 * n + m) (by omega)
          have hfin := marr_step x0 x1 x2 x3 n m hlm (h0 n) (h1 n)
          go_wp2_with fail
          exact ⟨⟨m + 1, by omega, by go_num, by rw [Int.pow_succ, Int.ediv_ediv_of_nonneg (Int.pow_nonneg (by decide))], by go_num, rfl⟩, by simp [intOf]; omega⟩
        · have hm64 : m = 64 := by omega
          subst hm64
          go_wp2_with fail
          exact ⟨⟨n + 1, by omega, by go_num, by go_num, rfl⟩, by simp [intOf]; omega⟩
    · have hn4 : n = 4 := by omega
      subst hn4
      go_wp2_with (first
        | (refine wpList_load_row rfl 36 _ rfl (w.heap.size + 1 + 1) rfl 36 (marr x0 x1 x2 x3 256) (0, 0) _ ?h1 Try.underlying36 rfl ?h2 ?_)
        | (refine wpList_store_row rfl 36 _ _ rfl (w.heap.size + 1) (marr x0 x1 x2 x3 256) rfl rfl 36 (marr x0 x1 x2 x3 0) ?h3 ?h4 ?h5 ?h6 ?_))
      case h1 => simp only [heap_get, World.size_alloc]; simp
      case h2 => rw [marr_size]; exact i36
      case h3 => simp only [heap_get, World.size_alloc]; simp
      case h4 => rw [marr_size]; exact i36
      case h5 => rw [marr_size, marr_size]
      case h6 => exact barr_one _
      rw [setRow_mid]
      refine bodyPost_ret (results_cell_row Try.results16 _ _ (w.heap.size + 1) 36 (marr x0 x1 x2 x3 256) (0, 0) _ rfl ?_ Try.underlying36 rfl ?_) rfl ⟨rfl, _, _, _, rfl⟩
      · simp only [heap_get, World.size_alloc]; simp
      · rw [marr_size]; exact i36

theorem cnt_succ (f : Nat → Bool) (n : Nat) : cnt f (n + 1) = cnt f n + if f n = true then 1 else 0 := by
  unfold cnt
  rw [List.range_succ, List.filter_append, List.length_append]
  by_cases h : f n = true <;> simp [h]
theorem cnt_le (f : Nat → Bool) (n : Nat) : cnt f n ≤ n := by
  unfold cnt
  have := List.length_filter_le f (List.range n)
  simpa using this

set_option maxRecDepth 100000 in
set_option maxHeartbeats 1000000 in
theorem count_any (f : Nat → Bool) (w : World) :
    Calls Try.prog 17 #[.agg (barr f)] w fun e w' => e = .returned (.int .i64 (cnt f 256 : Nat)) ∧ ∃ c1 : Array Value, w' = w.alloc (.cells c1 36) := by
  have hb := barr_get f
  go_enter Try.func17, Try.ntmps17
  go_wp2_with fail
  go_loop [3, 4] (fun n i => ∃ k : Nat, k ≤ 256 ∧ i = .int .i64 k ∧ n = .int .i64 (cnt f k : Nat)) (fun _ i => 256 - (intOf i).toNat)
  case atStart => exact ⟨0, by omega, rfl, rfl⟩
  case round =>
    obtain ⟨k, hk, rfl, rfl⟩ := hrel
    have hc := cnt_le f k
    by_cases hlt : k < 256
    · have hs : Hid (cnt f (k + 1) = cnt f k + if f k = true then 1 else 0) := cnt_succ f k
      by_cases hf : f k = true
      · go_wp2_with fail
        go_round
        case rel => exact ⟨k + 1, by omega, by go_num, by rw [hs.out, if_pos hf]; go_num⟩
        case measure => simp [intOf]; omega
      · have hf' : f k = false := by simpa using hf
        go_wp2_with fail
        go_round
        case rel => exact ⟨k + 1, by omega, by go_num, by rw [hs.out, if_neg hf]; go_num⟩
        case measure => simp [intOf]; omega
    · have hk4 : k = 256 := by omega
      subst hk4
      go_wp2_with fail
      go_ret
      exact ⟨rfl, _, rfl⟩
/-! ### the plain laws -/
theorem orb_nat (a v : Nat) (ha : a < 18446744073709551616) : orb (a : Int) (v : Int) = ((a ||| 2 ^ (v % 64) : Nat) : Int) ∧ a ||| 2 ^ (v % 64) < 18446744073709551616 := by
  have h2 : 2 ^ (v % 64) < 18446744073709551616 := by
    have : 2 ^ (v % 64) < 2 ^ 64 := Nat.pow_lt_pow_right (by omega) (Nat.mod_lt _ (by omega))
    simpa using this
  have e : ((v : Int) % 64).toNat = v % 64 := by omega
  have e2 : (2 : Int) ^ (v % 64) = ((2 ^ (v % 64) : Nat) : Int) := by simp
  constructor
  · unfold orb
    rw [e, e2, IntKind.wrap_u64]
    generalize 2 ^ (v % 64) = q at *
    rw [show ((q : Int) % 18446744073709551616) = (q : Int) from by omega]
    exact u64_or_nat _ _ ha h2
  · have : a ||| 2 ^ (v % 64) < 2 ^ 64 := Nat.or_lt_two_pow (by simpa using ha) (by simpa using h2)
    simpa using this

theorem bit_nat (a j : Nat) : (((a : Int) / 2 ^ j % 2 == 1) : Bool) = a.testBit j := by
  rw [Nat.testBit_eq_decide_div_mod_eq]
  have : ((a : Int) / 2 ^ j % 2) = ((a / 2 ^ j % 2 : Nat) : Int) := by simp
  rw [this]
  rw [Bool.eq_iff_iff]
  simp
  omega

theorem bit_orb (x v : Int) (j : Nat) (h0 : 0 ≤ x) (h1 : x ≤ 18446744073709551615) (hv : 0 ≤ v) :
    ((orb x v / 2 ^ j % 2 == 1) : Bool) = ((x / 2 ^ j % 2 == 1) || decide ((j : Int) = v % 64)) := by
  obtain ⟨a, rfl⟩ := Int.eq_ofNat_of_zero_le h0
  obtain ⟨n, rfl⟩ := Int.eq_ofNat_of_zero_le hv
  rw [(orb_nat a n (by omega)).1, bit_nat, bit_nat, Nat.testBit_or, Nat.testBit_two_pow]
  congr 1
  rw [decide_eq_decide]
  omega

theorem orb_bd (x v : Int) (h0 : 0 ≤ x) (h1 : x ≤ 18446744073709551615) (hv : 0 ≤ v) : 0 ≤ orb x v ∧ orb x v ≤ 18446744073709551615 := by
  obtain ⟨a, rfl⟩ := Int.eq_ofNat_of_zero_le h0
  obtain ⟨n, rfl⟩ := Int.eq_ofNat_of_zero_le hv
  obtain ⟨h, h'⟩ := orb_nat a n (by omega)
  rw [h]
  omega

theorem ad_bd (x v j : Int) (h0 : 0 ≤ x) (h1 : x ≤ 18446744073709551615) (hv : 0 ≤ v) : 0 ≤ ad x v j ∧ ad x v j ≤ 18446744073709551615 := by
  unfold ad
  split
  · exact orb_bd x v h0 h1 hv
  · exact ⟨h0, h1⟩

/-- the four words are words -/
def Wd (x0 x1 x2 x3 : Int) : Prop := ∀ k, 0 ≤ nx x0 x1 x2 x3 k ∧ nx x0 x1 x2 x3 k ≤ 18446744073709551615
theorem nx_ad (x0 x1 x2 x3 v : Int) (k : Nat) (hk : k < 4) : nx (ad x0 v 0) (ad x1 v 1) (ad x2 v 2) (ad x3 v 3) k = ad (nx x0 x1 x2 x3 k) v k := by
  rcases (by omega : k = 0 ∨ k = 1 ∨ k = 2 ∨ k = 3) with h | h | h | h <;> subst h <;> rfl
theorem Wd.ad {x0 x1 x2 x3 v : Int} (h : Wd x0 x1 x2 x3) (hv : 0 ≤ v) : Wd (ad x0 v 0) (ad x1 v 1) (ad x2 v 2) (ad x3 v 3) := by
  intro k
  have key : ∀ j, j < 4 → 0 ≤ nx (Qxb6604601a.ad x0 v 0) (Qxb6604601a.ad x1 v 1) (Qxb6604601a.ad x2 v 2) (Qxb6604601a.ad x3 v 3) j ∧ nx (Qxb6604601a.ad x0 v 0) (Qxb6604601a.ad x1 v 1) (Qxb6604601a.ad x2 v 2) (Qxb6604601a.ad x3 v 3) j ≤ 18446744073709551615 := by
    intro j hj
    rw [nx_ad _ _ _ _ _ _ hj]
    exact ad_bd _ _ _ (h j).1 (h j).2 hv
  by_cases hk : k < 4
  · exact key k hk
  · have e : nx (Qxb6604601a.ad x0 v 0) (Qxb6604601a.ad x1 v 1) (Qxb6604601a.ad x2 v 2) (Qxb6604601a.ad x3 v 3) k = nx (Qxb6604601a.ad x0 v 0) (Qxb6604601a.ad x1 v 1) (Qxb6604601a.ad x2 v 2) (Qxb6604601a.ad x3 v 3) 3 := by
      unfold nx
      rw [if_neg (by omega), if_neg (by omega), if_neg (by omega)]
      rfl
    rw [e]
    exact key 3 (by omega)

/-- bit i of the set with v added -/
theorem bitAt_ad (x0 x1 x2 x3 v : Int) (h : Wd x0 x1 x2 x3) (hv0 : 0 ≤ v) (i : Nat) (hi : i < 256) :
    bitAt (ad x0 v 0) (ad x1 v 1) (ad x2 v 2) (ad x3 v 3) i = (bitAt x0 x1 x2 x3 i || decide ((i : Int) = v)) := by
  unfold bitAt
  rw [nx_ad _ _ _ _ _ _ (by omega)]
  obtain ⟨g0, g1⟩ := h (i / 64)
  generalize nx x0 x1 x2 x3 (i / 64) = x at *
  unfold ad
  by_cases e : v / 64 = ((i / 64 : Nat) : Int)
  · rw [if_pos e, bit_orb x v _ g0 g1 hv0]
    congr 1
    rw [decide_eq_decide]
    omega
  · rw [if_neg e]
    have : decide ((i : Int) = v) = false := by rw [decide_eq_false_iff_not]; omega
    rw [this, Bool.or_false]
end Go.Proofs.Qxb6604601a
