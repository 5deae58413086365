import Derived.Test.Qxb6602675aWalkA
namespace Go.Proofs.Qxb6602675a
open Go.RowKit
/-- the bytes from place k on, zeros ahead of it -/
def rarr (s : ByteArray) (k : Nat) : Array Value := ((List.range 19).map fun i => Value.int .u8 (if k ≤ i then bt s i else 0)).toArray
theorem rarr_size (s : ByteArray) (k : Nat) : (rarr s k).size = 19 := by simp [rarr]
theorem rarr_get (s : ByteArray) (k i : Nat) (hi : i < 19) : (rarr s k)[i]? = some (.int .u8 (if k ≤ i then bt s i else 0)) := by simp [rarr, hi]
theorem rarr_set (s : ByteArray) (k : Nat) : (rarr s (k + 1)).setIfInBounds k (.int .u8 (bt s k)) = rarr s k := by
  apply Array.ext_getElem?
  intro i
  by_cases hi : i < 19
  · rw [Array.getElem?_setIfInBounds, rarr_get _ _ _ hi, rarr_get _ _ _ hi, rarr_size]
    by_cases e : k = i
    · subst e; simp [hi]
    · simp only [e, if_false]
      by_cases g : k ≤ i
      · rw [if_pos g, if_pos (by omega)]
      · rw [if_neg g, if_neg (by omega)]
  · simp [rarr_size, hi]
theorem z40 (w : World) : Sem.run Try.prog (zeroValue 40) w = .ok (.agg (Array.replicate 19 (.int .u8 0))) w := by kernel_rfl
theorem rarr_zero (s : ByteArray) : rarr s 19 = Array.replicate 19 (.int .u8 0) := by
  apply Array.ext_getElem?
  intro i
  by_cases hi : i < 19
  · rw [rarr_get _ _ _ hi, if_neg (by omega)]; simp [hi]
  · simp [rarr_size, hi]

theorem push_data : ∀ (ns : List Int) (r : ByteArray), (ns.foldl (fun r n => r.push (UInt8.ofNat n.toNat)) r).data.toList = r.data.toList ++ ns.map fun n => UInt8.ofNat n.toNat
  | [], r => by simp
  | n :: ns, r => by
    rw [List.foldl_cons, push_data ns]
    simp [ByteArray.push]
theorem bytes_back (s : ByteArray) (hs : s.size = 19) : ((List.range 19).map (bt s)).foldl (fun r n => r.push (UInt8.ofNat n.toNat)) ByteArray.empty = s := by
  apply ByteArray.ext
  apply Array.ext'
  rw [push_data, show ByteArray.empty.data.toList = [] from rfl, List.nil_append]
  apply List.ext_getElem?
  intro i
  have hl : s.data.toList.length = 19 := by simpa using hs
  by_cases hi : i < 19
  · have h1 : s.data.toList[i]? = some (s.data.toList.getD i 0) := by
      rw [List.getD, List.getElem?_eq_getElem (by omega)]; rfl
    rw [h1]
    simp [hi, bt]
  · have h1 : s.data.toList[i]? = none := List.getElem?_eq_none (by omega)
    rw [h1]
    simp; omega
theorem conv_back (s : ByteArray) (hs : s.size = 19) (w : World) : Sem.run Try.prog (convert 31 9 (.slice (some ⟨w.heap.size, 0, none⟩) 19 19)) (w.alloc (.cells (rarr s 0) 40)) = .ok (.string s) (w.alloc (.cells (rarr s 0) 40)) := by
  rw [run_convert_bytes_string _ 31 9 5 _ _ _ Try.underlying31 Try.underlying5 Try.underlying9]
  rw [run_bytesToString _ _ _ _ ((List.range 19).map (bt s)), bytes_back s hs]
  have h := run_loadCells_list (P := Try.prog) (w.alloc (.cells (rarr s 0) 40)) ⟨w.heap.size, 0, none⟩ (((List.range 19).map (bt s)).map (Value.int .u8)) (by
    intro j v hv
    rw [show (⟨w.heap.size, 0, none⟩ : Addr).add j = ⟨w.heap.size, j, none⟩ from by unfold Addr.add; split <;> simp_all]
    rw [World.cell?_alloc_new]
    have hj : j < 19 := by
      have := (List.getElem?_eq_some_iff.1 hv).1
      simpa using this
    rw [rarr_get _ _ _ hj, ← hv]
    simp [hj])
  simpa using h

set_option maxHeartbeats 2000000 in
theorem render_any (s : ByteArray) (w : World) (hs : s.size = 19) (hok : okTo s 19) :
    Calls Try.prog 10 #[.int .i64 (dg s 19)] w fun e w' => e = .returned (.string s) ∧ Grown w w' := by
  have hz : ∀ w, Sem.run Try.prog (zeroValue 40) w = .ok (.agg (rarr s 19)) w := by intro w; rw [z40, rarr_zero]
  have HO : Hid (okTo s 19) := hok
  have hcv := conv_back s hs w
  clear hok hs
  go_enter Try.func10, Try.ntmps10
  go_wp2
  go_loopw [0, 4] (fun d i wr => ∃ k : Nat, k ≤ 19 ∧ i = .int .i64 ((k : Int) - 1) ∧ d = .int .i64 (dg s k) ∧ wr = w.alloc (.cells (rarr s k) 40)) (fun _ i _ => (intOf i + 1).toNat)
  case atStart => exact ⟨19, by omega, rfl, rfl, rfl⟩
  case round =>
    obtain ⟨k, hk, rfl, rfl, rfl⟩ := hrel
    by_cases hpos : 1 ≤ k
    · clear hcv
      by_cases e4 : k = 5
      · subst e4
        have hv : bt s 4 = 45 := ok_sep (HO.out 4 (by omega)) rfl
        have hset := rarr_set s 4
        rw [hv] at hset
        have hget := rarr_get s 5 4 (by omega)
        clear hv
        go_wp2
        go_roundw
        case rel => exact ⟨4, by omega, by go_num, rfl, rfl⟩
        case measure => simp [intOf]
      by_cases e7 : k = 8
      · subst e7
        have hv : bt s 7 = 45 := ok_sep (HO.out 7 (by omega)) rfl
        have hset := rarr_set s 7
        rw [hv] at hset
        have hget := rarr_get s 8 7 (by omega)
        clear hv
        go_wp2
        go_roundw
        case rel => exact ⟨7, by omega, by go_num, rfl, rfl⟩
        case measure => simp [intOf]
      by_cases e10 : k = 11
      · subst e10
        have hv : bt s 10 = 32 := ok_sep (HO.out 10 (by omega)) rfl
        have hset := rarr_set s 10
        rw [hv] at hset
        have hget := rarr_get s 11 10 (by omega)
        clear hv
        go_wp2
        go_roundw
        case rel => exact ⟨10, by omega, by go_num, rfl, rfl⟩
        case measure => simp [intOf]
      by_cases e13 : k = 14
      · subst e13
        have hv : bt s 13 = 58 := ok_sep (HO.out 13 (by omega)) rfl
        have hset := rarr_set s 13
        rw [hv] at hset
        have hget := rarr_get s 14 13 (by omega)
        clear hv
        go_wp2
        go_roundw
        case rel => exact ⟨13, by omega, by go_num, rfl, rfl⟩
        case measure => simp [intOf]
      by_cases e16 : k = 17
      · subst e16
        have hv : bt s 16 = 58 := ok_sep (HO.out 16 (by omega)) rfl
        have hset := rarr_set s 16
        rw [hv] at hset
        have hget := rarr_get s 17 16 (by omega)
        clear hv
        go_wp2
        go_roundw
        case rel => exact ⟨16, by omega, by go_num, rfl, rfl⟩
        case measure => simp [intOf]
      obtain ⟨j, rfl⟩ : ∃ j, k = j + 1 := ⟨k - 1, by omega⟩
      have HN : Hid (isSep j = false) := notSep (by omega) (by omega) (by omega) (by omega) (by omega)
      obtain ⟨hd1, hd2⟩ := ok_digit (HO.out j (by omega)) HN.out
      obtain ⟨hs1, hs2⟩ := dg_small (s := s) j (okTo_mono HO.out (by omega)) (by omega)
      have HE : Hid (dg s (j + 1) = dg s j * 10 + (bt s j - 48)) := by
        show dg s (j + 1) = _
        simp only [dg, HN.out, Bool.false_eq_true, if_false]
      have hb0 : 0 ≤ dg s (j + 1) := by rw [HE.out]; omega
      have hb1 : dg s (j + 1) ≤ 200000000000000 := by rw [HE.out]; omega
      have hr : 48 + dg s (j + 1) % 10 = bt s j := by rw [HE.out]; omega
      have HQ : Hid (dg s (j + 1) / 10 = dg s j) := by show _ = _; rw [HE.out]; omega
      have hset := rarr_set s j
      have hget := rarr_get s (j + 1) j (by omega)
      have hcast : ((j + 1 : Nat) : Int) - 1 = (j : Int) := by omega
      rw [hcast]
      have b4 := neB (k := j) (n := 4) (by omega) 4 rfl
      have b7 := neB (k := j) (n := 7) (by omega) 7 rfl
      have b10 := neB (k := j) (n := 10) (by omega) 10 rfl
      have b13 := neB (k := j) (n := 13) (by omega) 13 rfl
      have b16 := neB (k := j) (n := 16) (by omega) 16 rfl
      have hj : j < 19 := by omega
      have hbb := bt_bd s j
      obtain ⟨hbb1, hbb2⟩ := hbb
      clear e4 e7 e10 e13 e16 hk hpos hcast
      go_wp2
      exact ⟨⟨j, by omega, rfl, by rw [HQ.out], rfl⟩, by simp [intOf]⟩
    · have hk0 : k = 0 := by omega
      subst hk0
      go_wp2
      go_ret
      exact ⟨rfl, (Grown.refl _).alloc _ _⟩

theorem len_bool (n : Nat) (h : n ≤ 1048576) : ¬ (1048576 : Int) < (n : Int) := by omega

set_option maxHeartbeats 1000000 in
theorem bytes_long (s : ByteArray) (w : World) (h : ¬ s.size ≤ 1048576) :
    Calls Try.prog 7 #[.string s] w fun e w' => e = .returned (.bool false) ∧ w' = w := by
  have h1 : (1048576 : Int) < (s.size : Int) := by omega
  go_enter Try.func7, Try.ntmps7
  go_wp2
  go_ret
  exact ⟨rfl, rfl⟩
set_option maxHeartbeats 1000000 in
theorem bytes_fit (s : ByteArray) (w : World) (h : s.size ≤ 1048576) :
    Calls Try.prog 7 #[.string s] w fun e w' => e = .returned (.bool true) ∧ w' = w := by
  have h1 : ¬ (1048576 : Int) < (s.size : Int) := by omega
  go_enter Try.func7, Try.ntmps7
  go_wp2
  go_ret
  exact ⟨rfl, rfl⟩

/-- the first place that does not fit, or 19 -/
theorem first_bad (s : ByteArray) : ∀ m, m ≤ 19 → ∃ n, n ≤ m ∧ okTo s n ∧ (n < m → okAt s n = false)
  | 0, _ => ⟨0, by omega, okTo_zero s, fun h => by omega⟩
  | m + 1, hm => by
    obtain ⟨n, hn, hok, hb⟩ := first_bad s m (by omega)
    by_cases e : n < m
    · exact ⟨n, by omega, hok, fun _ => hb e⟩
    · have e' : n = m := by omega
      subst e'
      cases h : okAt s n
      · exact ⟨n, by omega, hok, fun _ => h⟩
      · exact ⟨n + 1, by omega, okTo_succ hok h, fun h' => by omega⟩
end Go.Proofs.Qxb6602675a
