import Derived.Test.Qxb6604601aFn5
namespace Go.Proofs.Qxb6604601a
open Go.RowKit

theorem hidd {p : Prop} (h : p) : Hid p := h
/-! ### the plain laws -/
theorem orb_comm (x a b : Int) (h0 : 0 ≤ x) (h1 : x ≤ 18446744073709551615) (ha : 0 ≤ a) (hb : 0 ≤ b) : orb (orb x a) b = orb (orb x b) a := by
  obtain ⟨x, rfl⟩ := Int.eq_ofNat_of_zero_le h0
  obtain ⟨a, rfl⟩ := Int.eq_ofNat_of_zero_le ha
  obtain ⟨b, rfl⟩ := Int.eq_ofNat_of_zero_le hb
  obtain ⟨e1, g1⟩ := orb_nat x a (by omega)
  obtain ⟨e2, g2⟩ := orb_nat x b (by omega)
  rw [e1, e2, (orb_nat _ b g1).1, (orb_nat _ a g2).1, Nat.or_assoc, Nat.or_assoc, Nat.or_comm (2 ^ (a % 64))]
theorem orb_idem (x a : Int) (h0 : 0 ≤ x) (h1 : x ≤ 18446744073709551615) (ha : 0 ≤ a) : orb (orb x a) a = orb x a := by
  obtain ⟨x, rfl⟩ := Int.eq_ofNat_of_zero_le h0
  obtain ⟨a, rfl⟩ := Int.eq_ofNat_of_zero_le ha
  obtain ⟨e1, g1⟩ := orb_nat x a (by omega)
  rw [e1, (orb_nat _ a g1).1, Nat.or_assoc, Nat.or_self]
theorem ad_comm (x a b j : Int) (h0 : 0 ≤ x) (h1 : x ≤ 18446744073709551615) (ha : 0 ≤ a) (hb : 0 ≤ b) : ad (ad x b j) a j = ad (ad x a j) b j := by
  unfold ad
  by_cases e : a / 64 = j <;> by_cases e' : b / 64 = j <;> simp [e, e']
  exact orb_comm x b a h0 h1 hb ha
theorem ad_idem (x a j : Int) (h0 : 0 ≤ x) (h1 : x ≤ 18446744073709551615) (ha : 0 ≤ a) : ad (ad x a j) a j = ad x a j := by
  unfold ad
  by_cases e : a / 64 = j <;> simp [e]
  exact orb_idem x a h0 h1 ha
theorem ad_third (x a b j : Int) (h0 : 0 ≤ x) (h1 : x ≤ 18446744073709551615) (ha : 0 ≤ a) (hb : 0 ≤ b) : ad (ad (ad x a j) b j) a j = ad (ad x a j) b j := by
  obtain ⟨g0, g1⟩ := ad_bd x a j h0 h1 ha
  rw [ad_comm _ a b j g0 g1 ha hb, ad_idem x a j h0 h1 ha]

theorem cnt_congr (f g : Nat → Bool) (n : Nat) (h : ∀ i, i < n → f i = g i) : cnt f n = cnt g n := by
  unfold cnt
  rw [List.filter_congr]
  intro i hi
  exact h i (by simpa using hi)
theorem cnt_or (f : Nat → Bool) (a : Nat) : ∀ n, cnt (fun i => f i || decide (i = a)) n = cnt f n + if a < n ∧ f a = false then 1 else 0
  | 0 => by simp [cnt]
  | n + 1 => by
    rw [cnt_succ, cnt_succ, cnt_or f a n]
    by_cases e : n = a
    · subst e
      cases hf : f n <;> simp
    · have e1 : (a < n + 1 ∧ f a = false) ↔ (a < n ∧ f a = false) := by
        constructor <;> (rintro ⟨h, h'⟩; exact ⟨by omega, h'⟩)
      simp only [e1]
      by_cases hn : f n = true <;> simp [hn, e] <;> omega

theorem cnt_two (x0 x1 x2 x3 a b : Int) (hx : Wd x0 x1 x2 x3) (ha0 : 0 ≤ a) (ha1 : a < 256) (hb0 : 0 ≤ b) (hb1 : b < 256) :
    cnt (bitAt (ad (ad x0 a 0) b 0) (ad (ad x1 a 1) b 1) (ad (ad x2 a 2) b 2) (ad (ad x3 a 3) b 3)) 256 =
      cnt (bitAt x0 x1 x2 x3) 256 + (if bitAt x0 x1 x2 x3 a.toNat = false then 1 else 0) + if bitAt x0 x1 x2 x3 b.toNat = false ∧ b ≠ a then 1 else 0 := by
  have e : ∀ i, i < 256 → bitAt (ad (ad x0 a 0) b 0) (ad (ad x1 a 1) b 1) (ad (ad x2 a 2) b 2) (ad (ad x3 a 3) b 3) i = ((bitAt x0 x1 x2 x3 i || decide (i = a.toNat)) || decide (i = b.toNat)) := by
    intro i hi
    rw [bitAt_ad _ _ _ _ _ (hx.ad ha0) hb0 i hi, bitAt_ad _ _ _ _ _ hx ha0 i hi]
    have e1 : decide ((i : Int) = a) = decide (i = a.toNat) := by rw [decide_eq_decide]; omega
    have e2 : decide ((i : Int) = b) = decide (i = b.toNat) := by rw [decide_eq_decide]; omega
    rw [e1, e2]
  rw [cnt_congr _ _ _ e, cnt_or (fun i => bitAt x0 x1 x2 x3 i || decide (i = a.toNat)) b.toNat 256, cnt_or _ a.toNat 256]
  have ha : a.toNat < 256 := by omega
  have hb : b.toNat < 256 := by omega
  have hab : (b.toNat = a.toNat) ↔ b = a := by omega
  simp only [ha, hb, true_and, Bool.or_eq_false_iff, decide_eq_false_iff_not, hab, ne_eq]

theorem eqItems34 (w : World) (y0 y1 y2 y3 : Int) : (Op.eqItems 9999 22 1 #[.int .u64 y0, .int .u64 y1, .int .u64 y2, .int .u64 y3] #[.int .u64 y0, .int .u64 y1, .int .u64 y2, .int .u64 y3] (List.range 4)).run Try.prog w = .ok true w := by
  have he : ∀ y : Int, (Op.equalIn 9999 22 (.int .u64 y) (.int .u64 y)).run Try.prog w = .ok true w := by
    intro y
    rw [run_equalIn_int w 9998 22 .u64 .u64 _ _ Try.underlying22]; simp
  have r4 : List.range 4 = [0, 1, 2, 3] := rfl
  simp [r4, Op.eqItems, part, isAgg, run_underlying Try.underlying22, he]
theorem c22 : Try.prog.cellsOf 22 = 1 := by kernel_rfl
theorem eq34 (w : World) (y0 y1 y2 y3 : Int) : (Op.equalIn 10000 34 (.agg #[.int .u64 y0, .int .u64 y1, .int .u64 y2, .int .u64 y3]) (.agg #[.int .u64 y0, .int .u64 y1, .int .u64 y2, .int .u64 y3])).run Try.prog w = .ok true w := by
  cases hi : Try.prog.info? 22 with
  | none =>
    have : (Try.prog.info? 22).isSome = true := by kernel_rfl
    simp [hi] at this
  | some i =>
    rw [run_equalIn_array w 9999 _ _ Try.underlying34 hi, c22]
    exact eqItems34 w y0 y1 y2 y3
theorem run_store_new' (X : World) (f : Nat → Bool) (B : Array Value) (n : Nat) (hB : B.size = 256) (hn : n = X.heap.size) :
    Sem.run Try.prog (storeCells ⟨n, 0, none⟩ (barr f).toList) (X.alloc (.cells B 36)) = .ok () (X.alloc (.cells (barr f) 36)) := by
  have h := run_storeCells_from (P := Try.prog) n 36 (barr f).toList 0 B (X.alloc (.cells B 36))
    (by rw [heap_get, if_pos hn]) (by simp [barr_size, hB])
    (fun v hv => (Array.all_eq_true_iff_forall_mem.1 (barr_one f)) v (by simpa using hv))
  rw [h, setRow_last _ _ _ _ _ hn]
  simp

set_option maxRecDepth 100000 in
set_option maxHeartbeats 2000000 in
/-- the walk to the first test: the world there, and what is left -/
theorem walk6 (x0 x1 x2 x3 a b : Int) (hx : Wd x0 x1 x2 x3) (ha0 : 0 ≤ a) (ha1 : a < 256) (hb0 : 0 ≤ b) (hb1 : b < 256) (w : World) :
    Calls Try.prog 6 #[.agg (ws x0 x1 x2 x3), .int .u8 a, .int .u8 b] w fun e w' => e = .returned (.bool true) ∧ Grown w w' := by
  have hT := cnt_two x0 x1 x2 x3 a b hx ha0 ha1 hb0 hb1
  have HT : Hid _ := hidd hT
  clear hT
  have hcm : ∀ j : Nat, j < 4 → ad (ad (nx x0 x1 x2 x3 j) b j) a j = ad (ad (nx x0 x1 x2 x3 j) a j) b j := fun j _ => ad_comm _ _ _ _ (hx j).1 (hx j).2 ha0 hb0
  have htm : ∀ j : Nat, j < 4 → ad (ad (ad (nx x0 x1 x2 x3 j) a j) b j) a j = ad (ad (nx x0 x1 x2 x3 j) a j) b j := fun j _ => ad_third _ _ _ _ (hx j).1 (hx j).2 ha0 hb0
  have HC := hidd (show _ ∧ _ ∧ _ ∧ _ from ⟨hcm 0 (by omega), hcm 1 (by omega), hcm 2 (by omega), hcm 3 (by omega)⟩)
  have HU := hidd (show _ ∧ _ ∧ _ ∧ _ from ⟨htm 0 (by omega), htm 1 (by omega), htm 2 (by omega), htm 3 (by omega)⟩)
  clear hcm htm
  have hxab := (hx.ad ha0).ad hb0
  have hg := barr_get (bitAt x0 x1 x2 x3)
  have hz := z36
  generalize hB : Array.replicate 256 (Value.bool false) = B at hz
  have hBs : B.size = 256 := by rw [← hB]; simp
  clear hB
  have hst := fun X n hn => run_store_new' X (bitAt x0 x1 x2 x3) B n hBs hn
  unfold ws
  go_enter Try.func6, Try.ntmps6
  go_wp2_with fail
  refine (mem_any _ _ _ _ _ (fun k => (hx k).1) (fun k => (hx k).2)).mono ?_
  rintro e w' ⟨rfl, c1, c2, c3, rfl⟩
  go_wp2_with fail
  refine (setadd_any _ _ _ _ _ _ ha0 ha1).mono ?_
  rintro e w' ⟨rfl, c4, c5, c6, rfl⟩
  go_wp2_with fail
  refine (setadd_any _ _ _ _ _ _ hb0 hb1).mono ?_
  rintro e w' ⟨rfl, c7, c8, c9, rfl⟩
  unfold ws
  go_wp2_with fail
  refine (setadd_any _ _ _ _ _ _ hb0 hb1).mono ?_
  rintro e w' ⟨rfl, c10, c11, c12, rfl⟩
  go_wp2_with fail
  refine (setadd_any _ _ _ _ _ _ ha0 ha1).mono ?_
  rintro e w' ⟨rfl, c13, c14, c15, rfl⟩
  unfold ws
  go_wp2_with fail
  refine (setadd_any _ _ _ _ _ _ ha0 ha1).mono ?_
  rintro e w' ⟨rfl, c16, c17, c18, rfl⟩
  unfold ws
  go_wp2_with (refine wpList_load_row rfl 36 _ rfl (w.heap.size + 1 + 1 + 1 + 1) rfl 36 (barr (bitAt x0 x1 x2 x3)) (0, 0) _ ?hL Try.underlying36 rfl ?hI ?_)
  case hL => simp only [heap_drew, heap_get, World.size_alloc]; simp
  case hI => rw [barr_size]; exact i36
  refine (count_any _ _).mono ?_
  rintro e w' ⟨rfl, c19, rfl⟩
  have hq1 := fun w => eq34 w (ad (ad x0 a 0) b 0) (ad (ad x1 a 1) b 1) (ad (ad x2 a 2) b 2) (ad (ad x3 a 3) b 3)
  obtain ⟨f0, f1, f2, f3⟩ := HC.out
  obtain ⟨g0, g1, g2, g3⟩ := HU.out
  change ad (ad x0 b 0) a 0 = ad (ad x0 a 0) b 0 at f0
  change ad (ad x1 b 1) a 1 = ad (ad x1 a 1) b 1 at f1
  change ad (ad x2 b 2) a 2 = ad (ad x2 a 2) b 2 at f2
  change ad (ad x3 b 3) a 3 = ad (ad x3 a 3) b 3 at f3
  change ad (ad (ad x0 a 0) b 0) a 0 = ad (ad x0 a 0) b 0 at g0
  change ad (ad (ad x1 a 1) b 1) a 1 = ad (ad x1 a 1) b 1 at g1
  change ad (ad (ad x2 a 2) b 2) a 2 = ad (ad x2 a 2) b 2 at g2
  change ad (ad (ad x3 a 3) b 3) a 3 = ad (ad x3 a 3) b 3 at g3
  rw [f0, f1, f2, f3, g0, g1, g2, g3]
  clear f0 f1 f2 f3 g0 g1 g2 g3 HC HU
  have hle := cnt_le (bitAt x0 x1 x2 x3) 256
  have hgg : ∀ (i : Nat) (h : i < (barr (bitAt x0 x1 x2 x3)).size), (barr (bitAt x0 x1 x2 x3))[i] = .bool (bitAt x0 x1 x2 x3 i) := by
    intro i h
    have h2 := barr_get (bitAt x0 x1 x2 x3) i (by simpa [barr_size] using h)
    rw [Array.getElem?_eq_getElem h] at h2
    exact Option.some.inj h2
  by_cases fa : bitAt x0 x1 x2 x3 a.toNat = true
  · by_cases fb : bitAt x0 x1 x2 x3 b.toNat = true
    · skip
      go_wp2_with fail
      refine (mem_any _ _ _ _ _ (fun k => (hxab k).1) (fun k => (hxab k).2)).mono ?_
      rintro e w' ⟨rfl, c20, c21, c22, rfl⟩
      go_wp2_with fail
      refine (count_any _ _).mono ?_
      rintro e w' ⟨rfl, c23, rfl⟩
      have hE : cnt (bitAt (ad (ad x0 a 0) b 0) (ad (ad x1 a 1) b 1) (ad (ad x2 a 2) b 2) (ad (ad x3 a 3) b 3)) 256 = cnt (bitAt x0 x1 x2 x3) 256 := by rw [HT.out]; simp [fa, fb]
      rw [hE]
      go_wp2_with fail
      go_ret
      exact ⟨by simp, by repeat (first | with_reducible exact Grown.refl _ | with_reducible apply Grown.drew | with_reducible apply Grown.alloc)⟩
    · have fb : bitAt x0 x1 x2 x3 b.toNat = false := by simpa using fb
      have hab : (b != a) = true := by
        rw [bne_iff_ne]; intro e; rw [e] at fb; rw [fb] at fa; cases fa
      have hab' : ¬ b = a := by simpa using hab
      clear hab
      go_wp2_with fail
      refine (mem_any _ _ _ _ _ (fun k => (hxab k).1) (fun k => (hxab k).2)).mono ?_
      rintro e w' ⟨rfl, c20, c21, c22, rfl⟩
      go_wp2_with fail
      refine (count_any _ _).mono ?_
      rintro e w' ⟨rfl, c23, rfl⟩
      have hE : cnt (bitAt (ad (ad x0 a 0) b 0) (ad (ad x1 a 1) b 1) (ad (ad x2 a 2) b 2) (ad (ad x3 a 3) b 3)) 256 = cnt (bitAt x0 x1 x2 x3) 256 + 1 := by rw [HT.out]; simp [fa, fb, hab']
      rw [hE]
      go_wp2_with fail
      go_ret
      exact ⟨by simp, by repeat (first | with_reducible exact Grown.refl _ | with_reducible apply Grown.drew | with_reducible apply Grown.alloc)⟩
  · have fa : bitAt x0 x1 x2 x3 a.toNat = false := by simpa using fa
    by_cases fb : bitAt x0 x1 x2 x3 b.toNat = true
    · skip
      go_wp2_with fail
      refine (mem_any _ _ _ _ _ (fun k => (hxab k).1) (fun k => (hxab k).2)).mono ?_
      rintro e w' ⟨rfl, c20, c21, c22, rfl⟩
      go_wp2_with fail
      refine (count_any _ _).mono ?_
      rintro e w' ⟨rfl, c23, rfl⟩
      have hE : cnt (bitAt (ad (ad x0 a 0) b 0) (ad (ad x1 a 1) b 1) (ad (ad x2 a 2) b 2) (ad (ad x3 a 3) b 3)) 256 = cnt (bitAt x0 x1 x2 x3) 256 + 1 := by rw [HT.out]; simp [fa, fb]
      rw [hE]
      go_wp2_with fail
      go_ret
      exact ⟨by simp, by repeat (first | with_reducible exact Grown.refl _ | with_reducible apply Grown.drew | with_reducible apply Grown.alloc)⟩
    · have fb : bitAt x0 x1 x2 x3 b.toNat = false := by simpa using fb
      by_cases hab : b = a
      · subst hab
        go_wp2_with fail
        refine (mem_any _ _ _ _ _ (fun k => (hxab k).1) (fun k => (hxab k).2)).mono ?_
        rintro e w' ⟨rfl, c20, c21, c22, rfl⟩
        go_wp2_with fail
        refine (count_any _ _).mono ?_
        rintro e w' ⟨rfl, c23, rfl⟩
        have hE : cnt (bitAt (ad (ad x0 b 0) b 0) (ad (ad x1 b 1) b 1) (ad (ad x2 b 2) b 2) (ad (ad x3 b 3) b 3)) 256 = cnt (bitAt x0 x1 x2 x3) 256 + 1 := by rw [HT.out]; simp [fb]
        rw [hE]
        go_wp2_with fail
        go_ret
        exact ⟨by simp, by repeat (first | with_reducible exact Grown.refl _ | with_reducible apply Grown.drew | with_reducible apply Grown.alloc)⟩
      · skip
        go_wp2_with fail
        refine (mem_any _ _ _ _ _ (fun k => (hxab k).1) (fun k => (hxab k).2)).mono ?_
        rintro e w' ⟨rfl, c20, c21, c22, rfl⟩
        go_wp2_with fail
        refine (count_any _ _).mono ?_
        rintro e w' ⟨rfl, c23, rfl⟩
        have hE : cnt (bitAt (ad (ad x0 a 0) b 0) (ad (ad x1 a 1) b 1) (ad (ad x2 a 2) b 2) (ad (ad x3 a 3) b 3)) 256 = cnt (bitAt x0 x1 x2 x3) 256 + 1 + 1 := by rw [HT.out]; simp [fa, fb, hab]
        rw [hE]
        go_wp2_with fail
        go_ret
        exact ⟨by simp, by repeat (first | with_reducible exact Grown.refl _ | with_reducible apply Grown.drew | with_reducible apply Grown.alloc)⟩
end Go.Proofs.Qxb6604601a
