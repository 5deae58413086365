/-! plain mathematics of the time digits: no Go in sight -/
namespace Go.Proofs.Qxb6602675a

/-- byte i, as a number -/
def bt (s : ByteArray) (i : Nat) : Int := ((s.data.toList.getD i 0).toNat : Int)
theorem bt_eq (s : ByteArray) (i : Nat) (h : i < s.size) : ((s[i].toNat : Nat) : Int) = bt s i := by
  unfold bt
  have h' : i < s.data.toList.length := by simpa using h
  rw [List.getD, List.getElem?_eq_getElem h', Option.getD_some]
  rfl
theorem bt_bd (s : ByteArray) (i : Nat) : 0 ≤ bt s i ∧ bt s i < 256 := by
  unfold bt
  have := (s.data.toList.getD i 0).toNat_lt
  omega

def isSep (i : Nat) : Bool := i == 4 || i == 7 || i == 10 || i == 13 || i == 16
def sepOf (i : Nat) : Int := if i = 4 ∨ i = 7 then 45 else if i = 10 then 32 else 58
def okAt (s : ByteArray) (i : Nat) : Bool := if isSep i then bt s i == sepOf i else decide (48 ≤ bt s i ∧ bt s i ≤ 57)
def okTo (s : ByteArray) (k : Nat) : Prop := ∀ i, i < k → okAt s i = true
def dg (s : ByteArray) : Nat → Int
  | 0 => 0
  | k + 1 => if isSep k then dg s k else dg s k * 10 + (bt s k - 48)
def nd : Nat → Nat
  | 0 => 0
  | k + 1 => if isSep k then nd k else nd k + 1

theorem okTo_zero (s : ByteArray) : okTo s 0 := fun i hi => absurd hi (Nat.not_lt_zero i)
theorem okTo_succ {s : ByteArray} {k : Nat} (h : okTo s k) (h' : okAt s k = true) : okTo s (k + 1) := by
  intro i hi
  by_cases e : i = k
  · rw [e]; exact h'
  · exact h i (by omega)
theorem okTo_mono {s : ByteArray} {k j : Nat} (h : okTo s k) (hj : j ≤ k) : okTo s j := fun i hi => h i (by omega)

theorem ok_digit {s : ByteArray} {i : Nat} (h : okAt s i = true) (hs : isSep i = false) : 48 ≤ bt s i ∧ bt s i ≤ 57 := by
  unfold okAt at h
  rw [hs] at h
  simpa using h
theorem ok_sep {s : ByteArray} {i : Nat} (h : okAt s i = true) (hs : isSep i = true) : bt s i = sepOf i := by
  unfold okAt at h
  rw [hs] at h
  simpa using h

theorem dg_bd {s : ByteArray} : ∀ (k : Nat), okTo s k → 0 ≤ dg s k ∧ dg s k < 10 ^ nd k
  | 0, _ => by simp [dg, nd]
  | k + 1, h => by
    have ih := dg_bd k (okTo_mono h (by omega))
    have hk := h k (by omega)
    simp only [dg, nd]
    cases hs : isSep k
    · have := ok_digit hk hs
      simp only [Bool.false_eq_true, if_false, Int.pow_succ]
      omega
    · simpa using ih

theorem nd_le (k : Nat) (h : k ≤ 18) : nd k ≤ 13 := by
  rcases (by omega : k = 0 ∨ k = 1 ∨ k = 2 ∨ k = 3 ∨ k = 4 ∨ k = 5 ∨ k = 6 ∨ k = 7 ∨ k = 8 ∨ k = 9 ∨ k = 10 ∨ k = 11 ∨ k = 12 ∨ k = 13 ∨ k = 14 ∨ k = 15 ∨ k = 16 ∨ k = 17 ∨ k = 18) with h | h | h | h | h | h | h | h | h | h | h | h | h | h | h | h | h | h | h <;> subst h <;> decide
theorem dg_small {s : ByteArray} (k : Nat) (h : okTo s k) (hk : k ≤ 18) : 0 ≤ dg s k ∧ dg s k < 10000000000000 := by
  have h1 := dg_bd k h
  have h2 : (10 : Int) ^ nd k ≤ 10 ^ 13 := by
    have : 10 ^ nd k ≤ 10 ^ 13 := Nat.pow_le_pow_right (by omega) (nd_le k hk)
    have h3 : ((10 ^ nd k : Nat) : Int) ≤ ((10 ^ 13 : Nat) : Int) := Int.ofNat_le.2 this
    simpa using h3
  have h3 : (10 : Int) ^ 13 = 10000000000000 := by decide
  omega
theorem dg_19 {s : ByteArray} (h : okTo s 19) : 0 ≤ dg s 19 ∧ dg s 19 < 100000000000000 := by
  have h1 := dg_bd 19 h
  have e : nd 19 = 14 := by decide
  have h3 : (10 : Int) ^ 14 = 100000000000000 := by decide
  rw [e, h3] at h1
  exact h1

/-! ### two texts -/
theorem dg_congr {a b : ByteArray} : ∀ (k : Nat), (∀ j, j < k → bt a j = bt b j) → dg a k = dg b k
  | 0, _ => rfl
  | k + 1, h => by
    have ih := dg_congr k fun j hj => h j (by omega)
    simp only [dg, ih, h k (by omega)]
theorem dg_lt {a b : ByteArray} (i : Nat) : ∀ (n : Nat), okTo a (i + 1 + n) → okTo b (i + 1 + n) → (∀ j, j < i → bt a j = bt b j) → bt a i < bt b i → dg a (i + 1 + n) < dg b (i + 1 + n)
  | 0, ha, hb, he, hl => by
    have hs : isSep i = false := by
      cases hs : isSep i
      · rfl
      · have h1 := ok_sep (ha i (by omega)) hs
        have h2 := ok_sep (hb i (by omega)) hs
        omega
    have e := dg_congr i he
    simp only [dg, hs, Bool.false_eq_true, if_false, e]
    omega
  | n + 1, ha, hb, he, hl => by
    have ih := dg_lt i n (okTo_mono ha (by omega)) (okTo_mono hb (by omega)) he hl
    rw [← Nat.add_assoc]
    simp only [dg]
    cases hs : isSep (i + 1 + n)
    · have h1 := ok_digit (ha (i + 1 + n) (by omega)) hs
      have h2 := ok_digit (hb (i + 1 + n) (by omega)) hs
      simp only [Bool.false_eq_true, if_false]
      omega
    · simpa using ih
theorem dg_lt19 {a b : ByteArray} (i : Nat) (hi : i < 19) (ha : okTo a 19) (hb : okTo b 19) (he : ∀ j, j < i → bt a j = bt b j) (hl : bt a i < bt b i) : dg a 19 < dg b 19 := by
  have h := dg_lt (a := a) (b := b) i (19 - (i + 1)) (by rw [show i + 1 + (19 - (i + 1)) = 19 from by omega]; exact ha) (by rw [show i + 1 + (19 - (i + 1)) = 19 from by omega]; exact hb) he hl
  rw [show i + 1 + (19 - (i + 1)) = 19 from by omega] at h
  exact h
end Go.Proofs.Qxb6602675a
