import Derived.Test.Qxb6602686aNet
namespace Go.Proofs.Qxb6602686a

/-! ### sums -/
def sm (f : Nat → Int) : Nat → Int
  | 0 => 0
  | n + 1 => sm f n + f n
theorem sm_congr {f g : Nat → Int} : ∀ {n : Nat}, (∀ i, i < n → f i = g i) → sm f n = sm g n
  | 0, _ => rfl
  | n + 1, h => by
    unfold sm
    rw [sm_congr (fun i hi => h i (by omega)), h n (by omega)]
theorem sm_mono {f g : Nat → Int} : ∀ {n : Nat}, (∀ i, i < n → f i ≤ g i) → sm f n ≤ sm g n
  | 0, _ => by simp [sm]
  | n + 1, h => by
    have h1 := sm_mono (fun i hi => h i (by omega)) (n := n)
    have h2 := h n (by omega)
    unfold sm
    omega
theorem sm_strict {f g : Nat → Int} : ∀ {n : Nat}, (∀ i, i < n → f i ≤ g i) → (∃ i, i < n ∧ f i < g i) → sm f n < sm g n
  | 0, _, ⟨i, hi, _⟩ => by omega
  | n + 1, h, ⟨i, hi, hlt⟩ => by
    unfold sm
    by_cases e : i = n
    · subst e
      have h1 := sm_mono (fun k hk => h k (by omega)) (n := i)
      omega
    · have h1 := sm_strict (fun k hk => h k (by omega)) ⟨i, by omega, hlt⟩ (n := n)
      have h2 := h n (by omega)
      omega
theorem sm_zero : ∀ (n : Nat), sm (fun _ => 0) n = 0
  | 0 => rfl
  | n + 1 => by unfold sm; rw [sm_zero n]; rfl
theorem sm_nonneg {f : Nat → Int} {n : Nat} (h : ∀ i, i < n → 0 ≤ f i) : 0 ≤ sm f n := by
  have := sm_mono (f := fun _ => 0) (g := f) h
  rw [sm_zero] at this
  exact this
theorem sm_add (f g : Nat → Int) : ∀ (n : Nat), sm (fun i => f i + g i) n = sm f n + sm g n
  | 0 => rfl
  | n + 1 => by unfold sm; rw [sm_add f g n]; omega
theorem sm_at (d : Int) (i : Nat) : ∀ (n : Nat), sm (fun j => if j = i then d else 0) n = if i < n then d else 0
  | 0 => by simp [sm]
  | n + 1 => by
    unfold sm
    rw [sm_at d i n]
    by_cases e : n = i
    · subst e; simp
    · by_cases h : i < n
      · simp [h, e, show i < n + 1 by omega]
      · simp [h, e, show ¬ i < n + 1 by omega]
theorem sm_upd (f : Nat → Int) (i : Nat) (d : Int) {n : Nat} (hi : i < n) : sm (fun j => if j = i then f j + d else f j) n = sm f n + d := by
  have h1 : sm (fun j => if j = i then f j + d else f j) n = sm (fun j => f j + (if j = i then d else 0)) n := sm_congr (fun j _ => by split <;> omega)
  rw [h1, sm_add, sm_at, if_pos hi]
theorem sm_ge {f : Nat → Int} {n i : Nat} (h : ∀ i, i < n → 0 ≤ f i) (hi : i < n) : f i ≤ sm f n := by
  have h1 := sm_at (f i) i n
  rw [if_pos hi] at h1
  rw [← h1]
  exact sm_mono (fun j hj => by
    show (if j = i then f i else 0) ≤ f j
    by_cases e : j = i
    · rw [if_pos e, e]; exact Int.le_refl _
    · rw [if_neg e]; exact h j hj)
theorem sm_ge2 {f : Nat → Int} {n i j : Nat} (h : ∀ i, i < n → 0 ≤ f i) (hi : i < n) (hj : j < n) (hij : i ≠ j) : f i + f j ≤ sm f n := by
  have h1 := sm_at (f i) i n
  have h2 := sm_at (f j) j n
  rw [if_pos hi] at h1
  rw [if_pos hj] at h2
  rw [← h1, ← h2, ← sm_add]
  exact sm_mono (fun k hk => by
    show (if k = i then f i else 0) + (if k = j then f j else 0) ≤ f k
    have := h k hk
    by_cases e : k = i
    · subst e; simp [hij]
    · by_cases e2 : k = j
      · subst e2; simp [e]
      · simp [e, e2]; exact this)
theorem sm_mul_le {e : Nat → Int} {h : Nat → Nat} {V : Nat} : ∀ {n : Nat}, (∀ i, i < n → 0 ≤ e i) → (∀ i, i < n → h i ≤ V) → sm (fun i => e i * (h i : Int)) n ≤ sm e n * (V : Int)
  | 0, _, _ => by simp [sm]
  | n + 1, h1, h2 => by
    have a := sm_mul_le (fun i hi => h1 i (by omega)) (fun i hi => h2 i (by omega)) (n := n)
    have b : e n * (h n : Int) ≤ e n * (V : Int) := Int.mul_le_mul_of_nonneg_left (by have := h2 n (by omega); omega) (h1 n (by omega))
    unfold sm
    rw [Int.add_mul]
    omega

/-! ### what leaves a node -/
def Net.bal (N : Net) (r : Nat → Int) (v : Nat) : Int := sm (fun j => r (N.arc v j)) (N.L v)
def upd (r : Nat → Int) (a : Nat) (d : Int) : Nat → Int := fun b => if b = a then r b + d else r b
theorem bal_upd {N : Net} (ok : NetOk N) (r : Nat → Int) {a : Nat} (ha : a < N.m) (d : Int) {v : Nat} (hv : v < N.V) : N.bal (upd r a d) v = N.bal r v + if v = N.tl a then d else 0 := by
  unfold Net.bal
  by_cases e : v = N.tl a
  · subst e
    obtain ⟨j, hj, e⟩ := ok.all a ha
    rw [if_pos rfl, ← sm_upd _ j d hj]
    refine sm_congr (fun i hi => ?_)
    unfold upd
    by_cases e2 : i = j
    · subst e2; rw [if_pos e, if_pos rfl]
    · rw [if_neg e2, if_neg (fun h => e2 (ok.inj _ i j hv hi hj (by rw [h, e])))]
  · rw [if_neg e, Int.add_zero]
    refine sm_congr (fun i hi => ?_)
    unfold upd
    rw [if_neg (fun h => e (by rw [← h]; exact (ok.arc v i hv hi).2.symm))]
end Go.Proofs.Qxb6602686a
