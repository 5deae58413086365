import Derived.Test.Qxb6602686aPR2
namespace Go.Proofs.Qxb6602686a

theorem sm_pair (g : Nat → Int) : ∀ k, sm (fun a => g (tw a)) (2 * k) = sm g (2 * k)
  | 0 => rfl
  | k + 1 => by
    have e : 2 * (k + 1) = 2 * k + 1 + 1 := by omega
    have h1 : tw (2 * k) = 2 * k + 1 := by rw [tw_eq, if_pos (by omega)]
    have h2 : tw (2 * k + 1) = 2 * k := by rw [tw_eq, if_neg (by omega)]; omega
    have ih := sm_pair g k
    rw [e]
    show sm (fun a => g (tw a)) (2 * k) + g (tw (2 * k)) + g (tw (2 * k + 1)) = sm g (2 * k) + g (2 * k) + g (2 * k + 1)
    rw [h1, h2, ih]
    omega
theorem sm_tw (g : Nat → Int) {m : Nat} (hm : m % 2 = 0) : sm (fun a => g (tw a)) m = sm g m := by
  obtain ⟨k, rfl⟩ : ∃ k, m = 2 * k := ⟨m / 2, by omega⟩
  exact sm_pair g k
theorem sm_swap (g : Nat → Nat → Int) (m : Nat) : ∀ n, sm (fun v => sm (fun a => g v a) m) n = sm (fun a => sm (fun v => g v a) n) m
  | 0 => (sm_zero m).symm
  | n + 1 => by
    show sm (fun v => sm (fun a => g v a) m) n + sm (fun a => g n a) m = _
    rw [sm_swap g m n, ← sm_add]
    rfl
theorem sm_neg (f : Nat → Int) : ∀ n, sm (fun i => - f i) n = - sm f n
  | 0 => rfl
  | n + 1 => by show sm (fun i => - f i) n + - f n = -(sm f n + f n); rw [sm_neg f n]; omega

/-- what a node's arcs gained, told over all arcs -/
theorem bal_all {N : Net} (ok : NetOk N) (r0 r : Nat → Int) {v : Nat} (hv : v < N.V) : N.bal r v - N.bal r0 v = sm (fun a => if v = N.tl a then r a - r0 a else 0) N.m := by
  have key : ∀ k, k ≤ N.m → N.bal (fun a => if a < k then r a else r0 a) v = N.bal r0 v + sm (fun a => if v = N.tl a then r a - r0 a else 0) k := by
    intro k
    induction k with
    | zero =>
      intro _
      have : (fun a => if a < 0 then r a else r0 a) = r0 := by funext a; simp
      rw [this]
      simp [sm]
    | succ k ih =>
      intro hk
      have e : (fun a => if a < k + 1 then r a else r0 a) = upd (fun a => if a < k then r a else r0 a) k (r k - r0 k) := by
        funext a
        unfold upd
        by_cases h : a = k
        · subst h; simp; omega
        · by_cases h2 : a < k
          · simp [h, h2, show a < k + 1 by omega]
          · simp [h, h2, show ¬ a < k + 1 by omega]
      rw [e, bal_upd ok _ (show k < N.m by omega) _ hv, ih (by omega)]
      show N.bal r0 v + sm (fun a => if v = N.tl a then r a - r0 a else 0) k + (if v = N.tl k then r k - r0 k else 0) = N.bal r0 v + (sm (fun a => if v = N.tl a then r a - r0 a else 0) k + (if v = N.tl k then r k - r0 k else 0))
      omega
  have h1 := key N.m (Nat.le_refl _)
  have h2 : N.bal (fun a => if a < N.m then r a else r0 a) v = N.bal r v := by
    unfold Net.bal
    exact sm_congr (fun j hj => by simp [(ok.arc v j hv hj).1])
  rw [h2] at h1
  omega

/-- what crosses into S -/
def crossS (N : Net) (S : Nat → Bool) (r0 : Nat → Int) : Nat → Int := fun a => if (!S (N.tl a) && S (N.hd a)) = true then r0 a else 0

theorem cross_sum {N : Net} (ok : NetOk N) (r0 r : Nat → Int) (S : Nat → Bool) (rp : ∀ a, a < N.m → r a + r (tw a) = r0 a + r0 (tw a)) (hz : ∀ a, a < N.m → S (N.tl a) = false → S (N.hd a) = true → r a = 0) :
    sm (crossS N S r0) N.m = sm (fun v => if S v = true then N.bal r v - N.bal r0 v else 0) N.V := by
  have e1 : sm (fun v => if S v = true then N.bal r v - N.bal r0 v else 0) N.V = sm (fun v => sm (fun a => if S v = true then (if v = N.tl a then r a - r0 a else 0) else 0) N.m) N.V := by
    refine sm_congr (fun v hv => ?_)
    by_cases h : S v = true
    · simp only [h, if_true]; exact bal_all ok r0 r hv
    · simp only [h]; exact (sm_zero _).symm
  have e2 : sm (fun a => sm (fun v => if S v = true then (if v = N.tl a then r a - r0 a else 0) else 0) N.V) N.m = sm (fun a => if S (N.tl a) = true then r a - r0 a else 0) N.m := by
    refine sm_congr (fun a ha => ?_)
    have h1 : sm (fun v => if S v = true then (if v = N.tl a then r a - r0 a else 0) else 0) N.V = sm (fun v => if v = N.tl a then (if S (N.tl a) = true then r a - r0 a else 0) else 0) N.V := sm_congr (fun v hv => by
      by_cases e : v = N.tl a
      · subst e; simp
      · simp [e])
    rw [h1, sm_at, if_pos (ok.tl ha)]
  rw [e1, sm_swap, e2]
  have e3 : sm (fun a => if S (N.tl a) = true then r a - r0 a else 0) N.m = sm (fun a => (if S (N.tl a) = true ∧ S (N.hd a) = true then r a - r0 a else 0) + (if S (N.tl a) = true ∧ S (N.hd a) = false then r a - r0 a else 0)) N.m := sm_congr (fun a _ => by
    cases S (N.tl a) <;> cases S (N.hd a) <;> simp)
  rw [e3, sm_add]
  have e4 : sm (fun a => if S (N.tl a) = true ∧ S (N.hd a) = true then r a - r0 a else 0) N.m = 0 := by
    have h1 := sm_tw (fun a => if S (N.tl a) = true ∧ S (N.hd a) = true then r a - r0 a else 0) ok.even
    have h2 : sm (fun a => (fun a => if S (N.tl a) = true ∧ S (N.hd a) = true then r a - r0 a else 0) (tw a)) N.m = sm (fun a => - (if S (N.tl a) = true ∧ S (N.hd a) = true then r a - r0 a else 0)) N.m := sm_congr (fun a ha => by
      have := rp a ha
      show (if S (N.tl (tw a)) = true ∧ S (N.hd (tw a)) = true then r (tw a) - r0 (tw a) else 0) = - (if S (N.tl a) = true ∧ S (N.hd a) = true then r a - r0 a else 0)
      rw [N.tl_tw]
      show (if S (N.hd a) = true ∧ S (N.tl a) = true then r (tw a) - r0 (tw a) else 0) = _
      cases S (N.tl a) <;> cases S (N.hd a) <;> simp
      omega)
    rw [h2, sm_neg] at h1
    omega
  have e5 : sm (fun a => if S (N.tl a) = true ∧ S (N.hd a) = false then r a - r0 a else 0) N.m = sm (crossS N S r0) N.m := by
    rw [← sm_tw (fun a => if S (N.tl a) = true ∧ S (N.hd a) = false then r a - r0 a else 0) ok.even]
    refine sm_congr (fun a ha => ?_)
    have := rp a ha
    show (if S (N.tl (tw a)) = true ∧ S (N.hd (tw a)) = false then r (tw a) - r0 (tw a) else 0) = crossS N S r0 a
    rw [N.tl_tw]
    show (if S (N.hd a) = true ∧ S (N.tl a) = false then r (tw a) - r0 (tw a) else 0) = crossS N S r0 a
    unfold crossS
    cases h1 : S (N.tl a) <;> cases h2 : S (N.hd a) <;> simp
    have := hz a ha h1 h2
    omega
  rw [e4, e5]
  omega

/-- the certificate that func 6 looks for -/
structure CertOk (N : Net) (r0 r : Nat → Int) (S : Nat → Bool) (ex : Nat → Int) : Prop where
  t : S N.t = true
  s : S N.s = false
  rn : ∀ a, a < N.m → 0 ≤ r a
  rp : ∀ a, a < N.m → r a + r (tw a) = r0 a + r0 (tw a)
  zero : ∀ a, a < N.m → S (N.tl a) = false → S (N.hd a) = true → r a = 0
  cut : sm (crossS N S r0) N.m = ex N.t
  xe : ∀ v, v < N.V → v ≠ N.s → sm (fun j => r (N.arc v j) - r0 (N.arc v j)) (N.L v) = ex v
  xn : ∀ v, v < N.V → v ≠ N.s → 0 ≤ ex v
  xm : ∀ v, v < N.V → v ≠ N.s → ex v ≤ 9223372036854775807
  x0 : ∀ v, v < N.V → v ≠ N.s → v ≠ N.t → S v = true → ex v = 0

theorem sm_sub (f g : Nat → Int) : ∀ (n : Nat), sm (fun i => f i - g i) n = sm f n - sm g n
  | 0 => rfl
  | n + 1 => by unfold sm; rw [sm_sub f g n]; omega

theorem cert_ok {N : Net} (ok : NetOk N) {r0 r : Nat → Int} {h : Nat → Nat} {ex : Nat → Int} {cur : Nat → Nat} {qd : Nat → Bool} {d : Nat → Nat} (P : PR N r0 (fun _ => False) r h ex cur qd []) (D : Dist N r d) :
    CertOk N r0 r (fun v => decide (d v < N.V)) ex := by
  have ds := P.dist_s ok D
  have hz : ∀ a, a < N.m → decide (d (N.tl a) < N.V) = false → decide (d (N.hd a) < N.V) = true → r a = 0 := fun a ha h1 h2 => by
    simp only [decide_eq_false_iff_not, decide_eq_true_eq] at h1 h2
    have h3 := P.rn a ha
    by_cases h4 : 0 < r a
    · exact absurd (D.shut a ha h4 h2) h1
    · omega
  have x0 : ∀ v, v < N.V → v ≠ N.s → v ≠ N.t → decide (d v < N.V) = true → ex v = 0 := fun v hv hs ht hS => by
    simp only [decide_eq_true_eq] at hS
    have h1 := P.xn v hv hs
    by_cases h2 : 0 < ex v
    · have := P.final ok D hv hs ht h2; omega
    · omega
  refine ⟨by simp [D.t]; have := ok.t; omega, by simp [ds], P.rn, P.rp, hz, ?_, fun v hv hs => ?_, P.xn, fun v hv hs => ?_, x0⟩
  · rw [cross_sum ok r0 r _ P.rp hz]
    have e : sm (fun v => if decide (d v < N.V) = true then N.bal r v - N.bal r0 v else 0) N.V = sm (fun v => if v = N.t then ex N.t else 0) N.V := sm_congr (fun v hv => by
      by_cases ht : v = N.t
      · subst ht
        have hd : d N.t < N.V := by rw [D.t]; have := ok.t; omega
        simp only [hd, decide_true, if_true]
        exact (P.xr _ hv (fun e => ok.st e.symm)).symm
      · by_cases hd : d v < N.V
        · have hs : v ≠ N.s := fun e => by rw [e, ds] at hd; omega
          have := x0 v hv hs ht (by simp [hd])
          have h2 := P.xr v hv hs
          simp only [hd, ht, decide_true, if_true, if_false]
          omega
        · simp [hd, ht])
    rw [e, sm_at, if_pos ok.t]
  · rw [P.xr v hv hs, sm_sub]
    rfl
  · have h1 := sm_ge (f := xo N ex) (n := N.V) (i := v) (xo_nn P.xn) hv
    have h2 := P.xs
    have h3 : xo N ex v = ex v := by unfold xo; rw [if_neg hs]
    omega
end Go.Proofs.Qxb6602686a
