import Derived.Test.Qxb6602686aCert
import Derived.Test.Qxb6602686aNetW
namespace Go.Proofs.Qxb6602686a

/-! ### the nodes that reach the sink are the same for every maximum preflow -/
inductive Reach (N : Net) (r : Nat → Int) : Nat → Prop
  | t : Reach N r N.t
  | step (a : Nat) (ha : a < N.m) (hr : 0 < r a) (h : Reach N r (N.hd a)) : Reach N r (N.tl a)
theorem Reach.shut {N : Net} {r : Nat → Int} {S : Nat → Bool} (ht : S N.t = true) (hc : ∀ a, a < N.m → 0 < r a → S (N.hd a) = true → S (N.tl a) = true) {v : Nat} (h : Reach N r v) : S v = true := by
  induction h with
  | t => exact ht
  | step a ha hr _ ih => exact hc a ha hr ih
theorem Dist.reach {N : Net} (ok : NetOk N) {r : Nat → Int} {d : Nat → Nat} (D : Dist N r d) {v : Nat} (hv : v < N.V) : decide (d v < N.V) = true ↔ Reach N r v := by
  constructor
  · intro h
    have h' : d v < N.V := by simpa using h
    have key : ∀ k v, v < N.V → d v = k → d v < N.V → Reach N r v := by
      intro k
      induction k with
      | zero =>
        intro v hv hk hlt
        by_cases e : v = N.t
        · rw [e]; exact .t
        · obtain ⟨a, ha, hr, htl, hd⟩ := D.par v hv e hlt
          omega
      | succ k ih =>
        intro v hv hk hlt
        by_cases e : v = N.t
        · rw [e]; exact .t
        · obtain ⟨a, ha, hr, htl, hd⟩ := D.par v hv e hlt
          rw [← htl]
          exact .step a ha hr (ih _ (ok.hd a ha) (by omega) (by omega))
    exact key _ v hv rfl h'
  · intro h
    exact Reach.shut (S := fun v => decide (d v < N.V)) (by simp [D.t]; have := ok.t; omega) (fun a ha hr hS => by
      simp only [decide_eq_true_eq] at hS ⊢
      exact D.shut a ha hr hS) h
/-- a preflow and the nodes that reach the sink under it; the source is none of them -/
structure Flw (N : Net) (r0 r : Nat → Int) (S : Nat → Bool) : Prop where
  rn : ∀ a, a < N.m → 0 ≤ r a
  rp : ∀ a, a < N.m → r a + r (tw a) = r0 a + r0 (tw a)
  xn : ∀ v, v < N.V → v ≠ N.s → v ≠ N.t → 0 ≤ N.bal r v - N.bal r0 v
  x0 : ∀ v, v < N.V → v ≠ N.s → v ≠ N.t → S v = true → N.bal r v - N.bal r0 v = 0
  s : S N.s = false
  S : ∀ v, v < N.V → (S v = true ↔ Reach N r v)

theorem cross_gen {N : Net} (ok : NetOk N) (r0 r : Nat → Int) (S : Nat → Bool) (rp : ∀ a, a < N.m → r a + r (tw a) = r0 a + r0 (tw a)) :
    sm (crossS N S r0) N.m - sm (crossS N S r) N.m = sm (fun v => if S v = true then N.bal r v - N.bal r0 v else 0) N.V := by
  have h := cross_sum ok (fun a => r0 a - r a) (fun _ => 0) S (fun a ha => by have := rp a ha; show (0 : Int) + 0 = r0 a - r a + (r0 (tw a) - r (tw a)); omega) (fun _ _ _ _ => rfl)
  have e1 : sm (crossS N S fun a => r0 a - r a) N.m = sm (crossS N S r0) N.m - sm (crossS N S r) N.m := by
    rw [← sm_sub]
    refine sm_congr (fun a _ => ?_)
    unfold crossS
    split
    · rfl
    · rfl
  have e2 : sm (fun v => if S v = true then N.bal (fun _ => 0) v - N.bal (fun a => r0 a - r a) v else 0) N.V = sm (fun v => if S v = true then N.bal r v - N.bal r0 v else 0) N.V := by
    refine sm_congr (fun v _ => ?_)
    have h1 : N.bal (fun _ => 0) v = 0 := sm_zero _
    have h2 : N.bal (fun a => r0 a - r a) v = N.bal r0 v - N.bal r v := sm_sub _ _ _
    rw [h1, h2]
    split <;> omega
  rw [e1, e2] at h
  exact h
theorem cross_nn {N : Net} {r : Nat → Int} (rn : ∀ a, a < N.m → 0 ≤ r a) (S : Nat → Bool) : ∀ a, a < N.m → 0 ≤ crossS N S r a := fun a ha => by
  unfold crossS
  split
  · exact rn a ha
  · omega
theorem Flw.own {N : Net} (ok : NetOk N) {r0 r : Nat → Int} {S : Nat → Bool} (F : Flw N r0 r S) : N.bal r N.t - N.bal r0 N.t = sm (crossS N S r0) N.m := by
  have h := cross_gen ok r0 r S F.rp
  have hz : sm (crossS N S r) N.m = 0 := by
    rw [sm_congr (g := fun _ => 0) (fun a ha => ?_), sm_zero]
    unfold crossS
    split
    · rename_i h
      simp only [Bool.and_eq_true, Bool.not_eq_true'] at h
      have h1 := F.rn a ha
      by_cases h2 : 0 < r a
      · have := (F.S _ (ok.tl ha)).2 (.step a ha h2 ((F.S _ (ok.hd a ha)).1 h.2))
        rw [h.1] at this
        cases this
      · omega
    · rfl
  have e : sm (fun v => if S v = true then N.bal r v - N.bal r0 v else 0) N.V = sm (fun v => if v = N.t then N.bal r N.t - N.bal r0 N.t else 0) N.V := sm_congr (fun v hv => by
    by_cases ht : v = N.t
    · subst ht
      rw [if_pos ((F.S _ hv).2 .t), if_pos rfl]
    · rw [if_neg ht]
      by_cases hS : S v = true
      · rw [if_pos hS]
        exact F.x0 v hv (fun e => by rw [e, F.s] at hS; cases hS) ht hS
      · rw [if_neg hS])
  rw [e, sm_at, if_pos ok.t, hz] at h
  omega
theorem Flw.other {N : Net} (ok : NetOk N) {r0 r r' : Nat → Int} {S S' : Nat → Bool} (F : Flw N r0 r S) (F' : Flw N r0 r' S') : N.bal r N.t - N.bal r0 N.t + sm (crossS N S' r) N.m ≤ sm (crossS N S' r0) N.m := by
  have h := cross_gen ok r0 r S' F.rp
  have e : sm (fun v => if v = N.t then N.bal r N.t - N.bal r0 N.t else 0) N.V ≤ sm (fun v => if S' v = true then N.bal r v - N.bal r0 v else 0) N.V := sm_mono (fun v hv => by
    show (if v = N.t then N.bal r N.t - N.bal r0 N.t else 0) ≤ (if S' v = true then N.bal r v - N.bal r0 v else 0)
    by_cases ht : v = N.t
    · subst ht
      rw [if_pos ((F'.S _ hv).2 .t), if_pos rfl]
      omega
    · rw [if_neg ht]
      by_cases hS : S' v = true
      · rw [if_pos hS]
        exact F.xn v hv (fun e => by rw [e, F'.s] at hS; cases hS) ht
      · rw [if_neg hS]
        omega)
  rw [sm_at, if_pos ok.t] at e
  omega
theorem Flw.incl {N : Net} (ok : NetOk N) {r0 r r' : Nat → Int} {S S' : Nat → Bool} (F : Flw N r0 r S) (F' : Flw N r0 r' S') {v : Nat} (hv : v < N.V) (h : S v = true) : S' v = true := by
  have h1 := F.own ok
  have h2 := F'.own ok
  have h3 := F.other ok F'
  have h4 := F'.other ok F
  have h5 := sm_nonneg (cross_nn F.rn S')
  have h6 := sm_nonneg (cross_nn F'.rn S)
  have hz : sm (crossS N S' r) N.m = 0 := by omega
  refine Reach.shut (S := S') ((F'.S _ ok.t).2 .t) (fun a ha hr hS => ?_) ((F.S v hv).1 h)
  cases htl : S' (N.tl a) with
  | true => rfl
  | false =>
    have h7 := sm_ge (cross_nn F.rn S') ha
    have h8 : crossS N S' r a = r a := by unfold crossS; rw [htl, hS]; rfl
    omega
theorem Flw.same {N : Net} (ok : NetOk N) {r0 r r' : Nat → Int} {S S' : Nat → Bool} (F : Flw N r0 r S) (F' : Flw N r0 r' S') {v : Nat} (hv : v < N.V) : S v = S' v := by
  cases h : S v with
  | true => exact (F.incl ok F' hv h).symm
  | false =>
    cases h' : S' v with
    | false => rfl
    | true => rw [F'.incl ok F hv h'] at h; cases h
theorem flw_cut {N : Net} (ok : NetOk N) {r0 r : Nat → Int} {h : Nat → Nat} {ex : Nat → Int} {cur : Nat → Nat} {qd : Nat → Bool} {d : Nat → Nat} (P : PR N r0 (fun _ => False) r h ex cur qd []) (D : Dist N r d) : Flw N r0 r (fun v => decide (d v < N.V)) := by
  have C := cert_ok ok P D
  refine ⟨P.rn, P.rp, fun v hv hs ht => ?_, fun v hv hs ht hS => ?_, C.s, fun v hv => D.reach ok hv⟩
  · have := P.xr v hv hs; have := P.xn v hv hs; omega
  · have := P.xr v hv hs; have := C.x0 v hv hs ht hS; omega

/-! ### Edmonds-Karp -/
structure EkS (N : Net) (r0 r : Nat → Int) : Prop where
  rn : ∀ a, a < N.m → 0 ≤ r a
  rp : ∀ a, a < N.m → r a + r (tw a) = r0 a + r0 (tw a)
  xe : ∀ v, v < N.V → v ≠ N.s → v ≠ N.t → N.bal r v = N.bal r0 v
/-- the search from the source: Q as it was queued, h of them taken up, j arcs of x looked at -/
structure EkI (N : Net) (r : Nat → Int) (p : Nat → Int) (Q : List Nat) (h x j : Nat) : Prop where
  nd : Q.Nodup
  lt : ∀ y, y ∈ Q → y < N.V
  ms : N.s ∈ Q
  out : ∀ v, v < N.V → v ∉ Q → p v = -1
  par : ∀ i y, Q[i]? = some y → y ≠ N.s → ∃ a k : Nat, p y = (a : Int) ∧ a < N.m ∧ 0 < r a ∧ N.hd a = y ∧ k < i ∧ Q[k]? = some (N.tl a)
  done : ∀ i y, i < h → Q[i]? = some y → ∀ k, k < N.L y → 0 < r (N.arc y k) → N.hd (N.arc y k) ∈ Q
  part : ∀ k, k < j → 0 < r (N.arc x k) → N.hd (N.arc x k) ∈ Q
theorem EkI.start {N : Net} (ok : NetOk N) (r : Nat → Int) {p : Nat → Int} (ho : ∀ v, v < N.V → v ≠ N.s → p v = -1) (x : Nat) : EkI N r p [N.s] 0 x 0 := by
  refine ⟨by simp, fun y hy => ?_, by simp, fun v hv hn => ho v hv (by simpa using hn), fun i y hi hy => ?_, fun i y hi => by omega, fun k hk => by omega⟩
  · simp at hy; rw [hy]; exact ok.s
  · cases i with
    | zero => simp at hi; exact absurd hi.symm hy
    | succ i => simp at hi
theorem EkI.len {N : Net} {r : Nat → Int} {p : Nat → Int} {Q : List Nat} {h x j : Nat} (E : EkI N r p Q h x j) : Q.length ≤ N.V := nodup_len E.nd E.lt
theorem EkI.open {N : Net} {r : Nat → Int} {p : Nat → Int} {Q : List Nat} {h x : Nat} (E : EkI N r p Q h x 0) (y : Nat) : EkI N r p Q h y 0 :=
  ⟨E.nd, E.lt, E.ms, E.out, E.par, E.done, fun k hk => by omega⟩
theorem EkI.skip {N : Net} {r : Nat → Int} {p : Nat → Int} {Q : List Nat} {h x j : Nat} (E : EkI N r p Q h x j) (hw : N.hd (N.arc x j) < N.V) (hn : 0 < r (N.arc x j) → p (N.hd (N.arc x j)) ≠ -1) : EkI N r p Q h x (j + 1) := by
  refine ⟨E.nd, E.lt, E.ms, E.out, E.par, E.done, fun k hk hr => ?_⟩
  by_cases e : k = j
  · subst e
    exact Classical.byContradiction (fun hq => hn hr (E.out _ hw hq))
  · exact E.part k (by omega) hr
theorem EkI.add {N : Net} (ok : NetOk N) {r : Nat → Int} {p : Nat → Int} {Q : List Nat} {h x j : Nat} (E : EkI N r p Q h x j) (hx : Q[h]? = some x) (hj : j < N.L x) (hr : 0 < r (N.arc x j)) (hp : p (N.hd (N.arc x j)) = -1) (hs : p N.s ≠ -1) :
    N.hd (N.arc x j) ∉ Q ∧ EkI N r (fun v => if v = N.hd (N.arc x j) then ((N.arc x j : Nat) : Int) else p v) (Q ++ [N.hd (N.arc x j)]) h x (j + 1) := by
  have hxQ : x ∈ Q := List.mem_of_getElem? hx
  have hxV := E.lt x hxQ
  obtain ⟨ha, hat⟩ := ok.arc x j hxV hj
  have hwV := ok.hd _ ha
  have hhl : h < Q.length := by
    have := List.getElem?_eq_some_iff.1 hx
    exact this.1
  generalize hw : N.hd (N.arc x j) = w at *
  have hnQ : w ∉ Q := fun hm => by
    obtain ⟨i, hi, e⟩ := List.getElem_of_mem hm
    have hi' : Q[i]? = some w := by rw [List.getElem?_eq_getElem hi, e]
    by_cases es : w = N.s
    · rw [es] at hp; exact hs hp
    · obtain ⟨a, k, h1, _⟩ := E.par i w hi' es
      rw [hp] at h1; omega
  refine ⟨hnQ, ?_, fun y hy => ?_, by simp [E.ms], fun v hv hn => ?_, fun i y hi hy => ?_, fun i y hi hy k hk hr' => ?_, fun k hk hr' => ?_⟩
  · rw [List.nodup_append]
    exact ⟨E.nd, by simp, fun a ha b hb => by simp at hb; rw [hb]; exact fun e => hnQ (by rw [← e]; exact ha)⟩
  · rcases List.mem_append.1 hy with h1 | h1
    · exact E.lt y h1
    · simp at h1; rw [h1]; exact hwV
  · simp only [List.mem_append, List.mem_singleton, not_or] at hn
    show (if v = w then _ else p v) = -1
    rw [if_neg hn.2]
    exact E.out v hv hn.1
  · by_cases hil : i < Q.length
    · rw [List.getElem?_append_left hil] at hi
      have hyQ : y ∈ Q := List.mem_of_getElem? hi
      obtain ⟨a, k, h1, h2, h3, h4, h5, h6⟩ := E.par i y hi hy
      refine ⟨a, k, ?_, h2, h3, h4, h5, ?_⟩
      · show (if y = w then _ else p y) = (a : Int)
        rw [if_neg (fun e => hnQ (by rw [← e]; exact hyQ))]
        exact h1
      · rw [List.getElem?_append_left (by omega)]; exact h6
    · have hil' : i = Q.length := by
        have := List.getElem?_eq_some_iff.1 hi
        obtain ⟨h1, _⟩ := this
        simp at h1
        omega
      subst hil'
      rw [List.getElem?_append_right (by omega)] at hi
      simp at hi
      subst hi
      refine ⟨N.arc x j, h, by simp, ha, hr, hw, hhl, ?_⟩
      rw [List.getElem?_append_left hhl, hat]; exact hx
  · have hyQ : Q[i]? = some y := by
      rw [List.getElem?_append_left (by omega)] at hy; exact hy
    exact List.mem_append.2 (.inl (E.done i y hi hyQ k hk hr'))
  · by_cases e : k = j
    · subst e; rw [hw]; simp
    · exact List.mem_append.2 (.inl (E.part k (by omega) hr'))
theorem EkI.close {N : Net} {r : Nat → Int} {p : Nat → Int} {Q : List Nat} {h x : Nat} (E : EkI N r p Q h x (N.L x)) (hx : Q[h]? = some x) (y : Nat) : EkI N r p Q (h + 1) y 0 := by
  refine ⟨E.nd, E.lt, E.ms, E.out, E.par, fun i z hi hz k hk hr => ?_, fun k hk => by omega⟩
  by_cases e : i = h
  · subst e
    rw [hx] at hz
    cases hz
    exact E.part k hk hr
  · exact E.done i z (by omega) hz k hk hr
/-- the search ended without the sink -/
theorem EkI.noPath {N : Net} (ok : NetOk N) {r : Nat → Int} {p : Nat → Int} {Q : List Nat} {h x : Nat} (E : EkI N r p Q h x 0) (hh : Q.length ≤ h) (ht : p N.t = -1) : ¬ Reach N r N.s := by
  have htQ : N.t ∉ Q := fun hm => by
    obtain ⟨i, hi, e⟩ := List.getElem_of_mem hm
    obtain ⟨a, k, h1, _⟩ := E.par i N.t (by rw [List.getElem?_eq_getElem hi, e]) (fun e => ok.st e.symm)
    rw [ht] at h1; omega
  have key : ∀ v, Reach N r v → v ∉ Q := by
    intro v hv
    induction hv with
    | t => exact htQ
    | step a ha hr _ ih =>
      intro hm
      obtain ⟨i, hi, e⟩ := List.getElem_of_mem hm
      obtain ⟨j, hj, ej⟩ := ok.all a ha
      have := E.done i (N.tl a) (by omega) (by rw [List.getElem?_eq_getElem hi, e]) j hj (by rw [ej]; exact hr)
      rw [ej] at this
      exact ih this
  exact fun h => key _ h E.ms
/-- the parents lead back to the source -/
structure Pth (N : Net) (r : Nat → Int) (p : Nat → Int) (M : Nat → Prop) (rk : Nat → Nat) : Prop where
  t : M N.t
  lt : ∀ v, M v → v < N.V
  par : ∀ v, M v → v ≠ N.s → ∃ a : Nat, p v = (a : Int) ∧ a < N.m ∧ 0 < r a ∧ N.hd a = v ∧ M (N.tl a) ∧ rk (N.tl a) < rk v
theorem EkI.path {N : Net} (ok : NetOk N) {r : Nat → Int} {p : Nat → Int} {Q : List Nat} {h x j : Nat} (E : EkI N r p Q h x j) (ht : p N.t ≠ -1) : ∃ M rk, Pth N r p M rk := by
  refine ⟨fun v => v ∈ Q, fun v => least (fun i => Q[i]? = some v), Classical.byContradiction (fun hn => ht (E.out _ ok.t hn)), E.lt, fun v hv hs => ?_⟩
  obtain ⟨i, hi, e⟩ := List.getElem_of_mem hv
  have hsp := (least_spec (p := fun i => Q[i]? = some v) ⟨i, by rw [List.getElem?_eq_getElem hi, e]⟩).1
  obtain ⟨a, k, h1, h2, h3, h4, h5, h6⟩ := E.par _ v hsp hs
  exact ⟨a, h1, h2, h3, h4, List.mem_of_getElem? h6, Nat.lt_of_le_of_lt ((least_spec (p := fun i => Q[i]? = some (N.tl a)) ⟨k, h6⟩).2 k h6) h5⟩

/-- the path, from the sink backwards -/
def itn (N : Net) (p : Nat → Int) : Nat → Nat
  | 0 => N.t
  | k + 1 => N.tl (p (itn N p k)).toNat
def itA (N : Net) (p : Nat → Int) (k : Nat) : Nat := (p (itn N p k)).toNat
section
variable {N : Net} {r0 r p : Nat → Int} {M : Nat → Prop} {rk : Nat → Nat}
theorem Pth.at (P : Pth N r p M rk) {k : Nat} (h : ∀ i, i < k → itn N p i ≠ N.s) : M (itn N p k) := by
  induction k with
  | zero => exact P.t
  | succ k ih =>
    obtain ⟨a, h1, _, _, _, h5, _⟩ := P.par _ (ih (fun i hi => h i (by omega))) (h k (by omega))
    show M (N.tl (p (itn N p k)).toNat)
    rw [h1, Int.toNat_natCast]
    exact h5
theorem Pth.arc (P : Pth N r p M rk) {k : Nat} (h : ∀ i, i ≤ k → itn N p i ≠ N.s) : p (itn N p k) = (itA N p k : Int) ∧ itA N p k < N.m ∧ 0 < r (itA N p k) ∧ N.hd (itA N p k) = itn N p k ∧ N.tl (itA N p k) = itn N p (k + 1) ∧ rk (itn N p (k + 1)) < rk (itn N p k) := by
  obtain ⟨a, h1, h2, h3, h4, h5, h6⟩ := P.par _ (P.at (k := k) (fun i hi => h i (by omega))) (h k (by omega))
  have e : itA N p k = a := by unfold itA; rw [h1, Int.toNat_natCast]
  have e2 : itn N p (k + 1) = N.tl a := by
    show N.tl (p (itn N p k)).toNat = N.tl a
    rw [h1, Int.toNat_natCast]
  rw [e, e2]
  exact ⟨h1, h2, h3, h4, rfl, h6⟩
theorem Pth.rank (P : Pth N r p M rk) {K : Nat} (h : ∀ i, i < K → itn N p i ≠ N.s) : ∀ {i j : Nat}, i < j → j ≤ K → rk (itn N p j) < rk (itn N p i) := by
  intro i j hij hj
  induction j with
  | zero => omega
  | succ j ih =>
    have h1 := (P.arc (k := j) (fun l hl => h l (by omega))).2.2.2.2.2
    by_cases e : i = j
    · subst e; exact h1
    · have := ih (by omega) (by omega); omega
/-- the bottleneck over the first k arcs of the path -/
structure BN (N : Net) (r p : Nat → Int) (k : Nat) (b : Int) : Prop where
  ns : ∀ i, i < k → itn N p i ≠ N.s
  b0 : 0 < b
  bm : b ≤ 9223372036854775807
  le : ∀ i, i < k → b ≤ r (itA N p i)
theorem BN.start : BN N r p 0 9223372036854775807 := ⟨fun i hi => by omega, by omega, by omega, fun i hi => by omega⟩
theorem BN.step {k : Nat} {b b' : Int} (B : BN N r p k b) (hs : itn N p k ≠ N.s) (h1 : b' ≤ b) (h2 : b' ≤ r (itA N p k)) (h3 : 0 < b') : BN N r p (k + 1) b' := by
  refine ⟨fun i hi => ?_, h3, by have := B.bm; omega, fun i hi => ?_⟩
  · by_cases e : i = k
    · rw [e]; exact hs
    · exact B.ns i (by omega)
  · by_cases e : i = k
    · rw [e]; exact h2
    · have := B.le i (by omega); omega
/-- b pushed along the first k arcs of the path of K -/
structure Aug (N : Net) (r0 r p : Nat → Int) (K : Nat) (b : Int) (r' : Nat → Int) (k : Nat) : Prop where
  kK : k ≤ K
  rn : ∀ a, a < N.m → 0 ≤ r' a
  rp : ∀ a, a < N.m → r' a + r' (tw a) = r0 a + r0 (tw a)
  bl : ∀ u, u < N.V → N.bal r' u = N.bal r u + (if u = N.t then b else 0) - (if u = itn N p k then b else 0)
  le : ∀ i, k ≤ i → i < K → b ≤ r' (itA N p i)
theorem Aug.start {K : Nat} {b : Int} (E : EkS N r0 r) (B : BN N r p K b) : Aug N r0 r p K b r 0 :=
  ⟨by omega, E.rn, E.rp, fun u _ => by show _ = _ + _ - (if u = N.t then b else 0); omega, fun i _ hi => B.le i hi⟩
theorem Aug.step {K k : Nat} {b : Int} {r' : Nat → Int} (A : Aug N r0 r p K b r' k) (ok : NetOk N) (C : Cap N r0) (P : Pth N r p M rk) (B : BN N r p K b) (hk : k < K) :
    b ≤ r' (itA N p k) ∧ r' (tw (itA N p k)) + b ≤ 9223372036854775807 ∧ Aug N r0 r p K b (upd (upd r' (itA N p k) (-b)) (tw (itA N p k)) b) (k + 1) := by
  obtain ⟨_, ha, _, hhd, htl, hrk⟩ := P.arc (k := k) (fun i hi => B.ns i (by omega))
  have hb := A.le k (by omega) hk
  have hta := tw_lt ok.even ha
  have hne := tw_ne (itA N p k)
  have h1 := A.rp _ ha
  have h2 := C.two _ ha
  have hsum : r' (tw (itA N p k)) + b ≤ 9223372036854775807 := by omega
  have b0 := B.b0
  refine ⟨hb, hsum, by omega, fun c hc => ?_, fun c hc => ?_, fun u hu => ?_, fun i hi hiK => ?_⟩
  · have := A.rn c hc
    unfold upd
    by_cases e1 : c = tw (itA N p k)
    · rw [if_pos e1, if_neg (by rw [e1]; exact hne)]; omega
    · rw [if_neg e1]
      by_cases e2 : c = itA N p k
      · rw [if_pos e2, e2]; omega
      · rw [if_neg e2]; exact this
  · have := A.rp c hc
    unfold upd
    by_cases e1 : c = tw (itA N p k)
    · have e2 : tw c = itA N p k := by rw [e1, tw_tw]
      rw [if_pos e1, if_neg (by rw [e1]; exact hne), if_neg (by rw [e2]; exact fun e => hne e.symm), if_pos e2]
      omega
    · by_cases e2 : c = itA N p k
      · rw [if_neg e1, if_pos e2, if_pos (by rw [e2]), if_neg (by rw [e2]; exact hne)]
        omega
      · rw [if_neg e1, if_neg e2, if_neg (fun e => e2 (by rw [← tw_tw c, e, tw_tw])), if_neg (fun e => e1 (by rw [← tw_tw c, e]))]
        exact this
  · rw [bal_upd ok _ hta _ hu, bal_upd ok _ ha _ hu, A.bl u hu, N.tl_tw, hhd, htl]
    by_cases e1 : u = itn N p k
    · by_cases e2 : u = itn N p (k + 1)
      · exact absurd (e1.symm.trans e2) (fun e => by rw [← e] at hrk; omega)
      · simp only [if_pos e1, if_neg e2]; omega
    · by_cases e2 : u = itn N p (k + 1)
      · simp only [if_neg e1, if_pos e2]; omega
      · simp only [if_neg e1, if_neg e2]; omega
  · have h3 := A.le i (by omega) hiK
    have h4 := P.arc (k := i) (fun l hl => B.ns l (by omega))
    have h5 := P.rank (K := K) B.ns (i := k) (j := i) (by omega) (by omega)
    have hni : itA N p i ≠ itA N p k := fun e => by
      have : itn N p i = itn N p k := by rw [← h4.2.2.2.1, e, hhd]
      rw [this] at h5; omega
    unfold upd
    by_cases e1 : itA N p i = tw (itA N p k)
    · rw [if_pos e1, if_neg hni]; omega
    · rw [if_neg e1, if_neg hni]; exact h3
theorem Aug.done {K : Nat} {b : Int} {r' : Nat → Int} (A : Aug N r0 r p K b r' K) (ok : NetOk N) (E : EkS N r0 r) (hK : itn N p K = N.s) : EkS N r0 r' ∧ N.bal r' N.s = N.bal r N.s - b := by
  refine ⟨⟨A.rn, A.rp, fun v hv hs ht => ?_⟩, ?_⟩
  · rw [A.bl v hv, hK, if_neg ht, if_neg hs, E.xe v hv hs ht]; omega
  · rw [A.bl _ ok.s, hK, if_neg ok.st, if_pos rfl]; omega
end
theorem bal_nn {N : Net} (ok : NetOk N) {r : Nat → Int} (rn : ∀ a, a < N.m → 0 ≤ r a) {v : Nat} (hv : v < N.V) : 0 ≤ N.bal r v := sm_nonneg (fun j hj => rn _ (ok.arc v j hv hj).1)

/-! ### the sweeps -/
def cntF (N : Net) (c : Nat → Bool) : Int := sm (fun v => if c v = true then 0 else 1) N.V
theorem cntF_nn (N : Net) (c : Nat → Bool) : 0 ≤ cntF N c := sm_nonneg (fun v _ => by show 0 ≤ (if c v = true then (0 : Int) else 1); split <;> omega)
/-- one sweep: a arcs are looked at -/
structure SwI (N : Net) (r : Nat → Int) (c0 c : Nat → Bool) (ch : Bool) (a : Nat) : Prop where
  t : c N.t = true
  re : ∀ v, c v = true → Reach N r v
  sc : ch = false → ∀ b, b < a → 0 < r b → c (N.hd b) = true → c (N.tl b) = true
  same : ch = false → cntF N c = cntF N c0
  less : ch = true → cntF N c < cntF N c0
theorem SwI.skip {N : Net} {r : Nat → Int} {c0 c : Nat → Bool} {ch : Bool} {a : Nat} (S : SwI N r c0 c ch a) (h : 0 < r a → c (N.hd a) = true → c (N.tl a) = true) : SwI N r c0 c ch (a + 1) :=
  ⟨S.t, S.re, fun hc b hb hr hh => by
    by_cases e : b = a
    · subst e; exact h hr hh
    · exact S.sc hc b (by omega) hr hh, S.same, S.less⟩
theorem SwI.add {N : Net} (ok : NetOk N) {r : Nat → Int} {c0 c : Nat → Bool} {ch : Bool} {a : Nat} (S : SwI N r c0 c ch a) (ha : a < N.m) (hr : 0 < r a) (hh : c (N.hd a) = true) (ht : c (N.tl a) = false) : SwI N r c0 (fun v => if v = N.tl a then true else c v) true (a + 1) := by
  have hlt : cntF N (fun v => if v = N.tl a then true else c v) < cntF N c := sm_strict (fun v hv => by
    show (if (if v = N.tl a then true else c v) = true then (0 : Int) else 1) ≤ (if c v = true then 0 else 1)
    by_cases e : v = N.tl a
    · rw [if_pos e]; simp; split <;> omega
    · rw [if_neg e]; omega) ⟨N.tl a, ok.tl ha, by
    show (if (if N.tl a = N.tl a then true else c (N.tl a)) = true then (0 : Int) else 1) < (if c (N.tl a) = true then 0 else 1)
    rw [if_pos rfl, ht]; simp⟩
  refine ⟨?_, fun v hv => ?_, fun h => (by cases h), fun h => (by cases h), fun _ => ?_⟩
  · show (if N.t = N.tl a then true else c N.t) = true
    rw [S.t]; simp
  · by_cases e : v = N.tl a
    · rw [e]; exact .step a ha hr (S.re _ hh)
    · have : c v = true := by simpa [e] using hv
      exact S.re v this
  · cases ch with
    | true => have := S.less rfl; omega
    | false => have := S.same rfl; omega
/-- between the sweeps -/
structure SwO (N : Net) (r : Nat → Int) (c : Nat → Bool) (ch : Bool) : Prop where
  t : c N.t = true
  re : ∀ v, c v = true → Reach N r v
  cl : ch = false → ∀ b, b < N.m → 0 < r b → c (N.hd b) = true → c (N.tl b) = true
theorem SwO.open {N : Net} {r : Nat → Int} {c : Nat → Bool} {ch : Bool} (S : SwO N r c ch) : SwI N r c c false 0 := ⟨S.t, S.re, fun _ b hb => by omega, fun _ => rfl, fun h => by cases h⟩
theorem SwI.close {N : Net} {r : Nat → Int} {c0 c : Nat → Bool} {ch : Bool} (S : SwI N r c0 c ch N.m) : SwO N r c ch := ⟨S.t, S.re, S.sc⟩
theorem SwO.done {N : Net} {r : Nat → Int} {c : Nat → Bool} (S : SwO N r c false) (v : Nat) : c v = true ↔ Reach N r v := ⟨S.re v, fun h => Reach.shut S.t (S.cl rfl) h⟩
theorem flw_ek {N : Net} {r0 r : Nat → Int} {c : Nat → Bool} (E : EkS N r0 r) (S : SwO N r c false) (hn : ¬ Reach N r N.s) : Flw N r0 r c := by
  refine ⟨E.rn, E.rp, fun v hv hs ht => ?_, fun v hv hs ht _ => ?_, ?_, fun v _ => S.done v⟩
  · have := E.xe v hv hs ht; omega
  · have := E.xe v hv hs ht; omega
  · cases h : c N.s with
    | false => rfl
    | true => exact absurd ((S.done _).1 h) hn
end Go.Proofs.Qxb6602686a
