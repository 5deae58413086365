import Derived.Test.Qxb6602686aPR
namespace Go.Proofs.Qxb6602686a

section
variable {N : Net} {r0 r : Nat → Int} {h : Nat → Nat} {ex : Nat → Int} {cur : Nat → Nat} {qd : Nat → Bool} {q : List Nat} {E : Nat → Prop}

/-- the source does not reach the sink -/
theorem PR.dist_s (P : PR N r0 E r h ex cur qd q) (ok : NetOk N) {d : Nat → Nat} (D : Dist N r d) : d N.s = N.V := by
  have h1 := D.le _ ok.s
  refine Classical.byContradiction (fun hn => ?_)
  obtain ⟨a, ha, hr, ht, hd⟩ := D.par _ ok.s ok.st (by omega)
  have h2 : N.hd a ≠ N.s := fun e => by rw [e] at hd; omega
  have := P.src a ha ht h2
  omega
/-- a sweep lowers no height -/
theorem PR.dist_ge (P : PR N r0 E r h ex cur qd q) (ok : NetOk N) {d : Nat → Nat} (D : Dist N r d) : ∀ k v, v < N.V → v ≠ N.s → d v = k → h v ≤ d v := by
  intro k
  induction k with
  | zero =>
    intro v hv hvs hk
    by_cases e : v = N.t
    · rw [e, P.ht]; omega
    · by_cases hl : d v < N.V
      · obtain ⟨a, _, _, _, hd⟩ := D.par v hv e hl
        omega
      · omega
  | succ k ih =>
    intro v hv hvs hk
    by_cases e : v = N.t
    · rw [e, P.ht]; omega
    · by_cases hl : d v < N.V
      · obtain ⟨a, ha, hr, ht, hd⟩ := D.par v hv e hl
        have hds := P.dist_s ok D
        have h2 : N.hd a ≠ N.s := fun e => by rw [e] at hd; omega
        have h3 := ih (N.hd a) (ok.hd a ha) h2 (by omega)
        have h4 := P.val a ha hr (by rw [ht]; exact hvs)
        rw [ht] at h4
        omega
      · have := P.hV v hv
        have := D.le v hv
        omega
theorem PR.sweep (P : PR N r0 (fun _ => False) r h ex cur qd q) (ok : NetOk N) {d : Nat → Nat} (D : Dist N r d) :
    (∀ v, v < N.V → h v ≤ (fun v => if v = N.s then N.V else d v) v) ∧ PR N r0 (fun _ => False) r (fun v => if v = N.s then N.V else d v) ex (fun _ => 0) qd q := by
  obtain ⟨h', e'⟩ : ∃ h' : Nat → Nat, (fun v => if v = N.s then N.V else d v) = h' := ⟨_, rfl⟩
  have hs' : h' N.s = N.V := by rw [← e']; simp
  have ho : ∀ v, v ≠ N.s → h' v = d v := fun v hv => by rw [← e']; simp [hv]
  rw [e']
  have hge : ∀ v, v < N.V → h v ≤ h' v := fun v hv => by
    by_cases e : v = N.s
    · rw [e, hs', P.hs]; exact Nat.le_refl _
    · rw [ho v e]; exact P.dist_ge ok D _ v hv e rfl
  have hle : ∀ v, v < N.V → h' v ≤ N.V := fun v hv => by
    by_cases e : v = N.s
    · rw [e, hs']; exact Nat.le_refl _
    · rw [ho v e]; exact D.le v hv
  refine ⟨hge, P.rn, P.rp, hs', by rw [ho _ (fun e => ok.st e.symm)]; exact D.t, hle, fun a ha hr hts => ?_, P.src, P.xn, P.xs, P.xr, fun v hv h1 h2 h3 h4 => ?_, P.qok, fun v hv => Nat.zero_le _, fun v hv hvs j hj => by omega⟩
  · by_cases e : N.hd a = N.s
    · rw [e, hs']
      have := hle _ (ok.tl ha)
      omega
    · rw [ho _ hts, ho _ e]
      exact D.step a ha hr
  · rcases P.act v hv h1 h2 h3 h4 with h5 | h5
    · exact .inl h5
    · right
      have := hge v hv
      have := hle v hv
      omega
/-- in the end: what still has excess does not reach the sink -/
theorem PR.final (P : PR N r0 (fun _ => False) r h ex cur qd []) (ok : NetOk N) {d : Nat → Nat} (D : Dist N r d) {v : Nat} (hv : v < N.V) (hs : v ≠ N.s) (ht : v ≠ N.t) (hx : 0 < ex v) : d v = N.V := by
  have h1 := P.dist_ge ok D _ v hv hs rfl
  have h2 := D.le v hv
  rcases P.act v hv hs ht (fun h => h) hx with h3 | h3
  · have := (P.qok.mark v hv).1 h3
    simp at this
  · omega

/-! ### the measure -/
def mA (N : Net) (h : Nat → Nat) : Int := sm (fun v => (N.V : Int) - (h v : Int)) N.V
def mP (N : Net) (h : Nat → Nat) (ex : Nat → Int) : Int := sm (fun v => xo N ex v * (h v : Int)) N.V
theorem PR.mA_nn (P : PR N r0 E r h ex cur qd q) : 0 ≤ mA N h := sm_nonneg (fun v hv => by have := P.hV v hv; omega)
theorem PR.mP_nn (P : PR N r0 E r h ex cur qd q) : 0 ≤ mP N h ex := sm_nonneg (fun v hv => Int.mul_nonneg (xo_nn P.xn v hv) (by omega))
theorem PR.mP_lt (P : PR N r0 E r h ex cur qd q) (hV : N.V ≤ 1048576) : mP N h ex < 9671406556917033397649408 := by
  have h1 := sm_mul_le (V := N.V) (xo_nn P.xn) P.hV
  have h2 : sm (xo N ex) N.V * (N.V : Int) ≤ 9223372036854775807 * (N.V : Int) := Int.mul_le_mul_of_nonneg_right P.xs (by omega)
  unfold mP
  omega
/-- from (A, P, n) to (A', P', n'): not more; the same only where all three are -/
def Lex (A P : Int) (n : Nat) (A' P' : Int) (n' : Nat) : Prop := A' < A ∨ (A' = A ∧ (P' < P ∨ (P' = P ∧ n' = n)))
theorem Lex.refl (A P : Int) (n : Nat) : Lex A P n A P n := .inr ⟨rfl, .inr ⟨rfl, rfl⟩⟩
def mu (N : Net) (h : Nat → Nat) (ex : Nat → Int) (q : List Nat) : Nat := ((mA N h * 9671406556917033397649408 + mP N h ex) * 2097152).toNat + q.length
theorem mu_lt {h' : Nat → Nat} {ex' : Nat → Int} {r' : Nat → Int} {cur' : Nat → Nat} {qd' : Nat → Bool} {q' : List Nat} {E' : Nat → Prop} (P : PR N r0 E r h ex cur qd q) (P' : PR N r0 E' r' h' ex' cur' qd' q') (hV : N.V ≤ 1048576) {n : Nat} (hn : n < q.length)
    (hl : Lex (mA N h) (mP N h ex) n (mA N h') (mP N h' ex') q'.length) : mu N h' ex' q' < mu N h ex q := by
  have a1 := P.mA_nn
  have a2 := P.mP_nn
  have a3 := P.mP_lt hV
  have b1 := P'.mA_nn
  have b2 := P'.mP_nn
  have b3 := P'.mP_lt hV
  have c1 := P.qok.len
  have c2 := P'.qok.len
  unfold mu
  unfold Lex at hl
  omega
theorem lex_relabel {x : Nat} {hx' : Nat} (hV : x < N.V) (hlt : h x < hx') : mA N (fun v => if v = x then hx' else h v) < mA N h := by
  refine sm_strict (fun v hv => ?_) ⟨x, hV, ?_⟩
  · by_cases e : v = x
    · subst e; simp; omega
    · simp [e]
  · simp; omega
theorem lex_sweep {h' : Nat → Nat} (hge : ∀ v, v < N.V → h v ≤ h' v) : mA N h' < mA N h ∨ (mA N h' = mA N h ∧ mP N h' ex = mP N h ex) := by
  by_cases hs : ∃ v, v < N.V ∧ h v < h' v
  · obtain ⟨v, hv, hl⟩ := hs
    left
    exact sm_strict (fun v hv => by have := hge v hv; omega) ⟨v, hv, by omega⟩
  · right
    have he : ∀ v, v < N.V → h' v = h v := fun v hv => by
      have h1 := hge v hv
      have h2 : ¬ h v < h' v := fun h => hs ⟨v, hv, h⟩
      omega
    exact ⟨sm_congr (fun v hv => by rw [he v hv]), sm_congr (fun v hv => by rw [he v hv])⟩
theorem lex_push {x y : Nat} {f : Int} (hx : x < N.V) (hy : y < N.V) (hyx : y ≠ x) (hxs : x ≠ N.s) (hys : y ≠ N.s) (hh : h x = h y + 1) : mP N h (upd (upd ex x (-f)) y f) = mP N h ex - f := by
  unfold mP
  have h4 : sm (fun v => xo N (upd (upd ex x (-f)) y f) v * (h v : Int)) N.V = sm (fun j => if j = y then (fun i => if i = x then (fun v => xo N ex v * (h v : Int)) i + (-f * (h x : Int)) else (fun v => xo N ex v * (h v : Int)) i) j + f * (h y : Int) else (fun i => if i = x then (fun v => xo N ex v * (h v : Int)) i + (-f * (h x : Int)) else (fun v => xo N ex v * (h v : Int)) i) j) N.V := by
    refine sm_congr (fun v hv => ?_)
    unfold xo upd
    by_cases e1 : v = y
    · subst e1; simp [hyx, hys, Int.add_mul]
    · by_cases e2 : v = x
      · subst e2; simp [e1, hxs, Int.add_mul]
      · simp [e1, e2]
  rw [h4, sm_upd _ _ _ hy, sm_upd _ _ _ hx, hh]
  have : -f * ((h y + 1 : Nat) : Int) = -(f * (h y : Int)) - f := by
    rw [show ((h y + 1 : Nat) : Int) = (h y : Int) + 1 by omega, Int.mul_add, Int.neg_mul]
    omega
  omega
end
end Go.Proofs.Qxb6602686a
