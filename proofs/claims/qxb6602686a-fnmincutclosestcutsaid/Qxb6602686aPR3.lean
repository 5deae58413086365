import Derived.Test.Qxb6602686aPR2
namespace Go.Proofs.Qxb6602686a

/-- the source's arcs are being filled: j of them are -/
structure SI (N : Net) (r0 r : Nat → Int) (ex : Nat → Int) (qd : Nat → Bool) (q : List Nat) (j : Nat) : Prop where
  rn : ∀ a, a < N.m → 0 ≤ r a
  rp : ∀ a, a < N.m → r a + r (tw a) = r0 a + r0 (tw a)
  far : ∀ a, a < N.m → N.tl a ≠ N.s → N.hd a ≠ N.s → r a = r0 a
  todo : ∀ i, j ≤ i → i < N.L N.s → N.hd (N.arc N.s i) ≠ N.s → r (N.arc N.s i) = r0 (N.arc N.s i)
  did : ∀ i, i < j → N.hd (N.arc N.s i) ≠ N.s → r (N.arc N.s i) = 0
  xn : ∀ v, v < N.V → v ≠ N.s → 0 ≤ ex v
  xs : sm (xo N ex) N.V ≤ sm (fun i => r0 (N.arc N.s i)) j
  xr : ∀ v, v < N.V → v ≠ N.s → ex v = N.bal r v - N.bal r0 v
  act : ∀ v, v < N.V → v ≠ N.s → v ≠ N.t → 0 < ex v → qd v = true
  qok : QOk N qd q

theorem SI.start {N : Net} {r0 : Nat → Int} (C : Cap N r0) : SI N r0 r0 (fun _ => 0) (fun _ => false) [] 0 := by
  refine ⟨C.nn, fun _ _ => rfl, fun _ _ _ _ => rfl, fun _ _ _ _ => rfl, fun i hi => by omega, fun _ _ _ => by omega, ?_, fun v _ _ => by omega, fun v _ _ _ h => by omega, ⟨by simp, by simp, by simp⟩⟩
  have : sm (xo N fun _ => 0) N.V = 0 := (sm_congr (g := fun _ => 0) (fun v _ => by simp [xo])).trans (sm_zero _)
  rw [this]
  simp [sm]

theorem sm_le_more {f : Nat → Int} {n j : Nat} (h : ∀ i, i < n → 0 ≤ f i) : j ≤ n → sm f j ≤ sm f n := by
  intro hj
  induction n with
  | zero => simp [show j = 0 by omega]
  | succ n ih =>
    by_cases e : j = n + 1
    · rw [e]; exact Int.le_refl _
    · have h1 := ih (fun i hi => h i (by omega)) (by omega)
      have h2 := h n (by omega)
      show sm f j ≤ sm f n + f n
      omega

/-- the excess behind the source's arc, as Go reckons it -/
def exS (ex : Nat → Int) (y : Nat) (f : Int) : Nat → Int := fun v => if v = y then IntKind.i64.wrap (ex v + f) else ex v

theorem SI.step {N : Net} (ok : NetOk N) {r0 r : Nat → Int} {ex : Nat → Int} {qd : Nat → Bool} {q : List Nat} {j : Nat} (C : Cap N r0) (S : SI N r0 r ex qd q j) (hj : j < N.L N.s) (B : Bool)
    (hB : B = (decide (0 < r (N.arc N.s j)) && (!qd (N.hd (N.arc N.s j)) && decide (N.hd (N.arc N.s j) ≠ N.s) && decide (N.hd (N.arc N.s j) ≠ N.t)))) :
    r (tw (N.arc N.s j)) + r (N.arc N.s j) ≤ 9223372036854775807 ∧
    SI N r0 (upd (upd r (N.arc N.s j) (-r (N.arc N.s j))) (tw (N.arc N.s j)) (r (N.arc N.s j))) (exS ex (N.hd (N.arc N.s j)) (r (N.arc N.s j)))
      (fun u => if B = true ∧ u = N.hd (N.arc N.s j) then true else qd u) (if B = true then q ++ [N.hd (N.arc N.s j)] else q) (j + 1) := by
  obtain ⟨ha, hat⟩ := ok.arc N.s j ok.s hj
  have hr0 : ∀ i, i < N.L N.s → 0 ≤ r0 (N.arc N.s i) := fun i hi => C.nn _ (ok.arc N.s i ok.s hi).1
  have htd := S.todo j (Nat.le_refl _) hj
  obtain ⟨a, ea⟩ : ∃ a, N.arc N.s j = a := ⟨_, rfl⟩
  rw [ea] at ha hat htd hB ⊢
  have hyV := ok.hd a ha
  have htm := tw_lt ok.even ha
  have hra := S.rn a ha
  have hrt := S.rn (tw a) htm
  have hpp := S.rp a ha
  have h2c := C.two a ha
  have r1 : ∀ b, b ≠ a → b ≠ tw a → upd (upd r a (-r a)) (tw a) (r a) b = r b := fun b h1 h2 => by simp [upd, h1, h2]
  have rA : upd (upd r a (-r a)) (tw a) (r a) a = 0 := by simp [upd, (tw_ne a).symm]; omega
  have rT : upd (upd r a (-r a)) (tw a) (r a) (tw a) = r (tw a) + r a := by simp [upd, tw_ne a]
  have httl : N.tl (tw a) = N.hd a := N.tl_tw a
  have hthd : N.hd (tw a) = N.s := hat
  have hstep : sm (fun i => r0 (N.arc N.s i)) (j + 1) = sm (fun i => r0 (N.arc N.s i)) j + r0 a := by
    show sm (fun i => r0 (N.arc N.s i)) j + r0 (N.arc N.s j) = _
    rw [ea]
  have htot : sm (fun i => r0 (N.arc N.s i)) (j + 1) ≤ 9223372036854775807 := Int.le_trans (sm_le_more hr0 (by omega)) C.out
  have hC0 := C.nn a ha
  have hwrap : N.hd a ≠ N.s → IntKind.i64.wrap (ex (N.hd a) + r a) = ex (N.hd a) + r a := fun hn => by
    have h1 := S.xn _ hyV hn
    have h2 : xo N ex (N.hd a) ≤ sm (xo N ex) N.V := sm_ge (xo_nn S.xn) hyV
    have h3 : xo N ex (N.hd a) = ex (N.hd a) := by simp [xo, hn]
    have h4 := S.xs
    have h5 := htd hn
    rw [IntKind.wrap_i64]
    omega
  refine ⟨by omega, ?_, ?_, ?_, ?_, ?_, ?_, ?_, ?_, ?_, ?_⟩
  · intro b hb
    by_cases h1 : b = a
    · rw [h1, rA]; omega
    · by_cases h2 : b = tw a
      · rw [h2, rT]; omega
      · rw [r1 b h1 h2]; exact S.rn b hb
  · intro b hb
    by_cases h1 : b = a
    · rw [h1, rA, rT]; omega
    · by_cases h2 : b = tw a
      · rw [h2, tw_tw, rA, rT]; have := S.rp (tw a) htm; rw [tw_tw] at this; omega
      · have h3 : tw b ≠ a := fun e => h2 (by rw [← e, tw_tw])
        have h4 : tw b ≠ tw a := fun e => h1 (by rw [← tw_tw b, e, tw_tw])
        rw [r1 b h1 h2, r1 _ h3 h4]
        exact S.rp b hb
  · intro b hb h1 h2
    have h3 : b ≠ a := fun e => h1 (by rw [e]; exact hat)
    have h4 : b ≠ tw a := fun e => h2 (by rw [e]; exact hthd)
    rw [r1 b h3 h4]
    exact S.far b hb h1 h2
  · intro i hi hil hn
    have h3 : N.arc N.s i ≠ a := fun e => by
      have := ok.inj N.s i j ok.s hil hj (by rw [e, ea])
      omega
    have h4 : N.arc N.s i ≠ tw a := fun e => hn (by rw [e]; exact hthd)
    rw [r1 _ h3 h4]
    exact S.todo i (by omega) hil hn
  · intro i hi hn
    by_cases e : i = j
    · subst e; rw [ea]; exact rA
    · have h3 : N.arc N.s i ≠ a := fun e2 => e (ok.inj N.s i j ok.s (by omega) hj (by rw [e2, ea]))
      have h4 : N.arc N.s i ≠ tw a := fun e => hn (by rw [e]; exact hthd)
      rw [r1 _ h3 h4]
      exact S.did i (by omega) hn
  · intro v hv hvs
    unfold exS
    by_cases e : v = N.hd a
    · subst e
      rw [if_pos rfl, hwrap hvs]
      have := S.xn _ hv hvs
      omega
    · rw [if_neg e]; exact S.xn v hv hvs
  · rw [hstep]
    by_cases e : N.hd a = N.s
    · have h1 : sm (xo N (exS ex (N.hd a) (r a))) N.V = sm (xo N ex) N.V := sm_congr (fun v hv => by
        unfold xo exS
        by_cases e2 : v = N.s
        · simp [e2]
        · simp [e2, e])
      rw [h1]
      have := S.xs
      omega
    · have h1 : sm (xo N (exS ex (N.hd a) (r a))) N.V = sm (fun v => if v = N.hd a then xo N ex v + r a else xo N ex v) N.V := sm_congr (fun v hv => by
        unfold exS
        by_cases e2 : v = N.hd a
        · subst e2
          simp [xo, e, hwrap e]
        · simp [xo, e2])
      rw [h1, sm_upd _ _ _ hyV]
      have := S.xs
      have := htd e
      omega
  · intro v hv hvs
    rw [bal_upd ok _ htm _ hv, bal_upd ok _ ha _ hv, httl, hat]
    have := S.xr v hv hvs
    unfold exS
    by_cases e : v = N.hd a
    · subst e
      rw [if_pos rfl, hwrap hvs]
      simp [hvs]
      omega
    · simp [e, hvs]
      omega
  · intro v hv h1 h2 h4
    unfold exS at h4
    by_cases e : v = N.hd a
    · subst e
      rw [if_pos rfl, hwrap h1] at h4
      cases hq : qd (N.hd a) with
      | true => simp
      | false =>
        by_cases hp : 0 < r a
        · rw [hB, hq]; simp [hp, h1, h2]
        · have := S.act _ hv h1 h2 (by omega)
          rw [hq] at this
          cases this
    · rw [if_neg e] at h4
      simp [e]
      exact S.act v hv h1 h2 h4
  · by_cases hp : 0 < r a
    · exact S.qok.enq hyV B (by rw [hB]; simp [hp])
    · have hBf : B = false := by rw [hB]; simp [hp]
      rw [hBf]
      simpa using S.qok

/-- .. and push-relabel may begin -/
theorem SI.done {N : Net} (ok : NetOk N) {r0 r : Nat → Int} {ex : Nat → Int} {qd : Nat → Bool} {q : List Nat} (C : Cap N r0) (S : SI N r0 r ex qd q (N.L N.s)) {d : Nat → Nat} (D : Dist N r0 d) :
    PR N r0 (fun _ => False) r (fun v => if v = N.s then N.V else d v) ex (fun _ => 0) qd q := by
  obtain ⟨h', e'⟩ : ∃ h' : Nat → Nat, (fun v => if v = N.s then N.V else d v) = h' := ⟨_, rfl⟩
  have hs' : h' N.s = N.V := by rw [← e']; simp
  have ho : ∀ v, v ≠ N.s → h' v = d v := fun v hv => by rw [← e']; simp [hv]
  rw [e']
  have hle : ∀ v, v < N.V → h' v ≤ N.V := fun v hv => by
    by_cases e : v = N.s
    · rw [e, hs']; exact Nat.le_refl _
    · rw [ho v e]; exact D.le v hv
  refine ⟨S.rn, S.rp, hs', by rw [ho _ (fun e => ok.st e.symm)]; exact D.t, hle, fun a ha hr hts => ?_, fun a ha h1 h2 => ?_, S.xn, Int.le_trans S.xs C.out, S.xr, fun v hv h1 h2 _ h4 => .inl (S.act v hv h1 h2 h4), S.qok, fun v hv => Nat.zero_le _, fun v hv hvs j hj => by omega⟩
  · by_cases e : N.hd a = N.s
    · rw [e, hs']
      have := hle _ (ok.tl ha)
      omega
    · rw [ho _ hts, ho _ e]
      exact D.step a ha (by rw [← S.far a ha hts e]; exact hr)
  · obtain ⟨j, hj, e⟩ := ok.all a ha
    rw [h1] at hj e
    have := S.did j hj (by rw [e]; exact h2)
    rw [e] at this
    exact this
end Go.Proofs.Qxb6602686a
