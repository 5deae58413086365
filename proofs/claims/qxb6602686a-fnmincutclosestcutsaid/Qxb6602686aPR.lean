import Derived.Test.Qxb6602686aSum
namespace Go.Proofs.Qxb6602686a

def mx63 : Int := 9223372036854775807
/-- the capacities as they came in -/
structure Cap (N : Net) (r0 : Nat → Int) : Prop where
  nn : ∀ a, a < N.m → 0 ≤ r0 a
  two : ∀ a, a < N.m → r0 a + r0 (tw a) ≤ 9223372036854775807
  out : sm (fun j => r0 (N.arc N.s j)) (N.L N.s) ≤ 9223372036854775807
/-- what waits and what is marked -/
structure QOk (N : Net) (qd : Nat → Bool) (q : List Nat) : Prop where
  nd : q.Nodup
  mem : ∀ v, v ∈ q → v < N.V ∧ v ≠ N.s ∧ v ≠ N.t
  mark : ∀ v, v < N.V → (qd v = true ↔ v ∈ q)
def xo (N : Net) (ex : Nat → Int) : Nat → Int := fun v => if v = N.s then 0 else ex v

/-- push-relabel's state; the nodes of E may be active without waiting -/
structure PR (N : Net) (r0 : Nat → Int) (E : Nat → Prop) (r : Nat → Int) (h : Nat → Nat) (ex : Nat → Int) (cur : Nat → Nat) (qd : Nat → Bool) (q : List Nat) : Prop where
  rn : ∀ a, a < N.m → 0 ≤ r a
  rp : ∀ a, a < N.m → r a + r (tw a) = r0 a + r0 (tw a)
  hs : h N.s = N.V
  ht : h N.t = 0
  hV : ∀ v, v < N.V → h v ≤ N.V
  val : ∀ a, a < N.m → 0 < r a → N.tl a ≠ N.s → h (N.tl a) ≤ h (N.hd a) + 1
  src : ∀ a, a < N.m → N.tl a = N.s → N.hd a ≠ N.s → r a = 0
  xn : ∀ v, v < N.V → v ≠ N.s → 0 ≤ ex v
  xs : sm (xo N ex) N.V ≤ 9223372036854775807
  xr : ∀ v, v < N.V → v ≠ N.s → ex v = N.bal r v - N.bal r0 v
  act : ∀ v, v < N.V → v ≠ N.s → v ≠ N.t → ¬ E v → 0 < ex v → qd v = true ∨ h v = N.V
  qok : QOk N qd q
  cl : ∀ v, v < N.V → cur v ≤ N.L v
  ca : ∀ v, v < N.V → v ≠ N.s → ∀ j, j < cur v → 0 < r (N.arc v j) → h v ≤ h (N.hd (N.arc v j))

theorem xo_nn {N : Net} {ex : Nat → Int} (h : ∀ v, v < N.V → v ≠ N.s → 0 ≤ ex v) : ∀ v, v < N.V → 0 ≤ xo N ex v := fun v hv => by
  unfold xo
  by_cases e : v = N.s
  · rw [if_pos e]; omega
  · rw [if_neg e]; exact h v hv e

theorem QOk.len {N : Net} {qd : Nat → Bool} {q : List Nat} (h : QOk N qd q) : q.length ≤ N.V := nodup_len h.nd (fun v hv => (h.mem v hv).1)
theorem QOk.pop {N : Net} {qd : Nat → Bool} {x : Nat} {q : List Nat} (h : QOk N qd (x :: q)) : QOk N (fun v => if v = x then false else qd v) q := by
  have hn := List.nodup_cons.1 h.nd
  refine ⟨hn.2, fun v hv => h.mem v (by simp [hv]), fun v hv => ?_⟩
  by_cases e : v = x
  · subst e
    simp [hn.1]
  · simp only [e, if_false]
    rw [h.mark v hv]
    simp [e]
theorem QOk.enq {N : Net} {qd : Nat → Bool} {q : List Nat} (h : QOk N qd q) {v : Nat} (hv : v < N.V) (B : Bool) (hB : B = (!qd v && decide (v ≠ N.s) && decide (v ≠ N.t))) :
    QOk N (fun u => if B = true ∧ u = v then true else qd u) (if B = true then q ++ [v] else q) := by
  cases B with
  | false => simpa using h
  | true =>
    have hB' := hB.symm
    simp only [Bool.and_eq_true, Bool.not_eq_true', decide_eq_true_eq] at hB'
    have hnq : v ∉ q := fun hm => by have := (h.mark v hv).2 hm; rw [hB'.1.1] at this; cases this
    simp only [true_and, if_true]
    refine ⟨?_, fun u hu => ?_, fun u hu => ?_⟩
    · rw [List.nodup_append]
      refine ⟨h.nd, by simp, fun a ha b hb => ?_⟩
      simp at hb
      rw [hb]
      exact fun e => hnq (by rw [← e]; exact ha)
    · rcases List.mem_append.1 hu with h1 | h1
      · exact h.mem u h1
      · simp at h1; rw [h1]; exact ⟨hv, hB'.1.2, hB'.2⟩
    · by_cases e : u = v
      · simp [e]
      · simp [e]
        exact h.mark u hu

section
variable {N : Net} {r0 r : Nat → Int} {h : Nat → Nat} {ex : Nat → Int} {cur : Nat → Nat} {qd : Nat → Bool} {q : List Nat}

theorem PR.pop {x : Nat} (P : PR N r0 (fun _ => False) r h ex cur qd (x :: q)) : PR N r0 (fun v => v = x) r h ex cur (fun v => if v = x then false else qd v) q :=
  ⟨P.rn, P.rp, P.hs, P.ht, P.hV, P.val, P.src, P.xn, P.xs, P.xr, fun v hv h1 h2 h3 h4 => by
    simp only [h3, if_false]
    exact P.act v hv h1 h2 (fun h => h) h4, P.qok.pop, P.cl, P.ca⟩
theorem PR.done {x : Nat} (P : PR N r0 (fun v => v = x) r h ex cur qd q) (hx : ex x ≤ 0 ∨ N.V ≤ h x) : PR N r0 (fun _ => False) r h ex cur qd q :=
  ⟨P.rn, P.rp, P.hs, P.ht, P.hV, P.val, P.src, P.xn, P.xs, P.xr, fun v hv h1 h2 _ h4 => by
    by_cases e : v = x
    · subst e
      rcases hx with hx | hx
      · omega
      · exact .inr (by have := P.hV v hv; omega)
    · exact P.act v hv h1 h2 e h4, P.qok, P.cl, P.ca⟩
theorem PR.relabel {x low : Nat} (P : PR N r0 (fun v => v = x) r h ex cur qd q) (ok : NetOk N) (hx : x < N.V) (hxs : x ≠ N.s) (hxt : x ≠ N.t) (hc : cur x = N.L x) (hl : h x < N.V) (top : low + 1 ≤ N.V)
    (le : ∀ i, i < N.L x → 0 < r (N.arc x i) → low ≤ h (N.hd (N.arc x i))) (at_ : low + 1 = N.V ∨ ∃ i, i < N.L x ∧ 0 < r (N.arc x i) ∧ low = h (N.hd (N.arc x i))) :
    h x < low + 1 ∧ PR N r0 (fun v => v = x) r (fun v => if v = x then low + 1 else h v) ex (fun v => if v = x then 0 else cur v) qd q := by
  have hlow : h x ≤ low := by
    rcases at_ with e | ⟨i, hi, hr, e⟩
    · omega
    · rw [e]; exact P.ca x hx hxs i (by omega) hr
  obtain ⟨h', e'⟩ : ∃ h' : Nat → Nat, (fun v => if v = x then low + 1 else h v) = h' := ⟨_, rfl⟩
  have hx' : h' x = low + 1 := by rw [← e']; simp
  have ho : ∀ v, v ≠ x → h' v = h v := fun v hv => by rw [← e']; simp [hv]
  have hge : ∀ v, h v ≤ h' v := fun v => by
    by_cases e : v = x
    · rw [e, hx']; omega
    · rw [ho v e]; omega
  refine ⟨by omega, ?_⟩
  rw [e']
  refine ⟨P.rn, P.rp, by rw [ho _ (fun e => hxs e.symm)]; exact P.hs, by rw [ho _ (fun e => hxt e.symm)]; exact P.ht, fun v hv => ?_, fun a ha hr hts => ?_, P.src, P.xn, P.xs, P.xr, fun v hv h1 h2 h3 h4 => ?_, P.qok, fun v hv => ?_, fun v hv hvs j hj hr => ?_⟩
  · by_cases e : v = x
    · rw [e, hx']; exact top
    · rw [ho v e]; exact P.hV v hv
  · by_cases e : N.tl a = x
    · obtain ⟨j, hj, ej⟩ := ok.all a ha
      rw [e] at hj ej
      have := le j hj (by rw [ej]; exact hr)
      rw [ej] at this
      have := hge (N.hd a)
      rw [e, hx']
      omega
    · rw [ho _ e]
      have := P.val a ha hr hts
      have := hge (N.hd a)
      omega
  · rw [ho v h3]; exact P.act v hv h1 h2 h3 h4
  · by_cases e : v = x
    · simp [e]
    · simp only [e, if_false]; exact P.cl v hv
  · by_cases e : v = x
    · simp [e] at hj
    · simp only [e, if_false] at hj
      rw [ho v e]
      have := P.ca v hv hvs j hj hr
      have := hge (N.hd (N.arc v j))
      omega
theorem PR.skip {x : Nat} (P : PR N r0 (fun v => v = x) r h ex cur qd q) (ok : NetOk N) (hx : x < N.V) (hxs : x ≠ N.s) (hc : cur x < N.L x) (hn : r (N.arc x (cur x)) = 0 ∨ h x ≠ h (N.hd (N.arc x (cur x))) + 1) :
    PR N r0 (fun v => v = x) r h ex (fun v => if v = x then cur x + 1 else cur v) qd q := by
  refine ⟨P.rn, P.rp, P.hs, P.ht, P.hV, P.val, P.src, P.xn, P.xs, P.xr, P.act, P.qok, fun v hv => ?_, fun v hv hvs j hj hr => ?_⟩
  · by_cases e : v = x
    · simp [e]; exact hc
    · simp only [e, if_false]; exact P.cl v hv
  · by_cases e : v = x
    · subst e
      simp only [if_true] at hj
      by_cases e2 : j = cur v
      · subst e2
        obtain ⟨ha, ht⟩ := ok.arc v (cur v) hv hc
        have := P.val _ ha hr (by rw [ht]; exact hvs)
        rw [ht] at this
        rcases hn with h1 | h1 <;> omega
      · exact P.ca v hv hvs j (by omega) hr
    · simp only [e, if_false] at hj
      exact P.ca v hv hvs j hj hr
/-- one push along the arc a of x -/
theorem PR.push {x a : Nat} {f : Int} (P : PR N r0 (fun v => v = x) r h ex cur qd q) (ok : NetOk N) (hx : x < N.V) (hxs : x ≠ N.s) (ha : a < N.m) (hat : N.tl a = x) (hh : h x = h (N.hd a) + 1)
    (hf0 : 0 < f) (hfe : f ≤ ex x) (hfr : f ≤ r a) (B : Bool) (hB : B = (!qd (N.hd a) && decide (N.hd a ≠ N.s) && decide (N.hd a ≠ N.t))) :
    N.hd a ≠ x ∧ N.hd a ≠ N.s ∧ ex (N.hd a) + f ≤ 9223372036854775807 ∧
    PR N r0 (fun v => v = x) (upd (upd r a (-f)) (tw a) f) h (upd (upd ex x (-f)) (N.hd a) f) cur (fun u => if B = true ∧ u = N.hd a then true else qd u) (if B = true then q ++ [N.hd a] else q) := by
  have hyV := ok.hd a ha
  have htm := tw_lt ok.even ha
  have hyx : N.hd a ≠ x := fun e => by rw [e] at hh; omega
  have hys : N.hd a ≠ N.s := fun e => by
    have h1 := P.hV x hx
    rw [e, P.hs] at hh
    omega
  have hnn := xo_nn P.xn
  have h2 := sm_ge2 hnn hx hyV (fun e => hyx e.symm)
  have hsum : ex x + ex (N.hd a) ≤ 9223372036854775807 := by
    have h3 : xo N ex x = ex x := by simp [xo, hxs]
    have h4 : xo N ex (N.hd a) = ex (N.hd a) := by simp [xo, hys]
    have := P.xs
    omega
  have r1 : ∀ b, b ≠ a → b ≠ tw a → upd (upd r a (-f)) (tw a) f b = r b := fun b h1 h2 => by simp [upd, h1, h2]
  have ra : upd (upd r a (-f)) (tw a) f a = r a - f := by simp [upd, (tw_ne a).symm]; omega
  have rt : upd (upd r a (-f)) (tw a) f (tw a) = r (tw a) + f := by simp [upd, tw_ne a]
  have e1 : ∀ v, v ≠ x → v ≠ N.hd a → upd (upd ex x (-f)) (N.hd a) f v = ex v := fun v h1 h2 => by simp [upd, h1, h2]
  have ex1 : upd (upd ex x (-f)) (N.hd a) f x = ex x - f := by simp [upd, hyx.symm]; omega
  have ey : upd (upd ex x (-f)) (N.hd a) f (N.hd a) = ex (N.hd a) + f := by simp [upd, hyx]
  have httl : N.tl (tw a) = N.hd a := N.tl_tw a
  have hthd : N.hd (tw a) = x := hat
  refine ⟨hyx, hys, by omega, ?_, ?_, P.hs, P.ht, P.hV, ?_, ?_, ?_, ?_, ?_, ?_, P.qok.enq hyV B hB, P.cl, ?_⟩
  · intro b hb
    by_cases h1 : b = a
    · rw [h1, ra]; omega
    · by_cases h2 : b = tw a
      · rw [h2, rt]; have := P.rn (tw a) htm; omega
      · rw [r1 b h1 h2]; exact P.rn b hb
  · intro b hb
    by_cases h1 : b = a
    · rw [h1, ra, rt]; have := P.rp a ha; omega
    · by_cases h2 : b = tw a
      · rw [h2, tw_tw, ra, rt]; have := P.rp (tw a) htm; rw [tw_tw] at this; omega
      · have h3 : tw b ≠ a := fun e => h2 (by rw [← e, tw_tw])
        have h4 : tw b ≠ tw a := fun e => h1 (by rw [← tw_tw b, e, tw_tw])
        rw [r1 b h1 h2, r1 _ h3 h4]
        exact P.rp b hb
  · intro b hb hr hts
    by_cases h1 : b = a
    · rw [h1] at hr hts ⊢
      rw [ra] at hr
      exact P.val a ha (by omega) hts
    · by_cases h2 : b = tw a
      · rw [h2, httl, hthd]; omega
      · rw [r1 b h1 h2] at hr
        exact P.val b hb hr hts
  · intro b hb h1 h2
    have h3 : b ≠ a := fun e => hxs (by rw [← hat, ← e, h1])
    have h4 : b ≠ tw a := fun e => hys (by rw [← httl, ← e, h1])
    rw [r1 b h3 h4]
    exact P.src b hb h1 h2
  · intro v hv hvs
    by_cases h1 : v = x
    · rw [h1, ex1]; omega
    · by_cases h2 : v = N.hd a
      · rw [h2, ey]; have := P.xn _ hyV hys; omega
      · rw [e1 v h1 h2]; exact P.xn v hv hvs
  · have h3 : sm (xo N (upd (upd ex x (-f)) (N.hd a) f)) N.V = sm (xo N ex) N.V := by
      have h4 : sm (xo N (upd (upd ex x (-f)) (N.hd a) f)) N.V = sm (fun j => if j = N.hd a then (fun i => if i = x then xo N ex i + (-f) else xo N ex i) j + f else (fun i => if i = x then xo N ex i + (-f) else xo N ex i) j) N.V := by
        refine sm_congr (fun v hv => ?_)
        unfold xo upd
        by_cases e1 : v = N.hd a
        · subst e1; simp [hyx, hys]
        · by_cases e2 : v = x
          · subst e2; simp [hxs]
          · simp [e1, e2]
      rw [h4, sm_upd _ _ _ hyV, sm_upd _ _ _ hx]
      omega
    rw [h3]; exact P.xs
  · intro v hv hvs
    rw [bal_upd ok _ htm _ hv, bal_upd ok _ ha _ hv, httl, hat]
    have := P.xr v hv hvs
    by_cases h1 : v = x
    · subst h1
      rw [ex1]
      simp [hyx.symm]
      omega
    · by_cases h2 : v = N.hd a
      · subst h2
        rw [ey]
        simp [hyx]
        omega
      · rw [e1 v h1 h2]
        simp [h1, h2]
        omega
  · intro v hv h1 h2 h3 h4
    by_cases e : v = N.hd a
    · subst e
      left
      cases hq : qd (N.hd a) with
      | true => simp
      | false =>
        rw [hB, hq]
        simp [h1, h2]
    · rw [e1 v h3 e] at h4
      rcases P.act v hv h1 h2 h3 h4 with h5 | h5
      · left; simp [e, h5]
      · exact .inr h5
  · intro v hv hvs j hj hr
    by_cases h2 : N.arc v j = tw a
    · have := (ok.arc v j hv (by have := P.cl v hv; omega)).2
      rw [h2, httl] at this
      rw [h2, hthd, ← this]
      omega
    · by_cases h1 : N.arc v j = a
      · rw [h1, ra] at hr
        exact P.ca v hv hvs j hj (by rw [h1]; omega)
      · rw [r1 _ h1 h2] at hr
        exact P.ca v hv hvs j hj hr
end
end Go.Proofs.Qxb6602686a
