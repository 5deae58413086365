import Derived.Test.Qxb6602686aFit
namespace Go.Proofs.Qxb6602686a

/-! ### the network, plainly -/
structure Net where
  V : Nat
  m : Nat
  L : Nat → Nat
  arc : Nat → Nat → Nat
  hd : Nat → Nat
  s : Nat
  t : Nat
/-- the arc beside -/
def tw (a : Nat) : Nat := a ^^^ 1
def Net.tl (N : Net) (a : Nat) : Nat := N.hd (tw a)
theorem tw_eq (a : Nat) : tw a = if a % 2 = 0 then a + 1 else a - 1 := by
  unfold tw
  have h1 : (a ^^^ 1) / 2 = a / 2 := by rw [Nat.xor_div_two]; simp
  have h2 : (a ^^^ 1) % 2 = (a + 1) % 2 := by
    have := @Nat.xor_mod_two_eq_one a 1
    omega
  split <;> omega
theorem tw_tw (a : Nat) : tw (tw a) = a := by
  rw [tw_eq (tw a), tw_eq a]
  split <;> split <;> omega
theorem tw_ne (a : Nat) : tw a ≠ a := by
  rw [tw_eq a]
  split <;> omega
theorem tw_lt {a m : Nat} (hm : m % 2 = 0) (h : a < m) : tw a < m := by
  rw [tw_eq a]
  split <;> omega
structure NetOk (N : Net) : Prop where
  s : N.s < N.V
  t : N.t < N.V
  st : N.s ≠ N.t
  even : N.m % 2 = 0
  hd : ∀ a, a < N.m → N.hd a < N.V
  arc : ∀ v j, v < N.V → j < N.L v → N.arc v j < N.m ∧ N.tl (N.arc v j) = v
  all : ∀ a, a < N.m → ∃ j, j < N.L (N.tl a) ∧ N.arc (N.tl a) j = a
  inj : ∀ v i j, v < N.V → i < N.L v → j < N.L v → N.arc v i = N.arc v j → i = j
theorem Net.tl_tw (N : Net) (a : Nat) : N.tl (tw a) = N.hd a := by unfold Net.tl; rw [tw_tw]
theorem NetOk.tl {N : Net} (h : NetOk N) {a : Nat} (ha : a < N.m) : N.tl a < N.V := h.hd _ (tw_lt h.even ha)

/-- d is the distance to the sink along arcs with room (V where there is none) -/
structure Dist (N : Net) (r : Nat → Int) (d : Nat → Nat) : Prop where
  le : ∀ v, v < N.V → d v ≤ N.V
  t : d N.t = 0
  step : ∀ a, a < N.m → 0 < r a → d (N.tl a) ≤ d (N.hd a) + 1
  shut : ∀ a, a < N.m → 0 < r a → d (N.hd a) < N.V → d (N.tl a) < N.V
  par : ∀ v, v < N.V → v ≠ N.t → d v < N.V → ∃ a, a < N.m ∧ 0 < r a ∧ N.tl a = v ∧ d (N.hd a) + 1 = d v

/-- the sweep from the sink: D is done, q waits -/
structure Bfs (N : Net) (r : Nat → Int) (h : Nat → Nat) (D q : List Nat) : Prop where
  nd : (D ++ q).Nodup
  lt : ∀ y, y ∈ D ++ q → y < N.V
  le : ∀ i y, (D ++ q)[i]? = some y → h y ≤ i
  out : ∀ v, v < N.V → v ∉ D ++ q → h v = N.V
  t0 : h N.t = 0
  tm : N.t ∈ D ++ q
  mono : (D ++ q).Pairwise (fun a b => h a ≤ h b)
  near : ∀ y z, y ∈ q → z ∈ q → h z ≤ h y + 1
  done : ∀ a, a < N.m → 0 < r a → N.hd a ∈ D → N.tl a ∈ D ++ q ∧ h (N.tl a) ≤ h (N.hd a) + 1
  par : ∀ y, y ∈ D ++ q → y ≠ N.t → ∃ a, a < N.m ∧ 0 < r a ∧ N.tl a = y ∧ h (N.hd a) + 1 = h y
/-- the same, while the arcs of x are looked at: j of them are -/
structure BfsI (N : Net) (r : Nat → Int) (h : Nat → Nat) (D : List Nat) (x : Nat) (q : List Nat) (j : Nat) : Prop where
  nd : (D ++ x :: q).Nodup
  lt : ∀ y, y ∈ D ++ x :: q → y < N.V
  le : ∀ i y, (D ++ x :: q)[i]? = some y → h y ≤ i
  out : ∀ v, v < N.V → v ∉ D ++ x :: q → h v = N.V
  t0 : h N.t = 0
  tm : N.t ∈ D ++ x :: q
  mono : (D ++ x :: q).Pairwise (fun a b => h a ≤ h b)
  near : ∀ y, y ∈ q → h y ≤ h x + 1
  done : ∀ a, a < N.m → 0 < r a → N.hd a ∈ D → N.tl a ∈ D ++ x :: q ∧ h (N.tl a) ≤ h (N.hd a) + 1
  part : ∀ i, i < j → 0 < r (tw (N.arc x i)) → N.hd (N.arc x i) ∈ D ++ x :: q
  par : ∀ y, y ∈ D ++ x :: q → y ≠ N.t → ∃ a, a < N.m ∧ 0 < r a ∧ N.tl a = y ∧ h (N.hd a) + 1 = h y

theorem nodup_len {V : Nat} {l : List Nat} (hd : l.Nodup) (h : ∀ y, y ∈ l → y < V) : l.length ≤ V := by
  induction V generalizing l with
  | zero =>
    cases l with
    | nil => simp
    | cons y l => have := h y (by simp); omega
  | succ V ih =>
    have h1 := ih (hd.erase V) (fun y hy => by
      have h2 := (List.Nodup.mem_erase_iff hd).1 hy
      have := h y h2.2
      have := h2.1
      omega)
    have h3 := List.length_erase (a := V) (l := l)
    split at h3 <;> omega

theorem Bfs.start {N : Net} (ok : NetOk N) (r : Nat → Int) (h : Nat → Nat) (ht : h N.t = 0) (hv : ∀ v, v < N.V → v ≠ N.t → h v = N.V) : Bfs N r h [] [N.t] where
  nd := by simp
  lt := by intro y hy; simp at hy; rw [hy]; exact ok.t
  le := by
    intro i y hy
    cases i with
    | zero => simp at hy; rw [← hy, ht]; omega
    | succ i => simp at hy
  out := by intro v h1 h2; simp at h2; exact hv v h1 h2
  t0 := ht
  tm := by simp
  mono := by simp
  near := by intro y z hy hz; simp at hy hz; rw [hy, hz]; omega
  done := by intro a _ _ h; simp at h
  par := by intro y hy hn; simp at hy; exact absurd hy hn
theorem Bfs.open {N : Net} {r : Nat → Int} {h : Nat → Nat} {D q : List Nat} {x : Nat} (b : Bfs N r h D (x :: q)) : BfsI N r h D x q 0 where
  nd := b.nd
  lt := b.lt
  le := b.le
  out := b.out
  t0 := b.t0
  tm := b.tm
  mono := b.mono
  near := fun y hy => b.near x y (by simp) (by simp [hy])
  done := b.done
  part := fun i hi => by omega
  par := b.par
theorem BfsI.skip {N : Net} {r : Nat → Int} {h : Nat → Nat} {D q : List Nat} {x j : Nat} (b : BfsI N r h D x q j) (hs : 0 < r (tw (N.arc x j)) → h (N.hd (N.arc x j)) ≠ N.V) (hh : N.hd (N.arc x j) < N.V) : BfsI N r h D x q (j + 1) := by
  refine ⟨b.nd, b.lt, b.le, b.out, b.t0, b.tm, b.mono, b.near, b.done, fun i hi hr => ?_, b.par⟩
  by_cases e : i = j
  · subst e
    exact Classical.byContradiction (fun hn => hs hr (b.out _ hh hn))
  · exact b.part i (by omega) hr
theorem BfsI.hlt {N : Net} {r : Nat → Int} {h : Nat → Nat} {D q : List Nat} {x j : Nat} (b : BfsI N r h D x q j) {y : Nat} (hy : y ∈ D ++ x :: q) : h y < N.V := by
  obtain ⟨i, hi, e⟩ := List.getElem_of_mem hy
  have h1 := b.le i y (by rw [List.getElem?_eq_getElem hi, e])
  have h2 := nodup_len b.nd b.lt
  omega
theorem BfsI.add {N : Net} (ok : NetOk N) {r : Nat → Int} {h : Nat → Nat} {D q : List Nat} {x j : Nat} (b : BfsI N r h D x q j) (hj : j < N.L x) (hr : 0 < r (tw (N.arc x j))) (hv : h (N.hd (N.arc x j)) = N.V) :
    BfsI N r (fun v => if v = N.hd (N.arc x j) then h x + 1 else h v) D x (q ++ [N.hd (N.arc x j)]) (j + 1) := by
  have hx : x ∈ D ++ x :: q := by simp
  have hxV := b.lt x hx
  obtain ⟨ham, hat⟩ := ok.arc x j hxV hj
  have hyV : N.hd (N.arc x j) < N.V := ok.hd _ ham
  generalize hy : N.hd (N.arc x j) = y at *
  have hny : y ∉ D ++ x :: q := fun hm => by have := b.hlt hm; omega
  have hne : ∀ z, z ∈ D ++ x :: q → z ≠ y := fun z hz e => hny (by rw [← e]; exact hz)
  obtain ⟨h', e'⟩ : ∃ h' : Nat → Nat, (fun v => if v = y then h x + 1 else h v) = h' := ⟨_, rfl⟩
  rw [e']
  have hother : ∀ z, z ≠ y → h' z = h z := fun z hz => by rw [← e']; simp [hz]
  have hsame : ∀ z, z ∈ D ++ x :: q → h' z = h z := fun z hz => hother z (hne z hz)
  have hxs : h' x = h x := hsame x hx
  have hnew : h' y = h x + 1 := by rw [← e']; simp
  have eL : D ++ x :: (q ++ [y]) = (D ++ x :: q) ++ [y] := by simp
  have hmem : ∀ z, z ∈ D ++ x :: (q ++ [y]) ↔ z ∈ D ++ x :: q ∨ z = y := fun z => by rw [eL, List.mem_append]; simp
  have hall : ∀ z, z ∈ D ++ x :: q → h z ≤ h x + 1 := fun z hz => by
    rcases List.mem_append.1 hz with h1 | h1
    · have := (List.pairwise_append.1 b.mono).2.2 z h1 x (by simp)
      omega
    · rcases List.mem_cons.1 h1 with h2 | h2
      · rw [h2]; omega
      · exact b.near z h2
  refine ⟨?_, ?_, ?_, ?_, ?_, ?_, ?_, ?_, ?_, ?_, ?_⟩
  · rw [eL, List.nodup_append]
    refine ⟨b.nd, by simp, fun z hz w hw => ?_⟩
    simp at hw
    rw [hw]
    exact hne z hz
  · intro z hz
    rcases (hmem z).1 hz with h1 | h1
    · exact b.lt z h1
    · rw [h1]; exact hyV
  · intro i z hz
    rw [eL, List.getElem?_append] at hz
    by_cases hi : i < (D ++ x :: q).length
    · rw [if_pos hi] at hz
      rw [hsame z (List.mem_of_getElem? hz)]
      exact b.le i z hz
    · rw [if_neg hi] at hz
      have : z = y := by
        have := List.mem_of_getElem? hz
        simpa using this
      rw [this, hnew]
      obtain ⟨k, hk⟩ : ∃ k, D.length = k := ⟨_, rfl⟩
      have h1 := b.le D.length x (by simp)
      simp at hi
      omega
  · intro v hvV hn
    have h1 : v ∉ D ++ x :: q ∧ v ≠ y := ⟨fun h => hn ((hmem v).2 (.inl h)), fun h => hn ((hmem v).2 (.inr h))⟩
    rw [hother v h1.2]
    exact b.out v hvV h1.1
  · rw [hsame _ b.tm]; exact b.t0
  · exact (hmem _).2 (.inl b.tm)
  · rw [eL, List.pairwise_append]
    refine ⟨b.mono.imp_of_mem (fun {u v} hu hv huv => by rw [hsame u hu, hsame v hv]; exact huv), by simp, fun u hu v hv => ?_⟩
    simp at hv
    rw [hv, hnew, hsame u hu]
    exact hall u hu
  · intro z hz
    rw [hxs]
    rcases List.mem_append.1 hz with h1 | h1
    · rw [hsame z (by simp [h1])]; exact b.near z h1
    · simp at h1; rw [h1, hnew]; omega
  · intro a ha hra hin
    obtain ⟨h1, h2⟩ := b.done a ha hra hin
    refine ⟨(hmem _).2 (.inl h1), ?_⟩
    rw [hsame _ h1, hsame _ (by simp [hin])]
    exact h2
  · intro i hi hri
    by_cases e : i = j
    · subst e
      rw [hy]
      exact (hmem _).2 (.inr rfl)
    · exact (hmem _).2 (.inl (b.part i (by omega) hri))
  · intro z hz hzt
    rcases (hmem z).1 hz with h1 | h1
    · obtain ⟨a, ha, hra, e1, e2⟩ := b.par z h1 hzt
      refine ⟨a, ha, hra, e1, ?_⟩
      have hin : N.hd a ∈ D ++ x :: q := by
        refine Classical.byContradiction (fun hn => ?_)
        have h3 := b.out _ (ok.hd a ha) hn
        have h4 := b.hlt h1
        omega
      rw [hsame _ hin, hsame _ h1]
      exact e2
    · refine ⟨tw (N.arc x j), tw_lt ok.even ham, hr, ?_, ?_⟩
      · rw [Net.tl_tw, hy, h1]
      · have : N.hd (tw (N.arc x j)) = x := hat
        rw [this, hxs, h1, hnew]
theorem BfsI.close {N : Net} (ok : NetOk N) {r : Nat → Int} {h : Nat → Nat} {D q : List Nat} {x : Nat} (b : BfsI N r h D x q (N.L x)) : Bfs N r h (D ++ [x]) q := by
  have eL : (D ++ [x]) ++ q = D ++ x :: q := by simp
  refine ⟨by rw [eL]; exact b.nd, by rw [eL]; exact b.lt, by rw [eL]; exact b.le, by rw [eL]; exact b.out, b.t0, by rw [eL]; exact b.tm, by rw [eL]; exact b.mono, ?_, ?_, by rw [eL]; exact b.par⟩
  · intro y z hy hz
    have h1 := b.near z hz
    have h2 : h x ≤ h y := (List.pairwise_cons.1 (List.pairwise_append.1 b.mono).2.1).1 y hy
    omega
  · intro a ha hra hin
    rw [eL]
    rcases List.mem_append.1 hin with h1 | h1
    · exact b.done a ha hra h1
    · simp at h1
      have hx : x ∈ D ++ x :: q := by simp
      have e0 : N.tl (tw a) = x := by rw [Net.tl_tw, h1]
      obtain ⟨j, hj, e⟩ := ok.all (tw a) (tw_lt ok.even ha)
      rw [e0] at hj e
      have hm := b.part j hj (by rw [e, tw_tw]; exact hra)
      have e2 : N.hd (N.arc x j) = N.tl a := by rw [e]; rfl
      rw [e2] at hm
      refine ⟨hm, ?_⟩
      rw [h1]
      rcases List.mem_append.1 hm with h3 | h3
      · have := (List.pairwise_append.1 b.mono).2.2 _ h3 x (by simp)
        omega
      · rcases List.mem_cons.1 h3 with h4 | h4
        · rw [h4]; omega
        · exact b.near _ h4
theorem Bfs.dist {N : Net} (ok : NetOk N) {r : Nat → Int} {h : Nat → Nat} {D : List Nat} (b : Bfs N r h D []) : Dist N r h := by
  have hlt : ∀ y, y ∈ D → h y < N.V := fun y hy => by
    obtain ⟨i, hi, e⟩ := List.getElem_of_mem hy
    have h1 := b.le i y (by simp [List.getElem?_eq_getElem hi, e])
    have h2 := nodup_len (by simpa using b.nd) (fun y hy => b.lt y (by simpa using hy))
    omega
  have hin : ∀ v, v < N.V → h v < N.V → v ∈ D := fun v hv hl => Classical.byContradiction (fun hn => by
    have := b.out v hv (by simpa using hn)
    omega)
  refine ⟨fun v hv => ?_, b.t0, fun a ha hr => ?_, fun a ha hr hl => ?_, fun v hv hn hl => ?_⟩
  · by_cases hm : v ∈ D
    · exact Nat.le_of_lt (hlt v hm)
    · rw [b.out v hv (by simpa using hm)]; exact Nat.le_refl _
  · by_cases hm : N.hd a ∈ D
    · exact (b.done a ha hr hm).2
    · have h1 := b.out _ (ok.hd a ha) (by simpa using hm)
      rw [h1]
      by_cases hm2 : N.tl a ∈ D
      · have := hlt _ hm2; omega
      · rw [b.out _ (ok.tl ha) (by simpa using hm2)]; omega
  · exact hlt _ (by simpa using (b.done a ha hr (hin _ (ok.hd a ha) hl)).1)
  · exact b.par v (by simpa using hin v hv hl) hn
end Go.Proofs.Qxb6602686a
