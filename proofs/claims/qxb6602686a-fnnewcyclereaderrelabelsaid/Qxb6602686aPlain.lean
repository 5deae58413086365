import Derived.Test.Qxb6602686aZZ
namespace Go.Proofs.Qxb6602686a

/-! ### the plain law: two readers of one set of members -/
theorem usL_nodup {u : Nat → Int} {n : Nat} (hs : srt u n) : (usL u n).Nodup := by
  unfold usL
  rw [List.nodup_iff_pairwise_ne, List.pairwise_map]
  have h : (List.range n).Pairwise (fun a b => a < b ∧ b < n) := by
    have h1 := List.pairwise_lt_range (n := n)
    refine (List.pairwise_iff_getElem.2 ?_)
    intro i j hi hj hij
    simp only [List.getElem_range]
    exact ⟨hij, by simpa using hj⟩
  exact h.imp (fun {a b} hab e => by
    have := hs a b hab.1 hab.2
    omega)
theorem mem_usL {u : Nat → Int} {n : Nat} {t : Int} : t ∈ usL u n ↔ ∃ k, k < n ∧ u k = t := by
  unfold usL
  simp only [List.mem_map, List.mem_range]
theorem ids_perm {u : Nat → Int} {n : Nat} (hs : srt u n) {x : Int} (hx : ∃ i, i < n ∧ u i = x) : (usL u n).Perm (idsOf x (usL u n)) := by
  have h1 := List.perm_cons_erase (mem_usL.2 hx)
  rw [(usL_nodup hs).erase_eq_filter] at h1
  exact h1
theorem ids_length {u : Nat → Int} {n : Nat} (hs : srt u n) {x : Int} (hx : ∃ i, i < n ∧ u i = x) : (idsOf x (usL u n)).length = n := by
  rw [← (ids_perm hs hx).length_eq]
  simp [usL]
/-- what is known of a reader's ids -/
structure IdsOk (u : Nat → Int) (n : Nat) (ids : List Int) : Prop where
  len : ids.length = n
  nodup : ids.Nodup
  perm : (usL u n).Perm ids
theorem ids_ok {u : Nat → Int} {n : Nat} (hs : srt u n) {x : Int} (hx : ∃ i, i < n ∧ u i = x) : IdsOk u n (idsOf x (usL u n)) :=
  ⟨ids_length hs hx, (ids_perm hs hx).nodup_iff.1 (usL_nodup hs), ids_perm hs hx⟩
theorem posTo_some {ids : List Int} : ∀ {k : Nat} {t : Int} {j : Nat}, posTo ids k t = some j → j < k ∧ ids.getD j 0 = t
  | 0, _, _, h => by simp [posTo] at h
  | k + 1, t, j, h => by
    unfold posTo at h
    by_cases e : t = ids.getD k 0
    · rw [if_pos e] at h
      cases h
      exact ⟨by omega, e.symm⟩
    · rw [if_neg e] at h
      have := posTo_some h
      exact ⟨by omega, this.2⟩
theorem posTo_at {ids : List Int} (hd : ids.Nodup) : ∀ {k j : Nat}, j < k → k ≤ ids.length → posTo ids k (ids.getD j 0) = some j
  | 0, _, h, _ => by omega
  | k + 1, j, h, hk => by
    unfold posTo
    by_cases e : j = k
    · subst e; simp
    · have hne : ids.getD j 0 ≠ ids.getD k 0 := by
        intro h2
        rw [List.getD, List.getD, List.getElem?_eq_getElem (by omega), List.getElem?_eq_getElem (by omega)] at h2
        exact e ((List.getElem_inj hd).1 h2)
      rw [if_neg hne]
      exact posTo_at hd (by omega) (by omega)
theorem posTo_none {ids : List Int} (hd : ids.Nodup) {j : Nat} (hj : j < ids.length) : posTo ids j (ids.getD j 0) = none := by
  cases h : posTo ids j (ids.getD j 0) with
  | none => rfl
  | some q =>
    obtain ⟨h1, h2⟩ := posTo_some h
    rw [List.getD, List.getD, List.getElem?_eq_getElem (by omega), List.getElem?_eq_getElem (by omega)] at h2
    have := (List.getElem_inj hd).1 h2
    omega
theorem IdsOk.mem {u : Nat → Int} {n : Nat} {ids : List Int} (h : IdsOk u n ids) {j : Nat} (hj : j < n) : ∃ k, k < n ∧ u k = ids.getD j 0 := by
  refine mem_usL.1 (h.perm.mem_iff.2 ?_)
  rw [List.getD, List.getElem?_eq_getElem (by rw [h.len]; exact hj)]
  exact List.getElem_mem _
theorem IdsOk.pos {u : Nat → Int} {n : Nat} {ids : List Int} (h : IdsOk u n ids) {t : Int} (ht : ∃ k, k < n ∧ u k = t) : ∃ j, j < n ∧ ids.getD j 0 = t ∧ posTo ids n t = some j := by
  obtain ⟨j, hj, e⟩ := List.getElem_of_mem (h.perm.mem_iff.1 (mem_usL.2 ht))
  have hjn : j < n := by rw [← h.len]; exact hj
  have e2 : ids.getD j 0 = t := by rw [List.getD, List.getElem?_eq_getElem hj]; exact e
  exact ⟨j, hjn, e2, by rw [← e2]; exact posTo_at h.nodup hjn (by rw [h.len]; exact Nat.le_refl _)⟩
theorem IdsOk.isSome {u : Nat → Int} {n : Nat} {ids : List Int} (h : IdsOk u n ids) (t : Int) : (posTo ids n t).isSome = true ↔ ∃ k, k < n ∧ u k = t := by
  constructor
  · intro hs
    obtain ⟨j, hj⟩ := Option.isSome_iff_exists.1 hs
    obtain ⟨h1, h2⟩ := posTo_some hj
    obtain ⟨k, hk, e⟩ := h.mem h1
    exact ⟨k, hk, by rw [e, h2]⟩
  · intro hs
    obtain ⟨j, _, _, e⟩ := h.pos hs
    rw [e]; rfl
/-- two sieves that let the same pass -/
theorem sieve2 {f g : Int → Option Nat} (h : ∀ t, (f t).isSome = true ↔ (g t).isSome = true) : ∀ (l : List Int),
    (l.filterMap f).length = (l.filterMap g).length ∧ ∀ e, e < (l.filterMap f).length → ∃ t, f t = some ((l.filterMap f).getD e 0) ∧ g t = some ((l.filterMap g).getD e 0)
  | [] => by simp
  | t :: l => by
    obtain ⟨h1, h2⟩ := sieve2 h l
    cases hf : f t with
    | none =>
      have hg : g t = none := by
        cases hg : g t with
        | none => rfl
        | some _ => have := (h t).2 (by rw [hg]; rfl); rw [hf] at this; simp at this
      rw [List.filterMap_cons_none hf, List.filterMap_cons_none hg]
      exact ⟨h1, h2⟩
    | some p =>
      obtain ⟨q, hg⟩ := Option.isSome_iff_exists.1 ((h t).1 (by rw [hf]; rfl))
      rw [List.filterMap_cons_some hf, List.filterMap_cons_some hg]
      refine ⟨by simp [h1], fun e he => ?_⟩
      cases e with
      | zero => exact ⟨t, by simpa using hf, by simpa using hg⟩
      | succ e =>
        obtain ⟨t', a, b⟩ := h2 e (by simpa using he)
        exact ⟨t', by simpa using a, by simpa using b⟩
theorem IdsOk.twin {u : Nat → Int} {n : Nat} {idF idG : List Int} (hF : IdsOk u n idF) (hG : IdsOk u n idG) (t : Int) : (posTo idF n t).isSome = true ↔ (posTo idG n t).isSome = true := by
  rw [hF.isSome, hG.isSome]

/-- the lists of one member, from the two readers -/
theorem NNo_at (ids : List Int) (TL : Int → List Int) (n j : Nat) (hl : ids.length = n) (hj : j < n) : NNo ids TL n j = (TL (ids.getD j 0)).filterMap (posTo ids n) := by
  unfold NNo nextOf
  rw [if_pos hj, hl]
theorem rows_len {u : Nat → Int} {n : Nat} {idF idG : List Int} (hF : IdsOk u n idF) (hG : IdsOk u n idG) (TL : Int → List Int) {i j : Nat} (hi : i < n) (hj : j < n) (he : idF.getD i 0 = idG.getD j 0) :
    (NNo idF TL n i).length = (NNo idG TL n j).length := by
  rw [NNo_at _ _ _ _ hF.len hi, NNo_at _ _ _ _ hG.len hj, he]
  exact (sieve2 (hF.twin hG) _).1
theorem rows_at {u : Nat → Int} {n : Nat} {idF idG : List Int} (hF : IdsOk u n idF) (hG : IdsOk u n idG) (TL : Int → List Int) {i j : Nat} (hi : i < n) (hj : j < n) (he : idF.getD i 0 = idG.getD j 0) {e : Nat}
    (h : e < (NNo idF TL n i).length) : (NNo idF TL n i).getD e 0 < n ∧ posTo idG n (idF.getD ((NNo idF TL n i).getD e 0) 0) = some ((NNo idG TL n j).getD e 0) := by
  rw [NNo_at _ _ _ _ hF.len hi] at *
  rw [NNo_at _ _ _ _ hG.len hj]
  rw [he] at *
  obtain ⟨t, a, b⟩ := (sieve2 (hF.twin hG) _).2 e h
  obtain ⟨c, d⟩ := posTo_some a
  exact ⟨c, by rw [d]; exact b⟩

/-! ### all arcs together -/
theorem sum_at (N : Nat → List Nat) (n : Nat) (hn : 1 ≤ n) : afterOf N n 0 + (N 0).length = ((List.range n).map fun i => (N i).length).sum := by
  obtain ⟨m, rfl⟩ : ∃ m, n = m + 1 := ⟨n - 1, by omega⟩
  unfold afterOf
  rw [List.range_succ_eq_map]
  simp only [List.map_cons, List.sum_cons, List.map_map]
  rw [Nat.add_comm]
  congr 2
  have : m + 1 - (0 + 1) = m := by omega
  rw [this]
  apply List.map_congr_left
  intro d _
  simp only [Function.comp]
  congr 2
  omega
theorem range_map {ids : List Int} {n : Nat} (hl : ids.length = n) (f : Int → Nat) : ((List.range n).map fun i => f (ids.getD i 0)) = ids.map f := by
  apply List.ext_getElem
  · simp [hl]
  · intro i h1 h2
    simp only [List.length_map, List.length_range] at h1 h2
    simp [List.getD, List.getElem?_eq_getElem h2]
theorem sums_same {u : Nat → Int} {n : Nat} {idF idG : List Int} (hF : IdsOk u n idF) (hG : IdsOk u n idG) (TL : Int → List Int) (hn : 1 ≤ n) :
    afterOf (NNo idF TL n) n 0 + (NNo idF TL n 0).length = afterOf (NNo idG TL n) n 0 + (NNo idG TL n 0).length := by
  rw [sum_at _ _ hn, sum_at _ _ hn]
  have e : ∀ {ids : List Int}, IdsOk u n ids → ((List.range n).map fun i => (NNo ids TL n i).length).sum = ((usL u n).map fun t => ((TL t).filterMap (posTo idF n)).length).sum := by
    intro ids h
    have h1 : ((List.range n).map fun i => (NNo ids TL n i).length) = (List.range n).map fun i => ((TL (ids.getD i 0)).filterMap (posTo idF n)).length := by
      apply List.map_congr_left
      intro i hi
      rw [NNo_at _ _ _ _ h.len (List.mem_range.1 hi)]
      exact (sieve2 (h.twin hF) _).1
    rw [h1, range_map h.len (fun t => ((TL t).filterMap (posTo idF n)).length)]
    exact (h.perm.map _).sum_nat.symm
  rw [e hF, e hG]
end Go.Proofs.Qxb6602686a
