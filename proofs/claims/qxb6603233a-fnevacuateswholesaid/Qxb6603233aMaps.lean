import Derived.Test.Qxb6603233aBase
import Derived.MapKept
namespace Go.Proofs.Qxb6603233a
open Go.RowKit Go.MapKept

/-! ### a map that the call made, told by a look-up function -/
/-- the entries of a map, told by a look-up function on the keys 'κ a' -/
def EntriesAre {α : Type} (κ : α → Value) (es : Array MapEntry) (look : α → Option Value) : Prop :=
  (∀ (i : Nat) (e : MapEntry), es[i]? = some e → ∃ a, e.key = κ a) ∧ (∀ (i j : Nat) (e e' : MapEntry), es[i]? = some e → es[j]? = some e' → e.key = e'.key → i = j) ∧
  ∀ a v, look a = some v ↔ ∃ (i : Nat) (e : MapEntry), es[i]? = some e ∧ e.key = κ a ∧ e.val = v
def MapIs {α : Type} (κ : α → Value) (w : World) (g : Nat) (look : α → Option Value) : Prop :=
  ∃ es clock, w.heap[g]? = some (.map es clock) ∧ EntriesAre κ es look

section
variable {α : Type} {κ : α → Value} {w : World} {g : Nat} {look : α → Option Value}

theorem MapIs.lt (h : MapIs κ w g look) : g < w.heap.size := by
  obtain ⟨es, c, hg, _⟩ := h
  exact (Array.getElem?_eq_some_iff.1 hg).1
theorem MapIs.of_block {w' : World} (h : MapIs κ w g look) (e : w'.heap[g]? = w.heap[g]?) : MapIs κ w' g look := by
  obtain ⟨es, c, hg, h⟩ := h
  exact ⟨es, c, e.trans hg, h⟩
theorem MapIs.made (κ : α → Value) (w : World) : MapIs κ (w.alloc (.map #[] 0)) w.heap.size (fun _ => none) := by
  refine ⟨#[], 0, ?_, ?_, ?_, ?_⟩
  · exact heap_alloc_new w _
  · intro i e h; simp at h
  · intro i j e e' h; simp at h
  · intro a v; simp

theorem find_none {d : TypeDesc} (hd : ∀ a, IsKey d (κ a)) {es : Array MapEntry} (h : EntriesAre κ es look) (a : α) :
    (Instr.findNow d (κ a) es.toList 0 = some none ∧ look a = none ∧ ∀ (i : Nat) (e : MapEntry), es[i]? = some e → e.key ≠ κ a) ∨ ∃ (j : Nat) (e : MapEntry), Instr.findNow d (κ a) es.toList 0 = some (some (j, e.val)) ∧ es[j]? = some e ∧ e.key = κ a ∧ look a = some e.val := by
  obtain ⟨h1, h2, h3⟩ := h
  rcases findNow_spec (hd a) es.toList 0 (by
    intro x hx
    obtain ⟨i, hi⟩ := List.getElem?_of_mem hx
    obtain ⟨b, hb⟩ := h1 i x (by simpa using hi)
    rw [hb]; exact hd b) with ⟨hf, hno⟩ | ⟨j, e, hf, hj, hk⟩
  · left
    have hno' : ∀ (i : Nat) (e : MapEntry), es[i]? = some e → e.key ≠ κ a := fun i e hi => hno e (by
      have : es.toList[i]? = some e := by simpa using hi
      exact List.mem_of_getElem? this)
    refine ⟨hf, ?_, hno'⟩
    cases hl : look a with
    | none => rfl
    | some v =>
      obtain ⟨i, e, hi, hk, _⟩ := (h3 a v).1 hl
      exact absurd hk (hno' i e hi)
  · right
    rw [Nat.zero_add] at hf
    have hj' : es[j]? = some e := by simpa using hj
    exact ⟨j, e, hf, hj', hk, (h3 a e.val).2 ⟨j, e, hj', hk, rfl⟩⟩

theorem run_look {P : Program} {T K E : TypeId} {d : TypeDesc} {z : Value} (hT : P.underlying T = some (.map K E)) (hK : P.underlying K = some d) (hd : ∀ a, IsKey d (κ a)) (hz : ∀ w, (zeroValue E).run P w = .ok z w)
    (h : MapIs κ w g look) (a : α) (ok : Bool) :
    (Instr.lookup T (.map (some g)) (κ a) ok).run P w = .ok (if ok then .tuple #[(look a).getD z, .bool (look a).isSome] else (look a).getD z) w := by
  obtain ⟨es, c, hg, he⟩ := h
  have hgo := MapKept.run_getObj_map (P := P) hg
  have hck := run_checkKey (P := P) (w := w) hK (hd a) es.isEmpty 9999
  unfold Instr.lookup
  rcases find_none hd he a with ⟨hf, hl, _⟩ | ⟨j, e, hf, hj, hk, hl⟩
  · have hfk := run_findKey (P := P) (w := w) hK hf
    simp only [Sem.run_bind, run_underlying hT, Result.andThen, hgo, hck, hfk, hz, Sem.run_pure, hl]
    cases ok <;> simp
  · have hfk := run_findKey (P := P) (w := w) hK hf
    simp only [Sem.run_bind, run_underlying hT, Result.andThen, hgo, hck, hfk, Sem.run_pure, hl]
    cases ok <;> simp

theorem run_put [DecidableEq α] {P : Program} {T K E : TypeId} {d : TypeDesc} (hT : P.underlying T = some (.map K E)) (hK : P.underlying K = some d) (hd : ∀ a, IsKey d (κ a)) (hinj : ∀ a b, κ a = κ b → a = b) (hsame : ∀ a, Instr.sameBits 10000 (κ a) (κ a) = true)
    (h : MapIs κ w g look) (a : α) (v : Value) :
    ∃ o, (Instr.mapUpdate T (.map (some g)) (κ a) v).run P w = .ok () { w with heap := w.heap.setIfInBounds g o } ∧ MapIs κ { w with heap := w.heap.setIfInBounds g o } g (fun b => if b = a then some v else look b) := by
  obtain ⟨es, c, hg, he⟩ := h
  have hgo := MapKept.run_getObj_map (P := P) hg
  have hck := run_checkKey (P := P) (w := w) hK (hd a) false 9999
  have hlt : g < w.heap.size := (Array.getElem?_eq_some_iff.1 hg).1
  rcases find_none hd he a with ⟨hf, hl, hno⟩ | ⟨j, e, hf, hj, hk, hl⟩
  · have hfk := run_findKey (P := P) (w := w) hK hf
    refine ⟨.map (es.push { key := κ a, val := v, born := c }) (c + 1), ?_, ?_⟩
    · unfold Instr.mapUpdate
      simp only [Sem.run_bind, run_underlying hT, Result.andThen, hgo, hck, hfk]
      exact MapKept.run_setObj_map _ hg
    · refine ⟨es.push { key := κ a, val := v, born := c }, c + 1, by simp [hlt], ?_, ?_, ?_⟩
      · intro i x hx
        rw [Array.getElem?_push] at hx
        split at hx
        · cases hx; exact ⟨a, rfl⟩
        · exact he.1 i x hx
      · intro i j x x' hx hx' hkk
        rw [Array.getElem?_push] at hx hx'
        split at hx <;> split at hx'
        · omega
        · cases hx; exact absurd hkk.symm (hno j x' hx')
        · cases hx'; exact absurd hkk (hno i x hx)
        · exact he.2.1 i j x x' hx hx' hkk
      · intro b u
        by_cases e : b = a
        · subst e
          simp only [if_true, Option.some.injEq]
          constructor
          · rintro rfl
            exact ⟨es.size, { key := κ b, val := v, born := c }, by simp, rfl, rfl⟩
          · rintro ⟨i, x, hx, hkx, rfl⟩
            rw [Array.getElem?_push] at hx
            split at hx
            · cases hx; rfl
            · exact absurd hkx (hno i x hx)
        · show (if b = a then some v else look b) = some u ↔ _
          rw [if_neg e, he.2.2 b u]
          constructor
          · rintro ⟨i, x, hx, r⟩
            refine ⟨i, x, ?_, r⟩
            rw [Array.getElem?_push, if_neg ?_]
            · exact hx
            · intro hi
              rw [hi] at hx
              simp at hx
          · rintro ⟨i, x, hx, hkx, rfl⟩
            rw [Array.getElem?_push] at hx
            split at hx
            · cases hx
              exact absurd (hinj _ _ hkx).symm e
            · exact ⟨i, x, hx, hkx, rfl⟩
  · have hfk := run_findKey (P := P) (w := w) hK hf
    refine ⟨.map (es.modify j fun e => { e with key := κ a, val := v }) c, ?_, ?_⟩
    · unfold Instr.mapUpdate
      simp only [Sem.run_bind, run_underlying hT, Result.andThen, hgo, hck, hfk]
      have hst : (Instr.keyThatStays (((es[j]?).map (·.key)).getD (κ a)) (κ a)).run P w = .ok (κ a) w := by
        simp [Instr.keyThatStays, hj, hk, hsame]
      simp only [hst]
      exact MapKept.run_setObj_map _ hg
    · have hget : ∀ i x, (es.modify j fun e => { e with key := κ a, val := v })[i]? = some x → (i = j ∧ x.key = κ a ∧ x.val = v) ∨ (i ≠ j ∧ es[i]? = some x) := by
        intro i x hx
        rw [Array.getElem?_modify] at hx
        split at hx
        · rename_i hji
          subst hji
          rw [hj] at hx
          simp at hx
          subst hx
          exact .inl ⟨rfl, rfl, rfl⟩
        · rename_i hji
          exact .inr ⟨fun e => hji e.symm, hx⟩
      have hat : (es.modify j fun e => { e with key := κ a, val := v })[j]? = some { e with key := κ a, val := v } := by
        rw [Array.getElem?_modify, if_pos rfl, hj]; rfl
      refine ⟨es.modify j fun e => { e with key := κ a, val := v }, c, by simp [hlt], ?_, ?_, ?_⟩
      · intro i x hx
        rcases hget i x hx with ⟨_, h, _⟩ | ⟨_, h⟩
        · exact ⟨a, h⟩
        · exact he.1 i x h
      · intro i i' x x' hx hx' hkk
        rcases hget i x hx with ⟨e1, h1, _⟩ | ⟨e1, h1⟩ <;> rcases hget i' x' hx' with ⟨e2, h2, _⟩ | ⟨e2, h2⟩
        · omega
        · exact absurd (he.2.1 i' j x' e h2 hj (by rw [← hkk, h1, hk])) e2
        · exact absurd (he.2.1 i j x e h1 hj (by rw [hkk, h2, hk])) e1
        · exact he.2.1 i i' x x' h1 h2 hkk
      · intro b u
        by_cases eb : b = a
        · subst eb
          simp only [if_true, Option.some.injEq]
          constructor
          · rintro rfl
            exact ⟨j, { e with key := κ b, val := v }, hat, rfl, rfl⟩
          · rintro ⟨i, x, hx, hkx, rfl⟩
            rcases hget i x hx with ⟨_, _, h⟩ | ⟨hne, h⟩
            · exact h.symm
            · exact absurd (he.2.1 i j x e h hj (by rw [hkx, hk])) hne
        · show (if b = a then some v else look b) = some u ↔ _
          rw [if_neg eb, he.2.2 b u]
          constructor
          · rintro ⟨i, x, hx, hkx, r⟩
            refine ⟨i, x, ?_, hkx, r⟩
            rw [Array.getElem?_modify, if_neg ?_]
            · exact hx
            · intro hji
              subst hji
              rw [hj] at hx
              cases hx
              exact eb (hinj _ _ (hkx.symm.trans hk))
          · rintro ⟨i, x, hx, hkx, r⟩
            rcases hget i x hx with ⟨_, h, _⟩ | ⟨_, h⟩
            · exact absurd (hinj _ _ (hkx.symm.trans h)) eb
            · exact ⟨i, x, h, hkx, r⟩
end

/-- a key of a string's kind -/
def ks (x : ByteArray) : Value := .string x
theorem ks_key (a : ByteArray) : IsKey .string (ks a) := by simp [IsKey, ks]
theorem ks_inj (a b : ByteArray) (h : ks a = ks b) : a = b := by simpa [ks] using h
theorem ks_same (a : ByteArray) : Instr.sameBits 10000 (ks a) (ks a) = true := sameBits_self (ks_key a) 10000
end Go.Proofs.Qxb6603233a
