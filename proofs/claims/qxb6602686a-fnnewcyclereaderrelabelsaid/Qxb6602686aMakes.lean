import Derived.Test.Qxb6602686aRst
namespace Go.Proofs.Qxb6602686a
open Go.RowKit

/-! ### eight makes, in whatever order -/
def Lm (s : Nat → Bool) : Array Bool := #[true, s 0, true, s 1, true, s 2, true, s 3, true, s 4, true, s 5, true, s 6, true, s 7, false, false, false]
def FR (t : Array Value) (v : Nat → Value) : Array Value := ((((((((t.setIfInBounds 24 (v 0)).setIfInBounds 26 (v 1)).setIfInBounds 28 (v 2)).setIfInBounds 30 (v 3)).setIfInBounds 32 (v 4)).setIfInBounds 34 (v 5)).setIfInBounds 36 (v 6)).setIfInBounds 38 (v 7))
def cntF (s : Nat → Bool) : Nat := (if s 0 then 0 else 1) + (if s 1 then 0 else 1) + (if s 2 then 0 else 1) + (if s 3 then 0 else 1) + (if s 4 then 0 else 1) + (if s 5 then 0 else 1) + (if s 6 then 0 else 1) + (if s 7 then 0 else 1)
/-- slice type, element type, zero, length of each make -/
def mT : Nat → TypeId | 0 => 47 | 1 => 29 | 2 => 30 | 3 => 31 | 4 => 32 | 5 => 31 | 6 => 32 | _ => 29
def mE : Nat → TypeId | 0 => 48 | 1 => 30 | 2 => 3 | 3 => 2 | 4 => 4 | 5 => 2 | 6 => 4 | _ => 30
def mZ : Nat → Value | 0 => .int .u64 0 | 1 => .slice none 0 0 | 2 => .int .i64 0 | 3 => .int .i64 0 | 4 => .bool false | 5 => .int .i64 0 | 6 => .bool false | _ => .slice none 0 0
def mL (n : Nat) : Nat → Nat | 0 => 0 | _ => n

theorem eight {k : Nat} (h : k < 8) : k = 0 ∨ k = 1 ∨ k = 2 ∨ k = 3 ∨ k = 4 ∨ k = 5 ∨ k = 6 ∨ k = 7 := by omega
theorem set_comm (t : Array Value) (i j : Nat) (a b : Value) (h : i ≠ j) : (t.setIfInBounds i a).setIfInBounds j b = (t.setIfInBounds j b).setIfInBounds i a := by
  apply Array.ext_getElem?
  intro k
  simp only [Array.getElem?_setIfInBounds, Array.size_setIfInBounds]
  by_cases h1 : j = k
  · subst h1
    rw [if_neg h]
    simp
    intro e
    exact absurd e h
  · by_cases h2 : i = k
    · subst h2
      simp [h1]
    · simp [h1, h2]
theorem set_set (t : Array Value) (i : Nat) (a b : Value) : (t.setIfInBounds i a).setIfInBounds i b = t.setIfInBounds i b := by simp
theorem FR_set (t : Array Value) (v : Nat → Value) (k : Nat) (x : Value) (hk : k < 8) : (FR t v).setIfInBounds (24 + 2 * k) x = FR t (fun j => if j = k then x else v j) := by
  rcases eight hk with h | h | h | h | h | h | h | h <;> subst h <;> unfold FR <;> simp only [Nat.reduceMul, Nat.reduceAdd, Nat.reduceEqDiff, if_true, if_false]
  · rw [set_comm _ 38 24 _ _ (by decide), set_comm _ 36 24 _ _ (by decide), set_comm _ 34 24 _ _ (by decide), set_comm _ 32 24 _ _ (by decide), set_comm _ 30 24 _ _ (by decide), set_comm _ 28 24 _ _ (by decide), set_comm _ 26 24 _ _ (by decide), set_set]
  · rw [set_comm _ 38 26 _ _ (by decide), set_comm _ 36 26 _ _ (by decide), set_comm _ 34 26 _ _ (by decide), set_comm _ 32 26 _ _ (by decide), set_comm _ 30 26 _ _ (by decide), set_comm _ 28 26 _ _ (by decide), set_set]
  · rw [set_comm _ 38 28 _ _ (by decide), set_comm _ 36 28 _ _ (by decide), set_comm _ 34 28 _ _ (by decide), set_comm _ 32 28 _ _ (by decide), set_comm _ 30 28 _ _ (by decide), set_set]
  · rw [set_comm _ 38 30 _ _ (by decide), set_comm _ 36 30 _ _ (by decide), set_comm _ 34 30 _ _ (by decide), set_comm _ 32 30 _ _ (by decide), set_set]
  · rw [set_comm _ 38 32 _ _ (by decide), set_comm _ 36 32 _ _ (by decide), set_comm _ 34 32 _ _ (by decide), set_set]
  · rw [set_comm _ 38 34 _ _ (by decide), set_comm _ 36 34 _ _ (by decide), set_set]
  · rw [set_comm _ 38 36 _ _ (by decide), set_set]
  · rw [set_set]
theorem FR_odd (t : Array Value) (v : Nat → Value) (k : Nat) (hk : k < 8) : (FR t v).getD (23 + 2 * k) undef = t.getD (23 + 2 * k) undef := by
  rcases eight hk with h | h | h | h | h | h | h | h <;> subst h <;> simp [FR]
theorem Lm_set (s : Nat → Bool) (k : Nat) (hk : k < 8) : (Lm s).setIfInBounds (2 * k + 1) true = Lm (fun j => if j = k then true else s j) := by
  rcases eight hk with h | h | h | h | h | h | h | h <;> subst h <;> rfl
theorem Lm_even (s : Nat → Bool) (k : Nat) (hk : k < 8) (d : Bool) : (Lm s).getD (2 * k) d = true := by
  rcases eight hk with h | h | h | h | h | h | h | h <;> subst h <;> rfl
theorem Lm_odd (s : Nat → Bool) (k : Nat) (hk : k < 8) (d : Bool) : (Lm s).getD (2 * k + 1) d = s k := by
  rcases eight hk with h | h | h | h | h | h | h | h <;> subst h <;> rfl
theorem cnt_set (s : Nat → Bool) (k r : Nat) (hk : k < 8) (hs : s k = false) (hc : cntF s = r + 1) : cntF (fun j => if j = k then true else s j) = r := by
  rcases eight hk with h | h | h | h | h | h | h | h <;> subst h <;> simp [cntF, hs] at hc ⊢ <;> omega
theorem cnt_zero (s : Nat → Bool) (hc : cntF s = 0) (k : Nat) (hk : k < 8) : s k = true := by
  unfold cntF at hc
  rcases eight hk with h | h | h | h | h | h | h | h <;> subst h <;> (apply Classical.byContradiction; intro h; simp at h; rw [h] at hc; simp at hc; try omega)
theorem cnt_pos (s : Nat → Bool) (r : Nat) (hc : cntF s = r + 1) : ∃ k, k < 8 ∧ s k = false := by
  apply Classical.byContradiction
  intro h
  have hall : ∀ k, k < 8 → s k = true := fun k hk => by
    cases hs : s k
    · exact absurd ⟨k, hk, hs⟩ h
    · rfl
  unfold cntF at hc
  rw [hall 0 (by omega), hall 1 (by omega), hall 2 (by omega), hall 3 (by omega), hall 4 (by omega), hall 5 (by omega), hall 6 (by omega), hall 7 (by omega)] at hc
  simp at hc

/-- what is made so far -/
def Facts (w : World) (n : Nat) (s : Nat → Bool) (v : Nat → Value) (W : World) : Prop :=
  ∃ γ : Nat → Nat, Chg w W (fun _ => False) ∧ (∀ k, k < 8 → s k = true → w.heap.size ≤ γ k ∧ v k = .slice (some ⟨γ k, 0, none⟩) (mL n k) n ∧ W.rowIs (γ k) (mE k) n (fun _ => mZ k)) ∧
    ∀ j k, j < 8 → k < 8 → s j = true → s k = true → j ≠ k → γ j ≠ γ k

theorem make_run (k n : Nat) (hk : k < 8) (hn : n ≤ 1048576) (W : World) :
    ∃ c, (Instr.makeSlice (mT k) (.int .i64 (mL n k : Nat)) (.int .i64 (n : Nat))).run Try.prog W = .ok (.slice (some ⟨W.heap.size, 0, none⟩) (mL n k) n) (W.alloc (.cells c (mE k))) ∧ (W.alloc (.cells c (mE k))).rowIs W.heap.size (mE k) n (fun _ => mZ k) := by
  rcases eight hk with h | h | h | h | h | h | h | h <;> subst h
  · refine ⟨madeCells #[.int .u64 0] n, ?_, World.rowIs_made W _ n _⟩
    obtain ⟨i, hi, hz0, hz1, hz2⟩ := info_parts info48
    have := run_make (P := Try.prog) W 47 48 i (.int .u64 0) Try.underlying47 hi hz0 .i64 .i64 0 n (by omega) (by omega) (by rw [hz2]; omega) (by omega)
    simp only [hz1, Nat.mul_one, Int.toNat_natCast, Int.toNat_zero] at this
    exact this
  · exact ⟨_, run_make_row' (P := Try.prog) 29 30 (.slice none 0 0) 24 Try.underlying29 info30 rfl .i64 .i64 n (by omega) (by omega) W, World.rowIs_made W _ n _⟩
  · exact ⟨_, run_make_row' (P := Try.prog) 30 3 (.int .i64 0) 8 Try.underlying30 info3 rfl .i64 .i64 n (by omega) (by omega) W, World.rowIs_made W _ n _⟩
  · exact ⟨_, run_make_row' (P := Try.prog) 31 2 (.int .i64 0) 8 Try.underlying31 info2 rfl .i64 .i64 n (by omega) (by omega) W, World.rowIs_made W _ n _⟩
  · exact ⟨_, run_make_row' (P := Try.prog) 32 4 (.bool false) 1 Try.underlying32 info4 rfl .i64 .i64 n (by omega) (by omega) W, World.rowIs_made W _ n _⟩
  · exact ⟨_, run_make_row' (P := Try.prog) 31 2 (.int .i64 0) 8 Try.underlying31 info2 rfl .i64 .i64 n (by omega) (by omega) W, World.rowIs_made W _ n _⟩
  · exact ⟨_, run_make_row' (P := Try.prog) 32 4 (.bool false) 1 Try.underlying32 info4 rfl .i64 .i64 n (by omega) (by omega) W, World.rowIs_made W _ n _⟩
  · exact ⟨_, run_make_row' (P := Try.prog) 29 30 (.slice none 0 0) 24 Try.underlying29 info30 rfl .i64 .i64 n (by omega) (by omega) W, World.rowIs_made W _ n _⟩

theorem Facts.make {w W : World} {n k : Nat} {s : Nat → Bool} {v : Nat → Value} (h : Facts w n s v W) (hk : k < 8) {c : Array Value} (hr : (W.alloc (.cells c (mE k))).rowIs W.heap.size (mE k) n (fun _ => mZ k)) :
    Facts w n (fun j => if j = k then true else s j) (fun j => if j = k then .slice (some ⟨W.heap.size, 0, none⟩) (mL n k) n else v j) (W.alloc (.cells c (mE k))) := by
  obtain ⟨γ, hc, h1, h2⟩ := h
  have hlt : ∀ j, j < 8 → s j = true → γ j < W.heap.size := fun j hj hs => (h1 j hj hs).2.2.lt
  refine ⟨fun j => if j = k then W.heap.size else γ j, hc.alloc _, fun j hj hs => ?_, fun i j hi hj hsi hsj hne => ?_⟩
  · by_cases e : j = k
    · subst e
      simp only [if_true]
      exact ⟨hc.size, trivial, hr⟩
    · simp only [e, if_false] at hs ⊢
      obtain ⟨a, b, d⟩ := h1 j hj hs
      exact ⟨a, b, d.alloc _⟩
  · by_cases e1 : i = k <;> by_cases e2 : j = k
    · omega
    · simp only [e1, e2, if_true, if_false] at hsj ⊢
      have := hlt j hj hsj
      omega
    · simp only [e1, e2, if_true, if_false] at hsi ⊢
      have := hlt i hi hsi
      omega
    · simp only [e1, e2, if_false] at hsi hsj ⊢
      exact h2 i j hi hj hsi hsj hne

set_option maxHeartbeats 1000000 in
theorem makes8 {ops : Array Oper} {Q : Exit → Act → World → Prop} {t : Array Value} {w : World} {n : Nat} (hn : n ≤ 1048576)
    (hm : ∀ k, k < 8 → ∃ o x, ops[2 * k + 1]? = some o ∧ o.guard = none ∧ o.dst = some (24 + 2 * k) ∧ o.op = .makeSlice (mT k) x (.tmp (23 + 2 * k)) ∧ (∀ a : Act, a.tmps.getD (23 + 2 * k) undef = .int .i64 (n : Nat) → a.eval x = .int .i64 (mL n k : Nat)) ∧ ∀ e ∈ o.after, e.on = 2 * k)
    (h16 : ∃ o, ops[16]? = some o ∧ ∀ k, k < 8 → ∃ e ∈ o.after, Region.binds .any e = true ∧ e.on = 2 * k + 1) (h17 : ∃ o, ops[17]? = some o ∧ ∃ e ∈ o.after, Region.binds .any e = true ∧ e.on = 16) (h18 : ∃ o, ops[18]? = some o ∧ ∃ e ∈ o.after, Region.binds .any e = true ∧ e.on = 17)
    (ht : ∀ k, k < 8 → t.getD (23 + 2 * k) undef = .int .i64 (n : Nat))
    (hbase : ∀ v W, Facts w n (fun _ => true) v W → wpAny Try.prog .any ops Q 3 (Lm fun _ => true) ⟨FR t v, []⟩ W) :
    ∀ r s v W, cntF s = r → Facts w n s v W → wpAny Try.prog .any ops Q (3 + r) (Lm s) ⟨FR t v, []⟩ W := by
  intro r
  induction r with
  | zero =>
    intro s v W hc hF
    have hall := cnt_zero s hc
    have e : Lm s = Lm fun _ => true := by
      unfold Lm
      rw [hall 0 (by omega), hall 1 (by omega), hall 2 (by omega), hall 3 (by omega), hall 4 (by omega), hall 5 (by omega), hall 6 (by omega), hall 7 (by omega)]
    rw [e]
    obtain ⟨γ, h0, h1, h2⟩ := hF
    exact hbase v W ⟨γ, h0, fun k hk _ => h1 k hk (hall k hk), fun j k hj hk _ _ hne => h2 j k hj hk (hall j hj) (hall k hk) hne⟩
  | succ r ih =>
    intro s v W hc hF
    obtain ⟨k0, hk0, hs0⟩ := cnt_pos s r hc
    show wpAny Try.prog .any ops Q ((3 + r) + 1) (Lm s) ⟨FR t v, []⟩ W
    refine ⟨fun hnil => ?_, fun i hi => ?_⟩
    · obtain ⟨o, x, ho, _, _, _, _, haft⟩ := hm k0 hk0
      have : 2 * k0 + 1 ∈ Region.ready .any ops (Lm s) := mem_ready.2 ⟨by rw [Lm_odd s k0 hk0]; exact hs0, o, ho, fun e he _ => by rw [haft e he]; exact Lm_even s k0 hk0 false⟩
      rw [hnil] at this
      cases this
    · obtain ⟨hun, o, ho, hall⟩ := mem_ready.1 hi
      have hi19 : i < 19 := by
        apply Classical.byContradiction
        intro h
        have : (Lm s).getD i true = true := by
          have hsz : (Lm s).size = 19 := rfl
          simp [Array.getElem?_eq_none (show (Lm s).size ≤ i by omega)]
        rw [this] at hun
        cases hun
      by_cases h8 : i < 16
      · rcases Nat.mod_two_eq_zero_or_one i with h | h
        · have : i = 2 * (i / 2) := by omega
          rw [this, Lm_even s (i / 2) (by omega)] at hun
          cases hun
        · obtain ⟨k, hk, rfl⟩ : ∃ k, k < 8 ∧ i = 2 * k + 1 := ⟨i / 2, by omega, by omega⟩
          rw [Lm_odd s k hk] at hun
          obtain ⟨o', x, ho', hg, hd, hop, hx, _⟩ := hm k hk
          rw [ho] at ho'
          cases ho'
          obtain ⟨c, hrun, hrow⟩ := make_run k n hk hn W
          have hw : Region.wanted o (yielded ops (FR t v)) = true := by simp [Region.wanted, hg]
          unfold wpOp
          rw [ho]
          simp only [hw, if_true]
          left
          have hge := FR_odd t v k hk
          rw [ht k hk] at hge
          generalize hFR : FR t v = T at *
          have hcap : (⟨T, []⟩ : Act).eval (.tmp (23 + 2 * k)) = .int .i64 (n : Nat) := by simp only [Act.eval]; exact hge
          have hlen : (⟨T, []⟩ : Act).eval x = .int .i64 (mL n k : Nat) := hx _ hge
          unfold Oper.wp
          simp only [execOp, hop, hlen, hcap, Sem.run_bind, hrun, Result.andThen_ok, Sem.run_pure]
          show wpAny Try.prog .any ops Q (3 + r) ((Lm s).setIfInBounds (2 * k + 1) true) _ _
          rw [Lm_set s k hk, hd]
          show wpAny Try.prog .any ops Q (3 + r) _ ⟨T.setIfInBounds (24 + 2 * k) _, []⟩ _
          rw [← hFR, FR_set t v k _ hk]
          exact ih _ _ _ (cnt_set s k r hk hun hc) (hF.make hk hrow)
      · exfalso
        rcases (by omega : i = 16 ∨ i = 17 ∨ i = 18) with h | h | h <;> subst h
        · obtain ⟨o', ho', he⟩ := h16
          rw [ho] at ho'
          cases ho'
          obtain ⟨e, he, hb, hon⟩ := he k0 hk0
          have := hall e he hb
          rw [hon, Lm_odd s k0 hk0, hs0] at this
          cases this
        · obtain ⟨o', ho', e, he, hb, hon⟩ := h17
          rw [ho] at ho'
          cases ho'
          have := hall e he hb
          rw [hon] at this
          cases this
        · obtain ⟨o', ho', e, he, hb, hon⟩ := h18
          rw [ho] at ho'
          cases ho'
          have := hall e he hb
          rw [hon] at this
          cases this

theorem wpAny_makes {ops : Array Oper} {Q : Exit → Act → World → Prop} {t : Array Value} {listed : Array Bool} {w : World} {n : Nat} (hn : n ≤ 1048576)
    (hl : listed = Lm fun _ => false) (hFR : FR t (fun _ => undef) = t)
    (hm : ∀ k, k < 8 → ∃ o x, ops[2 * k + 1]? = some o ∧ o.guard = none ∧ o.dst = some (24 + 2 * k) ∧ o.op = .makeSlice (mT k) x (.tmp (23 + 2 * k)) ∧ (∀ a : Act, a.tmps.getD (23 + 2 * k) undef = .int .i64 (n : Nat) → a.eval x = .int .i64 (mL n k : Nat)) ∧ ∀ e ∈ o.after, e.on = 2 * k)
    (h16 : ∃ o, ops[16]? = some o ∧ ∀ k, k < 8 → ∃ e ∈ o.after, Region.binds .any e = true ∧ e.on = 2 * k + 1) (h17 : ∃ o, ops[17]? = some o ∧ ∃ e ∈ o.after, Region.binds .any e = true ∧ e.on = 16) (h18 : ∃ o, ops[18]? = some o ∧ ∃ e ∈ o.after, Region.binds .any e = true ∧ e.on = 17)
    (ht : ∀ k, k < 8 → t.getD (23 + 2 * k) undef = .int .i64 (n : Nat))
    (hbase : ∀ v W, Facts w n (fun _ => true) v W → wpAny Try.prog .any ops Q 3 (Lm fun _ => true) ⟨FR t v, []⟩ W) : wpAny Try.prog .any ops Q 11 listed ⟨t, []⟩ w.drew := by
  subst hl
  have := makes8 hn hm h16 h17 h18 ht hbase 8 (fun _ => false) (fun _ => undef) w.drew rfl ⟨fun _ => 0, (Chg.refl _ _).drew, fun k _ (h : false = true) => Bool.noConfusion h, fun j k _ _ (h : false = true) => Bool.noConfusion h⟩
  rw [hFR] at this
  exact this

theorem Lst.of_row {w : World} {E : TypeId} {g n : Nat} {f : Nat → Value} (h : w.rowIs g E n f) (hn : n ≤ 1048576) : Lst w E (.slice (some ⟨g, 0, none⟩) 0 n) [] := by
  obtain ⟨c, hg, hcs, _⟩ := h
  exact ⟨rfl, .inr ⟨g, n, c, rfl, Nat.zero_le _, hg, Nat.zero_le _, by unfold maxLen; omega, by omega, by simp⟩⟩
theorem laid_of (w W : World) (n : Nat) (γ : Nat → Nat) (c : Array Value) (hn : n ≤ 1048576) (hC : Chg w W (fun _ => False)) (r0 : W.rowIs (γ 0) 48 n (fun _ => mZ 0)) (r1 : W.rowIs (γ 1) 30 n (fun _ => .slice none 0 0)) (r2 : W.rowIs (γ 2) 3 n (fun _ => .int .i64 0))
    (b0 : w.heap.size ≤ γ 0) (b1 : w.heap.size ≤ γ 1) (b2 : w.heap.size ≤ γ 2) (hne : ∀ j k, j < 8 → k < 8 → true = true → true = true → j ≠ k → γ j ≠ γ k)
    (hs : c.size = 12) (h0 : c.getD 0 undef = .slice (some ⟨γ 0, 0, none⟩) 0 n) (h1 : c.getD 1 undef = .slice (some ⟨γ 1, 0, none⟩) n n) (h2 : c.getD 2 undef = .slice (some ⟨γ 2, 0, none⟩) n n) (hone : FldShape n (fun i => c.getD i undef)) :
    ∃ gs g0 g1 g2 fld, Value.pointer (some ⟨W.heap.size, 0, none⟩) = .pointer (some ⟨gs, 0, none⟩) ∧ Hid (Laid w (W.alloc (.cells c 56)) n gs g0 g1 g2 fld ∧ fld 0 = .slice (some ⟨g0, 0, none⟩) 0 n ∧
      Lst (W.alloc (.cells c 56)) 48 (.slice (some ⟨g0, 0, none⟩) 0 n) [] ∧ (W.alloc (.cells c 56)).rowIs g1 30 n (fun _ => .slice none 0 0) ∧ (W.alloc (.cells c 56)).rowIs g2 3 n (fun _ => .int .i64 0)) := by
  have l0 := r0.lt
  have l1 := r1.lt
  have l2 := r2.lt
  have hsz := hC.size
  refine ⟨W.heap.size, γ 0, γ 1, γ 2, fun i => c.getD i undef, rfl, ⟨hC.alloc _, ?_, h1, h2, ⟨hsz, b0, b1, b2⟩, ⟨by omega, by omega, by omega, hne 0 1 (by omega) (by omega) rfl rfl (by omega), hne 0 2 (by omega) (by omega) rfl rfl (by omega), hne 1 2 (by omega) (by omega) rfl rfl (by omega)⟩, hone⟩, h0, Lst.of_row (r0.alloc _) hn, r1.alloc _, r2.alloc _⟩
  have := World.rowIs_alloc W c 56 (fun i => c.getD i undef) (fun i hi => by simp [Array.getElem?_eq_getElem hi])
  rw [hs] at this
  exact this
end Go.Proofs.Qxb6602686a
