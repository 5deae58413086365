import Derived.Test.Qxb6603233aBase
namespace Go.Proofs.Qxb6603233a
open Go.RowKit

/-- a slice that the call itself made: nil, or a whole row of its own from block B on -/
def Own (w : World) (B : Nat) (E : TypeId) (v : Value) (n : Nat) (f : Nat → Value) : Prop :=
  (v = .slice none 0 0 ∧ n = 0) ∨ ∃ g, B ≤ g ∧ v = .slice (some ⟨g, 0, none⟩) n n ∧ w.rowIs g E n f

theorem Own.mono {w : World} {B B' : Nat} {E : TypeId} {v : Value} {n : Nat} {f : Nat → Value} (h : Own w B E v n f) (hB : B' ≤ B) : Own w B' E v n f := by
  rcases h with h | ⟨g, hg, h⟩
  · exact .inl h
  · exact .inr ⟨g, Nat.le_trans hB hg, h⟩
theorem Own.below {w w' : World} {B : Nat} {E : TypeId} {v : Value} {n : Nat} {f : Nat → Value} (h : Own w B E v n f) (hb : Below w.heap.size w w') : Own w' B E v n f := by
  rcases h with h | ⟨g, hg, hv, hr⟩
  · exact .inl h
  · exact .inr ⟨g, hg, hv, hr.of_block (hb.block _ hr.lt)⟩
theorem Own.setOther {w : World} {b i : Nat} {E : TypeId} {v : Value} {n : Nat} {f : Nat → Value} (h : Own w (b + 1) E v n f) (u : Value) : Own (w.setCell ⟨b, i, none⟩ u) (b + 1) E v n f := by
  rcases h with h | ⟨g, hg, hv, hr⟩
  · exact .inl h
  · exact .inr ⟨g, hg, hv, hr.setOther (by show g ≠ b; omega) u⟩
theorem Own.sv {w : World} {B : Nat} {E : TypeId} {v : Value} {n : Nat} {f : Nat → Value} (h : Own w B E v n f) (hn : n ≤ 281474976710656) : SV w v n f := by
  rcases h with ⟨rfl, rfl⟩ | ⟨g, hg, rfl, hr⟩
  · exact SV.nil w f
  · exact SV.of_row hr (Nat.le_refl _) hn _

theorem eql_nil (T e : TypeId) (hT : Try.prog.underlying T = some (.slice e)) (a : Option Addr) (n c : Nat) (w : World) :
    (binOp .eql T (.slice a n c) (.slice none 0 0)).run Try.prog w = .ok (.bool a.isNone) w := Lib.run_eql_slice_nil w T e a n c 0 0 hT

set_option maxHeartbeats 1000000 in
theorem cloneS_nil (cap : Nat) (w : World) : Calls Try.prog 10 #[.slice none 0 cap] w fun e w' => e = .returned (.slice none 0 0) ∧ w' = w := by
  have hq := eql_nil 22 9 Try.underlying22
  go_enter Try.func10, Try.ntmps10
  go_wp2
  go_ret
  exact ⟨rfl, rfl⟩
set_option maxHeartbeats 1000000 in
theorem cloneS_some (x : Addr) (n cap : Nat) (f : Nat → ByteArray) (w : World) (hv : SV w (.slice (some x) n cap) n fun j => .string (f j)) (hb : n ≤ 1048576) :
    Calls Try.prog 10 #[.slice (some x) n cap] w fun e w' => e = .returned (.slice (some ⟨w.heap.size, 0, none⟩) n n) ∧ ∃ c : Array Value, w' = w.alloc (.cells c 9) ∧ c.size = n ∧ ∀ j, j < n → c[j]? = some (.string (f j)) := by
  obtain ⟨a, cap', he, hn, ha, hc⟩ := hv
  cases he
  have hq := eql_nil 22 9 Try.underlying22
  have hix := fun w' i h0 hi => idx_any (P := Try.prog) Try.underlying22 sz9 (n := n) (a := some x) cap ha w' i h0 hi
  have hmk := fun w => run_make_row' (P := Try.prog) 22 9 (.string ⟨#[]⟩) 16 Try.underlying22 info9 rfl .i64 .i64 n (by omega) (by omega) w
  have hlt : ∀ j, j < n → (adr (some x) j).block < w.heap.size := fun j hj => adr_lt (hc j hj)
  have hne : ∀ j, j < n → (adr (some x) j).block ≠ w.heap.size := fun j hj => Nat.ne_of_lt (hlt j hj)
  have HA := hide ha
  clear ha
  go_enter Try.func10, Try.ntmps10
  go_wp2
  go_loopw [4] (fun i wr => ∃ (k : Nat) (c : Array Value), k ≤ n ∧ i = .int .i64 k ∧ wr = w.alloc (.cells c 9) ∧ c.size = n ∧ Hid (∀ j, j < k → c[j]? = some (.string (f j)))) (fun i _ => n - (intOf i).toNat)
  case atStart => exact ⟨0, _, by omega, rfl, rfl, size_madeCells _ _, hide (fun j hj => by omega)⟩
  case round =>
    obtain ⟨k, c, hk, rfl, rfl, hcs, HC⟩ := hrel
    by_cases hkn : k < n
    · have hck := hc k hkn
      have hcell : (w.alloc (.cells c 9)).cell? (adr (some x) k) = some (.string (f k)) := by rw [World.cell?_alloc_lt _ _ _ (hlt k hkn)]; exact hck
      obtain ⟨old, hsome⟩ : ∃ old, c[k]? = some old := ⟨_, Array.getElem?_eq_getElem (by omega)⟩
      have HC2 : Hid (∀ j, j < k + 1 → (c.setIfInBounds k (.string (f k)))[j]? = some (.string (f j))) := hide (fun j hj => by
        rw [Array.getElem?_setIfInBounds]
        by_cases e : k = j
        · subst e; simp; omega
        · rw [if_neg e]; exact HC.out j (by omega))
      have hcs2 : Hid ((c.setIfInBounds k (.string (f k))).size = n) := hide (by simpa using hcs)
      clear hcs
      go_wp2
      go_roundw
      case rel => exact ⟨k + 1, _, by omega, by go_num, rfl, hcs2.out, HC2⟩
      case measure => simp [intOf]; omega
    · have hkn' : k = n := by omega
      subst hkn'
      go_wp2
      go_ret
      exact ⟨rfl, c, rfl, hcs, HC.out⟩

theorem cloneS_any (v : Value) (n : Nat) (f : Nat → ByteArray) (w : World) (hv : SV w v n fun j => .string (f j)) (hb : n ≤ 1048576) :
    Calls Try.prog 10 #[v] w fun e w' => ∃ v', e = .returned v' ∧ Below w.heap.size w w' ∧ Own w' w.heap.size 9 v' n fun j => .string (f j) := by
  have hv' := hv
  obtain ⟨a, cap, rfl, hn, ha, hc⟩ := hv
  cases a with
  | none =>
    have h0 : n = 0 := by
      rcases Nat.eq_zero_or_pos n with h | h
      · exact h
      · obtain ⟨_, _, h'⟩ := ha h; cases h'
    subst h0
    refine (cloneS_nil cap w).mono ?_
    rintro e w' ⟨rfl, rfl⟩
    exact ⟨_, rfl, Below.refl _ _, .inl ⟨rfl, rfl⟩⟩
  | some x =>
    refine (cloneS_some x n cap f w hv' hb).mono ?_
    rintro e w' ⟨rfl, c, rfl, hcs, hcc⟩
    refine ⟨_, rfl, (Below.refl _ _).alloc (Nat.le_refl _) _, .inr ⟨_, Nat.le_refl _, rfl, ?_⟩⟩
    have := World.rowIs_alloc w c 9 (fun j => .string (f j)) (fun i hi => hcc i (by omega))
    rw [hcs] at this
    exact this

set_option maxHeartbeats 1000000 in
theorem cloneB_nil (cap : Nat) (w : World) : Calls Try.prog 11 #[.slice none 0 cap] w fun e w' => e = .returned (.slice none 0 0) ∧ w' = w := by
  have hq := eql_nil 23 4 Try.underlying23
  go_enter Try.func11, Try.ntmps11
  go_wp2
  go_ret
  exact ⟨rfl, rfl⟩
set_option maxHeartbeats 1000000 in
theorem cloneB_some (x : Addr) (n cap : Nat) (f : Nat → Bool) (w : World) (hv : SV w (.slice (some x) n cap) n fun j => .bool (f j)) (hb : n ≤ 1048576) :
    Calls Try.prog 11 #[.slice (some x) n cap] w fun e w' => e = .returned (.slice (some ⟨w.heap.size, 0, none⟩) n n) ∧ ∃ c : Array Value, w' = w.alloc (.cells c 4) ∧ c.size = n ∧ ∀ j, j < n → c[j]? = some (.bool (f j)) := by
  obtain ⟨a, cap', he, hn, ha, hc⟩ := hv
  cases he
  have hq := eql_nil 23 4 Try.underlying23
  have hix := fun w' i h0 hi => idx_any (P := Try.prog) Try.underlying23 sz4 (n := n) (a := some x) cap ha w' i h0 hi
  have hmk := fun w => run_make_row' (P := Try.prog) 23 4 (.bool false) 1 Try.underlying23 info4 rfl .i64 .i64 n (by omega) (by omega) w
  have hlt : ∀ j, j < n → (adr (some x) j).block < w.heap.size := fun j hj => adr_lt (hc j hj)
  have hne : ∀ j, j < n → (adr (some x) j).block ≠ w.heap.size := fun j hj => Nat.ne_of_lt (hlt j hj)
  have HA := hide ha
  clear ha
  go_enter Try.func11, Try.ntmps11
  go_wp2
  go_loopw [4] (fun i wr => ∃ (k : Nat) (c : Array Value), k ≤ n ∧ i = .int .i64 k ∧ wr = w.alloc (.cells c 4) ∧ c.size = n ∧ Hid (∀ j, j < k → c[j]? = some (.bool (f j)))) (fun i _ => n - (intOf i).toNat)
  case atStart => exact ⟨0, _, by omega, rfl, rfl, size_madeCells _ _, hide (fun j hj => by omega)⟩
  case round =>
    obtain ⟨k, c, hk, rfl, rfl, hcs, HC⟩ := hrel
    by_cases hkn : k < n
    · have hck := hc k hkn
      have hcell : (w.alloc (.cells c 4)).cell? (adr (some x) k) = some (.bool (f k)) := by rw [World.cell?_alloc_lt _ _ _ (hlt k hkn)]; exact hck
      obtain ⟨old, hsome⟩ : ∃ old, c[k]? = some old := ⟨_, Array.getElem?_eq_getElem (by omega)⟩
      have HC2 : Hid (∀ j, j < k + 1 → (c.setIfInBounds k (.bool (f k)))[j]? = some (.bool (f j))) := hide (fun j hj => by
        rw [Array.getElem?_setIfInBounds]
        by_cases e : k = j
        · subst e; simp; omega
        · rw [if_neg e]; exact HC.out j (by omega))
      have hcs2 : Hid ((c.setIfInBounds k (.bool (f k))).size = n) := hide (by simpa using hcs)
      clear hcs
      go_wp2
      go_roundw
      case rel => exact ⟨k + 1, _, by omega, by go_num, rfl, hcs2.out, HC2⟩
      case measure => simp [intOf]; omega
    · have hkn' : k = n := by omega
      subst hkn'
      go_wp2
      go_ret
      exact ⟨rfl, c, rfl, hcs, HC.out⟩

theorem cloneB_any (v : Value) (n : Nat) (f : Nat → Bool) (w : World) (hv : SV w v n fun j => .bool (f j)) (hb : n ≤ 1048576) :
    Calls Try.prog 11 #[v] w fun e w' => ∃ v', e = .returned v' ∧ Below w.heap.size w w' ∧ Own w' w.heap.size 4 v' n fun j => .bool (f j) := by
  have hv' := hv
  obtain ⟨a, cap, rfl, hn, ha, hc⟩ := hv
  cases a with
  | none =>
    have h0 : n = 0 := by
      rcases Nat.eq_zero_or_pos n with h | h
      · exact h
      · obtain ⟨_, _, h'⟩ := ha h; cases h'
    subst h0
    refine (cloneB_nil cap w).mono ?_
    rintro e w' ⟨rfl, rfl⟩
    exact ⟨_, rfl, Below.refl _ _, .inl ⟨rfl, rfl⟩⟩
  | some x =>
    refine (cloneB_some x n cap f w hv' hb).mono ?_
    rintro e w' ⟨rfl, c, rfl, hcs, hcc⟩
    refine ⟨_, rfl, (Below.refl _ _).alloc (Nat.le_refl _) _, .inr ⟨_, Nat.le_refl _, rfl, ?_⟩⟩
    have := World.rowIs_alloc w c 4 (fun j => .bool (f j)) (fun i hi => hcc i (by omega))
    rw [hcs] at this
    exact this

set_option maxHeartbeats 1000000 in
theorem cloneSs_nil (cap : Nat) (w : World) : Calls Try.prog 12 #[.slice none 0 cap] w fun e w' => e = .returned (.slice none 0 0) ∧ w' = w := by
  have hq := eql_nil 24 22 Try.underlying24
  go_enter Try.func12, Try.ntmps12
  go_wp2
  go_ret
  exact ⟨rfl, rfl⟩
set_option maxHeartbeats 2000000 in
theorem cloneSs_some (x : Addr) (n cap : Nat) (tv : Nat → Value) (L : Nat → Nat) (F : Nat → Nat → ByteArray) (w : World) (hv : SV w (.slice (some x) n cap) n tv) (hb : n ≤ 1048576)
    (hr : ∀ i, i < n → SV w (tv i) (L i) (fun j => .string (F i j)) ∧ L i ≤ 1048576) :
    Calls Try.prog 12 #[.slice (some x) n cap] w fun e w' => e = .returned (.slice (some ⟨w.heap.size, 0, none⟩) n n) ∧ Below w.heap.size w w' ∧
      ∃ cv : Nat → Value, w'.rowIs w.heap.size 22 n cv ∧ ∀ i, i < n → Own w' (w.heap.size + 1) 9 (cv i) (L i) fun j => .string (F i j) := by
  obtain ⟨a, cap', he, hn, ha, hc⟩ := hv
  cases he
  have hq := eql_nil 24 22 Try.underlying24
  have hix := fun w' i h0 hi => idx_any (P := Try.prog) Try.underlying24 sz22 (n := n) (a := some x) cap ha w' i h0 hi
  have hmk := fun w => run_make_row' (P := Try.prog) 24 22 (.slice none 0 0) 24 Try.underlying24 info22 rfl .i64 .i64 n (by omega) (by omega) w
  have HC := hide hc
  have HR := hide hr
  clear hc hr ha
  go_enter Try.func12, Try.ntmps12
  go_wp2
  go_loopw [4] (fun i wr => ∃ (k : Nat) (cv : Nat → Value), k ≤ n ∧ i = .int .i64 k ∧ Hid (Below w.heap.size w wr ∧ w.heap.size < wr.heap.size ∧ wr.rowIs w.heap.size 22 n cv ∧ ∀ i, i < k → Own wr (w.heap.size + 1) 9 (cv i) (L i) fun j => .string (F i j))) (fun i _ => n - (intOf i).toNat)
  case atStart => exact ⟨0, _, by omega, rfl, hide ⟨(Below.refl _ _).alloc (Nat.le_refl _) _, by simp, World.rowIs_made w _ n _, fun i hi => by omega⟩⟩
  case round =>
    obtain ⟨k, cv, hk, rfl, H⟩ := hrel
    by_cases hkn : k < n
    · have hcell : wr.cell? (adr (some x) k) = some (tv k) := by
        rw [H.out.1.cell (adr_lt (HC.out k hkn))]; exact HC.out k hkn
      go_wp2_with fail
      refine (cloneS_any (tv k) (L k) (F k) wr ((HR.out k hkn).1.below H.out.1) (HR.out k hkn).2).mono ?_
      rintro e w1 ⟨v', rfl, hb1, ho1⟩
      have hrow1 : w1.rowIs w.heap.size 22 n cv := H.out.2.2.1.of_block (hb1.block _ H.out.2.1)
      have hs1 := hrow1.cell hkn
      have hf1 := hrow1.frozen k
      have hvs : ∃ a' l' c', v' = .slice a' l' c' := by
        rcases ho1 with ⟨h, _⟩ | ⟨g, _, h, _⟩
        · exact ⟨_, _, _, h⟩
        · exact ⟨_, _, _, h⟩
      have HH : Hid (Below w.heap.size w (w1.setCell ⟨w.heap.size, k, none⟩ v') ∧ w.heap.size < (w1.setCell ⟨w.heap.size, k, none⟩ v').heap.size ∧ (w1.setCell ⟨w.heap.size, k, none⟩ v').rowIs w.heap.size 22 n (fun j => if j = k then v' else cv j) ∧
          ∀ i, i < k + 1 → Own (w1.setCell ⟨w.heap.size, k, none⟩ v') (w.heap.size + 1) 9 (if i = k then v' else cv i) (L i) fun j => .string (F i j)) := by
        refine ⟨(H.out.1.trans (hb1.mono (Nat.le_of_lt H.out.2.1))).setCell (Nat.le_refl _) _, by simp only [World.size_setCell]; exact Nat.lt_of_lt_of_le H.out.2.1 hb1.size, hrow1.set k v', fun i hi => ?_⟩
        by_cases e : i = k
        · subst e
          rw [if_pos rfl]
          exact (ho1.mono (Nat.succ_le_of_lt H.out.2.1)).setOther _
        · rw [if_neg e]
          exact ((H.out.2.2.2 i (by omega)).below hb1).setOther _
      obtain ⟨a', l', c', hv'⟩ := hvs
      rw [hv'] at HH ⊢
      clear hrow1 H ho1 hb1 HC HR
      go_wp2_with fail
      go_roundw
      case rel => exact ⟨k + 1, _, by omega, by go_num, HH⟩
      case measure => simp [intOf]; omega
    · have hkn' : k = n := by omega
      subst hkn'
      go_wp2
      go_ret
      exact ⟨rfl, H.out.1, cv, H.out.2.2.1, H.out.2.2.2⟩
theorem cloneSs_any (v : Value) (n : Nat) (tv : Nat → Value) (L : Nat → Nat) (F : Nat → Nat → ByteArray) (w : World) (hv : SV w v n tv) (hb : n ≤ 1048576)
    (hr : ∀ i, i < n → SV w (tv i) (L i) (fun j => .string (F i j)) ∧ L i ≤ 1048576) :
    Calls Try.prog 12 #[v] w fun e w' => ∃ v' cv, e = .returned v' ∧ Below w.heap.size w w' ∧ Own w' w.heap.size 22 v' n cv ∧ ∀ i, i < n → Own w' w.heap.size 9 (cv i) (L i) fun j => .string (F i j) := by
  have hv' := hv
  obtain ⟨a, cap, rfl, hn, ha, hc⟩ := hv
  cases a with
  | none =>
    have h0 : n = 0 := by
      rcases Nat.eq_zero_or_pos n with h | h
      · exact h
      · obtain ⟨_, _, h'⟩ := ha h; cases h'
    subst h0
    refine (cloneSs_nil cap w).mono ?_
    rintro e w' ⟨rfl, rfl⟩
    exact ⟨_, fun _ => .bool false, rfl, Below.refl _ _, .inl ⟨rfl, rfl⟩, fun i hi => by omega⟩
  | some x =>
    refine (cloneSs_some x n cap tv L F w hv' hb hr).mono ?_
    rintro e w' ⟨rfl, hb', cv, hrow, hown⟩
    exact ⟨_, cv, rfl, hb', .inr ⟨_, Nat.le_refl _, rfl, hrow⟩, fun i hi => (hown i hi).mono (Nat.le_succ _)⟩

end Go.Proofs.Qxb6603233a
