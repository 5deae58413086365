import Derived.Test.Qxb6602686aRelab
namespace Go.Proofs.Qxb6602686a
open Go.RowKit

theorem min2_run (a b : Int) (w : World) : (Builtin.min2 (.int .i64 a) (.int .i64 b)).run Try.prog w = .ok (.int .i64 (min a b)) w := by
  simp [Builtin.min2, go_sem]
  split <;> omega
theorem min_run (T : TypeId) (a b : Int) (ty : TypeId) (w : World) : (Builtin.min_ #[T, T] ty #[.int .i64 a, .int .i64 b]).run Try.prog w = .ok (.int .i64 (min a b)) w := by
  have := min2_run a b w
  simp [Builtin.min_, this]
/-- the lowest height among the first j neighbours, V - 1 at most -/
structure LowIs (N : Net) (r : Nat → Int) (h : Nat → Nat) (v j low : Nat) : Prop where
  top : low + 1 ≤ N.V
  le : ∀ i, i < j → 0 < r (N.arc v i) → low ≤ h (N.hd (N.arc v i))
  at_ : low + 1 = N.V ∨ ∃ i, i < j ∧ 0 < r (N.arc v i) ∧ low = h (N.hd (N.arc v i))
theorem LowIs.skip {N : Net} {r : Nat → Int} {h : Nat → Nat} {v j low : Nat} (L : LowIs N r h v j low) (hr : ¬ 0 < r (N.arc v j)) : LowIs N r h v (j + 1) low := by
  refine ⟨L.top, fun i hi hri => ?_, ?_⟩
  · by_cases e : i = j
    · subst e; exact absurd hri hr
    · exact L.le i (by omega) hri
  · rcases L.at_ with h | ⟨i, hi, h1, h2⟩
    · exact .inl h
    · exact .inr ⟨i, by omega, h1, h2⟩
theorem LowIs.take {N : Net} {r : Nat → Int} {h : Nat → Nat} {v j low : Nat} (L : LowIs N r h v j low) (hr : 0 < r (N.arc v j)) : LowIs N r h v (j + 1) (min low (h (N.hd (N.arc v j)))) := by
  refine ⟨by have := L.top; omega, fun i hi hri => ?_, ?_⟩
  · by_cases e : i = j
    · subst e; omega
    · have := L.le i (by omega) hri; omega
  · by_cases hl : low ≤ h (N.hd (N.arc v j))
    · rw [Nat.min_eq_left hl]
      rcases L.at_ with h | ⟨i, hi, h1, h2⟩
      · exact .inl h
      · exact .inr ⟨i, by omega, h1, h2⟩
    · rw [Nat.min_eq_right (by omega)]
      exact .inr ⟨j, by omega, hr, rfl⟩
def LowPost (w w' : World) (N : Net) (r : Nat → Int) (h : Nat → Nat) (v : Nat) (e : Ending) : Prop := ∃ low, e = .returned (.int .i64 (low : Nat)) ∧ LowIs N r h v (N.L v) low ∧ w' = w

set_option maxHeartbeats 4000000 in
set_option maxRecDepth 100000 in
theorem lowest_any (N : Net) (ok : NetOk N) (sz : NetSz N) (Y : Lay) (r : Nat → Int) (h : Nat → Nat) (gh v : Nat) (F : Nat → Prop) (w : World) (hS : NetS w N Y F)
    (hR : SV w (.slice Y.aR N.m Y.cR) N.m (fun a => .int .i64 (r a))) (hrow : w.rowIs gh 3 N.V (fun x => kn (h x))) (hv : v < N.V) :
    Calls Try.prog 30 #[.pointer (some ⟨Y.p, 0, none⟩), .int .i64 (v : Nat), .slice (some ⟨gh, 0, none⟩) N.V N.V] w fun e w' => LowPost w w' N r h v e := by
  have HS := hide hS
  have HR := hide hR
  have OK := hide ok
  have SZ := hide sz
  have HW := hide hrow
  have c0 := hS.c0
  have hV := sz.V
  have hLv := sz.L v hv
  have hix0 := fun w' ii h0 hi => idx_any (P := Try.prog) Try.underlying29 sz30 (n := N.V) (a := Y.aA) Y.cA (sv_some' hS.top) w' ii h0 hi
  have hc0 := sv_cell' hS.top v hv
  have hmin := fun a b ty w => min_run 3 a b ty w
  clear hS hR ok sz hrow
  go_enter Try.func30, Try.ntmps30
  go_wp2_with fail
  go_loop [7, 24] (fun x i => ∃ low j : Nat, j ≤ N.L v ∧ x = .int .i64 low ∧ i = .int .i64 j ∧ Hid (LowIs N r h v j low)) (fun _ i => N.L v - (intOf i).toNat)
  case atStart => exact ⟨N.V - 1, 0, by omega, by go_num, rfl, hide ⟨by omega, fun i hi => by omega, .inl (by omega)⟩⟩
  case round =>
    obtain ⟨low, j, hj, rfl, rfl, LI⟩ := hrel
    by_cases hjn : j < N.L v
    · have hix1 := fun w' ii h0 hi => idx_any (P := Try.prog) Try.underlying30 sz3 (n := N.L v) (a := Y.A v) (Y.C v) (sv_some' (HS.out.row v hv)) w' ii h0 hi
      have hc1 := sv_cell' (HS.out.row v hv) j hjn
      obtain ⟨ham, hat⟩ := OK.out.arc v j hv hjn
      have hzV := OK.out.hd _ ham
      have hix2 := fun w' ii h0 hi => idx_any (P := Try.prog) Try.underlying30 sz3 (n := N.m) (a := Y.aH) Y.cH (sv_some' HS.out.hd) w' ii h0 hi
      have hc2 := sv_cell' HS.out.hd _ ham
      have hix3 := fun w' ii h0 hi => idx_any (P := Try.prog) Try.underlying31 sz2 (n := N.m) (a := Y.aR) Y.cR (sv_some' HR.out) w' ii h0 hi
      have hc3 := sv_cell' HR.out _ ham
      have f1 := HS.out.c1
      have f2 := HS.out.c2
      have hcz := HW.out.cell hzV
      unfold kn at hc1 hc2 hcz
      have hmm := SZ.out.m
      by_cases hr : 0 < r (N.arc v j)
      · have LN := hide (LI.out.take hr)
        generalize h (N.hd (N.arc v j)) = hz at *
        generalize N.hd (N.arc v j) = z at *
        generalize r (N.arc v j) = rt at *
        generalize N.arc v j = ar at *
        go_wp2_with fail
        go_round
        case rel => exact ⟨min low hz, j + 1, by omega, by go_num, by go_num, LN⟩
        case measure => simp [intOf]; omega
      · have LN := hide (LI.out.skip hr)
        generalize h (N.hd (N.arc v j)) = hz at *
        generalize N.hd (N.arc v j) = z at *
        generalize r (N.arc v j) = rt at *
        generalize N.arc v j = ar at *
        go_wp2_with fail
        go_round
        case rel => exact ⟨low, j + 1, by omega, rfl, by go_num, LN⟩
        case measure => simp [intOf]; omega
    · have hjn' : N.L v = j := by omega
      have LN : Hid (LowIs N r h v (N.L v) low) := by rw [hjn']; exact LI
      clear hjn'
      go_wp2_with fail
      go_ret
      exact ⟨low, rfl, LN.out, rfl⟩
end Go.Proofs.Qxb6602686a
