import Derived.Test.Qxb6602686aNet
import Derived.Test.Qxb6602686aNetW
import Derived.Test.Qxb6602686aSum
import Derived.Test.Qxb6602686aPR
namespace Go.Proofs.Qxb6602686a
open Go.RowKit

/-- the sizes, as zzBytes finds them -/
def FitN (n m k : Nat) (L : Nat → Nat) : Prop := n ≤ 1048576 ∧ m ≤ 1048576 ∧ k ≤ 1048576 ∧ ∀ i, i < n → L i ≤ 1048576

set_option maxHeartbeats 2000000 in
theorem bytes17_any (v0 v1 v2 : Value) (s t : Int) (n m k : Nat) (f1 f2 : Nat → Value) (A : Nat → Option Addr) (L C : Nat → Nat) (F : Nat → Nat → Value) (w : World)
    (h0 : SS w v0 n A L C F) (h1 : SV w v1 m f1) (h2 : SV w v2 k f2) :
    Calls Try.prog 17 #[v0, v1, v2, .int .i64 s, .int .i64 t] w fun e w' => RB e (FitN n m k L) ∧ w' = w := by
  obtain ⟨a1, c1, rfl, b1, _, _⟩ := h1
  obtain ⟨a2, c2, rfl, b2, _, _⟩ := h2
  obtain ⟨⟨a0, c0, rfl, b0, ha0, hc0⟩, hF⟩ := h0
  have hL : ∀ i, i < n → L i ≤ 281474976710656 := fun i hi => by
    obtain ⟨_, _, _, h, _⟩ := hF i hi
    exact h
  have HL := hide hL
  clear hF hL
  have hix := fun w' i h0 hi => idx_any (P := Try.prog) Try.underlying29 sz30 (n := n) (a := a0) c0 ha0 w' i h0 hi
  have HA := hide ha0
  clear ha0
  by_cases g0 : (1048576 : Int) < (n : Int)
  · go_enter Try.func17, Try.ntmps17
    go_wp2
    go_ret
    exact ⟨RB.no _, rfl⟩
  go_enter Try.func17, Try.ntmps17
  go_wp2
  go_loop [11, 12] (fun s i => ∃ j z : Nat, j ≤ n ∧ i = .int .i64 j ∧ s = .int .i64 z ∧ z ≤ 1048576 ∧ Hid (∀ i, i < j → L i ≤ 1048576)) (fun _ i => n - (intOf i).toNat)
  case atStart => exact ⟨0, n, by omega, rfl, by go_num, by omega, hide (fun i hi => by omega)⟩
  case round =>
    obtain ⟨j, z, hj, rfl, rfl, hz, HK⟩ := hrel
    by_cases hjn : j < n
    · have hcell := hc0 j hjn
      have hlk := HL.out j hjn
      by_cases g1 : (1048576 : Int) < (L j : Int)
      · go_wp2
        go_ret
        exact ⟨RB.no _, rfl⟩
      · by_cases g2 : (1048576 : Int) < (z : Int) + (L j : Int)
        · go_wp2
          go_ret
          exact ⟨RB.no _, rfl⟩
        · go_wp2
          go_round
          case rel => exact ⟨j + 1, z + L j, by omega, by go_num, by go_num, by omega, hide (fun i hi => by
            by_cases e : i = j
            · rw [e]; omega
            · exact HK.out i (by omega))⟩
          case measure => simp [intOf]; omega
    · have hjn' : j = n := by omega
      subst hjn'
      go_wp2
      all_goals go_ret
      all_goals first | exact ⟨RB.no _, rfl⟩ | exact ⟨RB.yes ⟨by omega, by omega, by omega, HK.out⟩, rfl⟩

set_option maxHeartbeats 2000000 in
theorem bytes25_any (v0 v1 v2 : Value) (s t : Int) (n m k : Nat) (f1 f2 : Nat → Value) (A : Nat → Option Addr) (L C : Nat → Nat) (F : Nat → Nat → Value) (w : World)
    (h0 : SS w v0 n A L C F) (h1 : SV w v1 m f1) (h2 : SV w v2 k f2) :
    Calls Try.prog 25 #[v0, v1, v2, .int .i64 s, .int .i64 t] w fun e w' => RB e (FitN n m k L) ∧ w' = w := by
  obtain ⟨a1, c1, rfl, b1, _, _⟩ := h1
  obtain ⟨a2, c2, rfl, b2, _, _⟩ := h2
  obtain ⟨⟨a0, c0, rfl, b0, ha0, hc0⟩, hF⟩ := h0
  have hL : ∀ i, i < n → L i ≤ 281474976710656 := fun i hi => by
    obtain ⟨_, _, _, h, _⟩ := hF i hi
    exact h
  have HL := hide hL
  clear hF hL
  have hix := fun w' i h0 hi => idx_any (P := Try.prog) Try.underlying29 sz30 (n := n) (a := a0) c0 ha0 w' i h0 hi
  have HA := hide ha0
  clear ha0
  by_cases g0 : (1048576 : Int) < (n : Int)
  · go_enter Try.func25, Try.ntmps25
    go_wp2
    go_ret
    exact ⟨RB.no _, rfl⟩
  go_enter Try.func25, Try.ntmps25
  go_wp2
  go_loop [11, 12] (fun s i => ∃ j z : Nat, j ≤ n ∧ i = .int .i64 j ∧ s = .int .i64 z ∧ z ≤ 1048576 ∧ Hid (∀ i, i < j → L i ≤ 1048576)) (fun _ i => n - (intOf i).toNat)
  case atStart => exact ⟨0, n, by omega, rfl, by go_num, by omega, hide (fun i hi => by omega)⟩
  case round =>
    obtain ⟨j, z, hj, rfl, rfl, hz, HK⟩ := hrel
    by_cases hjn : j < n
    · have hcell := hc0 j hjn
      have hlk := HL.out j hjn
      by_cases g1 : (1048576 : Int) < (L j : Int)
      · go_wp2
        go_ret
        exact ⟨RB.no _, rfl⟩
      · by_cases g2 : (1048576 : Int) < (z : Int) + (L j : Int)
        · go_wp2
          go_ret
          exact ⟨RB.no _, rfl⟩
        · go_wp2
          go_round
          case rel => exact ⟨j + 1, z + L j, by omega, by go_num, by go_num, by omega, hide (fun i hi => by
            by_cases e : i = j
            · rw [e]; omega
            · exact HK.out i (by omega))⟩
          case measure => simp [intOf]; omega
    · have hjn' : j = n := by omega
      subst hjn'
      go_wp2
      all_goals go_ret
      all_goals first | exact ⟨RB.no _, rfl⟩ | exact ⟨RB.yes ⟨by omega, by omega, by omega, HK.out⟩, rfl⟩

set_option maxHeartbeats 2000000 in
theorem fit18_any (v0 v1 v2 : Value) (n m k : Nat) (f1 f2 : Nat → Value) (A : Nat → Option Addr) (L C : Nat → Nat) (F : Nat → Nat → Value) (w : World)
    (h0 : SS w v0 n A L C F) (h1 : SV w v1 m f1) (h2 : SV w v2 k f2) (fit : FitN n m k L) :
    Calls Try.prog 18 #[v0, v1, v2] w fun e w' => RB e True ∧ w' = w := by
  obtain ⟨q0, q1, q2, hL⟩ := fit
  obtain ⟨a1, c1, rfl, b1, _, _⟩ := h1
  obtain ⟨a2, c2, rfl, b2, _, _⟩ := h2
  obtain ⟨⟨a0, c0, rfl, b0, ha0, hc0⟩, hF⟩ := h0
  have HL := hide hL
  clear hF hL
  have hix := fun w' i h0 hi => idx_any (P := Try.prog) Try.underlying29 sz30 (n := n) (a := a0) c0 ha0 w' i h0 hi
  have HA := hide ha0
  clear ha0
  have g0 : ¬ (1048576 : Int) < (n : Int) := by omega
  have g1 : ¬ (1048576 : Int) < (m : Int) := by omega
  have g2 : ¬ (1048576 : Int) < (k : Int) := by omega
  by_cases gt : (1048576 : Int) < 8 * (n : Int) + 8 * (m : Int) + 8 * (k : Int)
  · go_enter Try.func18, Try.ntmps18
    go_wp2
    go_ret
    exact ⟨RB.no _, rfl⟩
  go_enter Try.func18, Try.ntmps18
  go_wp2
  go_loop [7, 8] (fun s i => ∃ j z : Nat, j ≤ n ∧ i = .int .i64 j ∧ s = .int .i64 z ∧ z ≤ 1048576) (fun _ i => n - (intOf i).toNat)
  case atStart => exact ⟨0, 8 * n + 8 * m + 8 * k, by omega, rfl, by go_num, by omega⟩
  case round =>
    obtain ⟨j, z, hj, rfl, rfl, hz⟩ := hrel
    by_cases hjn : j < n
    · have hcell := hc0 j hjn
      have hlk := HL.out j hjn
      have g1 : ¬ (1048576 : Int) < (L j : Int) := by omega
      by_cases g2 : (1048576 : Int) < (z : Int) + 8 * (L j : Int)
      · go_wp2
        go_ret
        exact ⟨RB.no _, rfl⟩
      · go_wp2
        go_round
        case rel => exact ⟨j + 1, z + 8 * L j, by omega, by go_num, by go_num, by omega⟩
        case measure => simp [intOf]; omega
    · have hjn' : j = n := by omega
      subst hjn'
      go_wp2
      go_ret
      exact ⟨RB.yes trivial, rfl⟩

/-! ### zzNetDomain -/
/-- the network that the arguments lay out -/
def netOf (n m : Nat) (L : Nat → Nat) (G : Nat → Nat → Int) (H : Nat → Int) (s t : Int) : Net := ⟨n, m, L, fun v j => (G v j).toNat, fun a => (H a).toNat, s.toNat, t.toNat⟩
structure DomN (n m k : Nat) (L : Nat → Nat) (G : Nat → Nat → Int) (H R : Nat → Int) (s t : Int) : Prop where
  km : k = m
  s0 : 0 ≤ s
  t0 : 0 ≤ t
  H0 : ∀ a, a < m → 0 ≤ H a
  G0 : ∀ v j, v < n → j < L v → 0 ≤ G v j
  ok : NetOk (netOf n m L G H s t)
  cap : Cap (netOf n m L G H s t) R
/-- the arcs that were looked at before arc j of v -/
def Was (L : Nat → Nat) (v j u i : Nat) : Prop := (u < v ∧ i < L u) ∨ (u = v ∧ i < j)
structure SeenI (m : Nat) (L : Nat → Nat) (G : Nat → Nat → Int) (H : Nat → Int) (seen : Nat → Bool) (v j : Nat) : Prop where
  ok : ∀ u i, Was L v j u i → 0 ≤ G u i ∧ G u i < m ∧ H (tw (G u i).toNat) = u ∧ seen (G u i).toNat = true
  inj : ∀ u i i', Was L v j u i → Was L v j u i' → G u i = G u i' → i = i'
  back : ∀ a, a < m → seen a = true → ∃ u i, Was L v j u i ∧ (G u i).toNat = a
theorem SeenI.start (m : Nat) (L : Nat → Nat) (G : Nat → Nat → Int) (H : Nat → Int) : SeenI m L G H (fun _ => false) 0 0 := by
  refine ⟨fun u i h => ?_, fun u i i' h => ?_, fun a _ h => by cases h⟩
  · unfold Was at h; omega
  · unfold Was at h; omega
theorem SeenI.step {m : Nat} {L : Nat → Nat} {G : Nat → Nat → Int} {H : Nat → Int} {seen : Nat → Bool} {v j a : Nat} (S : SeenI m L G H seen v j) (ha : G v j = a) (ham : a < m) (hs : seen a = false) (hh : H (tw a) = v) :
    SeenI m L G H (fun i => if i = a then true else seen i) v (j + 1) := by
  have up : ∀ {u i}, Was L v (j + 1) u i → Was L v j u i ∨ (u = v ∧ i = j) := fun {u i} h => by unfold Was at *; omega
  have dn : ∀ {u i}, Was L v j u i → Was L v (j + 1) u i := fun {u i} h => by unfold Was at *; omega
  have hn : ∀ {u i}, Was L v j u i → G u i ≠ a := fun {u i} h e => by
    have := (S.ok u i h).2.2.2
    rw [e, Int.toNat_natCast, hs] at this
    cases this
  refine ⟨fun u i h => ?_, fun u i i' h h' e => ?_, fun b hb h => ?_⟩
  · rcases up h with h1 | ⟨rfl, rfl⟩
    · obtain ⟨a1, a2, a3, a4⟩ := S.ok u i h1
      refine ⟨a1, a2, a3, ?_⟩
      show (if (G u i).toNat = a then true else seen (G u i).toNat) = true
      rw [a4]; simp
    · rw [ha]
      refine ⟨by omega, by omega, by rw [Int.toNat_natCast]; exact hh, ?_⟩
      simp
  · rcases up h with h1 | ⟨rfl, rfl⟩
    · rcases up h' with h2 | ⟨rfl, rfl⟩
      · exact S.inj u i i' h1 h2 e
      · exact absurd (e.trans ha) (hn h1)
    · rcases up h' with h2 | ⟨_, rfl⟩
      · exact absurd (e.symm.trans ha) (hn h2)
      · rfl
  · by_cases e : b = a
    · subst e
      exact ⟨v, j, .inr ⟨rfl, by omega⟩, by rw [ha, Int.toNat_natCast]⟩
    · have h1 : seen b = true := by simpa [e] using h
      obtain ⟨u, i, hw, he⟩ := S.back b hb h1
      exact ⟨u, i, dn hw, he⟩
theorem SeenI.close {m : Nat} {L : Nat → Nat} {G : Nat → Nat → Int} {H : Nat → Int} {seen : Nat → Bool} {v : Nat} (S : SeenI m L G H seen v (L v)) : SeenI m L G H seen (v + 1) 0 := by
  have e : ∀ {u i}, Was L (v + 1) 0 u i ↔ Was L v (L v) u i := fun {u i} => by
    unfold Was
    constructor
    · rintro (⟨h1, h2⟩ | h)
      · by_cases e : u = v
        · subst e; exact .inr ⟨rfl, h2⟩
        · exact .inl ⟨by omega, h2⟩
      · omega
    · rintro (⟨h1, h2⟩ | ⟨rfl, h2⟩)
      · exact .inl ⟨by omega, h2⟩
      · exact .inl ⟨by omega, h2⟩
  refine ⟨fun u i h => S.ok u i (e.1 h), fun u i i' h h' => S.inj u i i' (e.1 h) (e.1 h'), fun a ha h => ?_⟩
  obtain ⟨u, i, hw, he⟩ := S.back a ha h
  exact ⟨u, i, e.2 hw, he⟩
theorem tw_even (b : Nat) : tw (2 * b) = 2 * b + 1 := by rw [tw_eq, if_pos (by omega)]
theorem tw_odd (b : Nat) : tw (2 * b + 1) = 2 * b := by rw [tw_eq, if_neg (by omega)]; omega
theorem DomN.mk' {n m : Nat} {L : Nat → Nat} {G : Nat → Nat → Int} {H R : Nat → Int} {s t : Int} {seen : Nat → Bool} (hs0 : 0 ≤ s) (hsn : s < n) (ht0 : 0 ≤ t) (htn : t < n) (hst : s ≠ t) (hm : m % 2 = 0)
    (hH : ∀ a, a < m → 0 ≤ H a ∧ H a < n ∧ 0 ≤ R a) (hP : ∀ b, 2 * b < m → R (2 * b) + R (2 * b + 1) ≤ 9223372036854775807) (S : SeenI m L G H seen n 0) (hall : ∀ a, a < m → seen a = true)
    (hout : sm (fun i => R (G s.toNat i).toNat) (L s.toNat) ≤ 9223372036854775807) : DomN n m m L G H R s t := by
  have was : ∀ {v j}, v < n → j < L v → Was L n 0 v j := fun h1 h2 => .inl ⟨h1, h2⟩
  refine ⟨rfl, hs0, ht0, fun a ha => (hH a ha).1, fun v j hv hj => (S.ok v j (was hv hj)).1, ⟨?_, ?_, ?_, hm, ?_, ?_, ?_, ?_⟩, ⟨fun a ha => (hH a ha).2.2, fun a ha => ?_, hout⟩⟩
  · show s.toNat < n; omega
  · show t.toNat < n; omega
  · show s.toNat ≠ t.toNat; omega
  · intro a ha
    have := hH a ha
    show (H a).toNat < n
    omega
  · intro v j hv hj
    obtain ⟨h1, h2, h3, _⟩ := S.ok v j (was hv hj)
    refine ⟨?_, ?_⟩
    · show (G v j).toNat < m; omega
    · show (H (tw (G v j).toNat)).toNat = v
      rw [h3]; simp
  · intro a ha
    obtain ⟨u, i, hw, he⟩ := S.back a ha (hall a ha)
    have h3 := (S.ok u i hw).2.2.1
    rw [he] at h3
    have hu : (netOf n m L G H s t).tl a = u := by
      show (H (tw a)).toNat = u
      rw [h3]; simp
    rw [hu]
    refine ⟨i, ?_, he⟩
    show i < L u
    unfold Was at hw; omega
  · intro v i j hv hi hj e
    have e' : (G v i).toNat = (G v j).toNat := e
    have h1 := (S.ok v i (was hv hi)).1
    have h2 := (S.ok v j (was hv hj)).1
    exact S.inj v i j (was hv hi) (was hv hj) (by omega)
  · have ha' : a < m := ha
    rcases Nat.mod_two_eq_zero_or_one a with h | h
    · obtain ⟨b, rfl⟩ : ∃ b, a = 2 * b := ⟨a / 2, by omega⟩
      rw [tw_even]; exact hP b ha'
    · obtain ⟨b, rfl⟩ : ∃ b, a = 2 * b + 1 := ⟨a / 2, by omega⟩
      rw [tw_odd, Int.add_comm]; exact hP b (by omega)
end Go.Proofs.Qxb6602686a
