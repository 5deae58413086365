import Derived.Test.Qxb6602686aFn6
import Derived.Test.Qxb6602686aEkW
namespace Go.Proofs.Qxb6602686a
open Go.RowKit

theorem ResO.below {w w' : World} {m : Nat} {aR : Option Addr} {gr : Nat} {r : Nat → Int} (h : ResO w m aR gr r) (hb : Below w.heap.size w w') : ResO w' m aR gr r :=
  ⟨fun h0 => ⟨(h.1 h0).1, (h.1 h0).2.of_block (hb.block _ (h.1 h0).2.lt)⟩, fun x e => Nat.lt_of_lt_of_le (h.2 x e) hb.size⟩

theorem work_own {w : World} {B m : Nat} {v : Value} {r : Nat → Int} (h : Own w B 2 v m (fun a => .int .i64 (r a))) {z : Nat} (h0 : z < w.heap.size) : ∃ aR cR gr, v = .slice aR m cR ∧ ResO w m aR gr r ∧ gr < w.heap.size ∧ ((gr = z ∧ m = 0) ∨ B ≤ gr) := by
  rcases h with ⟨rfl, rfl⟩ | ⟨g, hg, rfl, hr⟩
  · exact ⟨none, 0, z, rfl, ⟨fun h => by omega, fun x e => by cases e⟩, h0, .inl ⟨rfl, rfl⟩⟩
  · exact ⟨_, _, g, rfl, ⟨fun _ => ⟨rfl, hr⟩, fun x e => by cases e; exact hr.lt⟩, hr.lt, .inr hg⟩
set_option maxHeartbeats 8000000 in
set_option maxRecDepth 100000 in
theorem f5_any (v0 v1 v2 : Value) (s t : Int) (n m k : Nat) (A : Nat → Option Addr) (L C : Nat → Nat) (G : Nat → Nat → Int) (H R : Nat → Int) (w : World)
    (h0 : SS w v0 n A L C (fun i j => .int .i64 (G i j))) (h1 : SV w v1 m (fun a => .int .i64 (H a))) (h2 : SV w v2 k (fun a => .int .i64 (R a))) (hR : ∀ a, a < k → R a ≤ 9223372036854775807) :
    Calls Try.prog 5 #[v0, v1, v2, .int .i64 s, .int .i64 t] w fun e w' => F6Post w w' e := by
  have H0 := hide h0
  have H1 := hide h1
  have H2 := hide h2
  have HRm := hide hR
  clear h0 h1 h2 hR
  go_enter Try.func5, Try.ntmps5
  go_wp2_with fail
  refine (bytes17_any v0 v1 v2 s t n m k _ _ A L C _ w H0.out H1.out H2.out).mono ?_
  rintro e w' ⟨⟨b, rfl, hb⟩, hw⟩
  obtain rfl : w = w' := hw.symm
  clear hw
  cases b with
  | false =>
    clear hb
    go_wp2_with fail
    go_ret
    exact ⟨rfl, Below.refl _ _⟩
  | true =>
    have FIT := hide (hb rfl)
    clear hb
    go_wp2_with fail
    refine (fit18_any v0 v1 v2 n m k _ _ A L C _ w H0.out H1.out H2.out FIT.out).mono ?_
    rintro e w' ⟨⟨b, rfl, -⟩, hw⟩
    obtain rfl : w = w' := hw.symm
    clear hw
    cases b with
    | false =>
      go_wp2_with fail
      go_ret
      exact ⟨rfl, Below.refl _ _⟩
    | true =>
      go_wp2_with fail
      refine (domain19_any v0 v1 v2 s t n m k A L C G H R w H0.out H1.out H2.out FIT.out HRm.out).mono ?_
      rintro e w1 ⟨⟨b, rfl, hb⟩, hb1⟩
      have B1 := hide hb1
      clear hb1
      cases b with
      | false =>
        clear hb
        go_wp2_with fail
        go_ret
        exact ⟨rfl, B1.out⟩
      | true =>
        obtain ⟨N, hkm, hV, hm, hL, hs, ht, hG, hH, ok, sz, cap⟩ := (hb rfl).1.net FIT.out
        have hlt1 := (hb rfl).2
        subst hkm hV hm hL hs ht
        have HG := hide hG
        have HH := hide hH
        have OK := hide ok
        have SZ := hide sz
        have CP := hide cap
        clear hb hG hH ok sz cap
        go_wp2_with fail
        refine (cloneIs_any v0 N.V _ N.L G w1 (H0.out.1.below B1.out) SZ.out.V (fun i hi => ⟨(H0.out.2 i hi).below B1.out, SZ.out.L i hi⟩)).mono ?_
        rintro e w2 ⟨v0', cv, rfl, hb2, ho2, hr2⟩
        have B2 := hide hb2
        have O2 := hide ho2
        have O2r := hide hr2
        clear hb2 ho2 hr2
        go_wp2_with fail
        refine (cloneI_any v1 N.m H w2 ((H1.out.below B1.out).below B2.out) SZ.out.m).mono ?_
        rintro e w3 ⟨v1', rfl, hb3, ho3⟩
        have B3 := hide hb3
        have hOH := ho3
        have ND := netD_of_own (N := N) (B := w1.heap.size) (O2.out.below B3.out) (fun i hi => ((O2r.out i hi).below B3.out).congr (fun j hj => by unfold kn; rw [HG.out i hi j hj])) ((ho3.mono B2.out.size).congr (fun a ha => by unfold kn; rw [HH.out a ha])) SZ.out
        obtain ⟨aA, cA, aH, cH, A', C', rfl, rfl, hD3⟩ := ND
        have D3 := hide hD3
        clear hb3 ho3 hOH hD3 O2 O2r
        go_wp2_with fail
        refine (cloneL_any v2 N.m R w3 (((H2.out.below B1.out).below B2.out).below B3.out) SZ.out.m).mono ?_
        rintro e w4 ⟨v2', rfl, hb4, ho4⟩
        have B4 := hide hb4
        have Q4 := hide (ho4.sv (by have := SZ.out.m; omega))
        have hs12 := B2.out.size
        have hs23 := B3.out.size
        have hs34 := B4.out.size
        obtain ⟨aQ, cQ, g1, rfl, hres1, hgr1, hgo1⟩ := work_own (z := w.heap.size) ho4 (by omega)
        have RES4 := hide hres1
        clear hb4 ho4 hres1
        go_wp2_with fail
        refine (cloneL_any _ N.m R w4 Q4.out SZ.out.m).mono ?_
        rintro e w5 ⟨v3', rfl, hb5, ho5⟩
        have B5 := hide hb5
        have hs45 := hb5.size
        obtain ⟨aR, cR, gr, rfl, hres, hgr, hgo⟩ := work_own (z := w.heap.size) ho5 (by omega)
        have RES := hide hres
        have D5 := hide ((D3.out.below B4.out).below B5.out)
        have RES5 := hide (RES4.out.below B5.out)
        have SZS := hide (And.intro hs12 (And.intro hs23 (And.intro hs34 (And.intro hs45 (And.intro hgr (And.intro hgo (And.intro hgr1 (And.intro hgo1 hlt1))))))))
        clear hb5 ho5 hres hlt1 hs12 hs23 hs34 hs45 hgr hgo hgr1 hgo1
        go_wp2_with fail
        refine (cut23_any N OK.out SZ.out aA aH aQ cA cH cQ A' C' w1.heap.size w3.heap.size g1 R CP.out w5 D5.out (by have := SZS.out; omega) RES5.out (by have := SZS.out; omega) (by have := SZS.out; omega)).mono ?_
        rintro e w6 ⟨r, h, ex, cur, qd, d, g, rfl, hg, P, D, hrow, hres6, hch⟩
        obtain ⟨S, hS⟩ : ∃ S : Nat → Bool, S = fun v => decide (d v < N.V) := ⟨_, rfl⟩
        have F1 : Hid (Flw N R r S) := hide (by rw [hS]; exact flw_cut OK.out P D)
        have CH := hide hch
        have ROW : Hid (w6.rowIs g 4 N.V (fun v => .bool (S v))) := hide (by rw [hS]; exact hrow)
        have hs56 := hch.size
        have RES6 : Hid (ResO w6 N.m aR gr R) := by
          have hz := SZS.out
          exact hide ⟨fun h0 => ⟨(RES.out.1 h0).1, (RES.out.1 h0).2.of_block (hch.block _ (by omega) (fun e => by
            have h3 := (RES4.out.1 h0).2.lt
            omega))⟩, fun x e => by have := RES.out.2 x e; omega⟩
        have D6 := hide (D5.out.chg hch (fun k h1 h2 e => by have := SZS.out; omega))
        have HG := hide (And.intro hg hs56)
        clear hrow hres6 hch P D hg hs56 hS
        clear h cur qd d ex
        go_wp2_with fail
        refine (ek24_any N OK.out SZ.out aA aH aR cA cH cR A' C' w1.heap.size w3.heap.size gr R CP.out w6 D6.out RES6.out (by have := SZS.out; have := HG.out; omega) (by have := SZS.out; omega)).mono ?_
        rintro e w7 ⟨r2, c, g2, rfl, hg2, hF2, hrow2, hch2⟩
        have hz := SZS.out
        have hzg := HG.out
        have BEL : Hid (Below w.heap.size w w7) := by
          have hb0 : Below w.heap.size w w5 := up2 (up2 (up2 (up2 B1.out B2.out) B3.out) B4.out) B5.out
          have hb56 : Below w.heap.size w5 w6 := ⟨CH.out.os, CH.out.tape, CH.out.output, CH.out.size, fun k hk => CH.out.block k (by omega) (fun e => by omega)⟩
          have hb67 : Below w.heap.size w6 w7 := ⟨hch2.os, hch2.tape, hch2.output, hch2.size, fun k hk => hch2.block k (by omega) (fun e => by omega)⟩
          exact hide ((hb0.trans hb56).trans hb67)
        have ROW1 : Hid (w7.rowIs g 4 N.V (fun v => .bool (S v))) := hide (ROW.out.of_block (hch2.block _ ROW.out.lt (fun e => by omega)))
        have ROW2 : Hid (w7.rowIs g2 4 N.V (fun v => .bool (S v))) := hide (hrow2.congr (fun v hv => by rw [F1.out.same OK.out hF2 hv]))
        clear hz hzg hg2 hF2 hrow2 hch2 F1 CH ROW RES6 D6 HG RES RES4 RES5 D5 SZS B1 B2 B3 B4 B5 H0 H1 H2 FIT HH HRm D3 Q4 CP
        have hVm := SZ.out.V
        have hbV : (((N.V : Nat) : Int) != ((N.V : Nat) : Int)) = false := by simp
        go_wp2_with fail
        clear hbV
        go_loopw [14] (fun i wr => ∃ v dd : Nat, v ≤ N.V ∧ i = .int .i64 (v : Int) ∧ wr = w7.drewN dd) (fun i _ => N.V - (intOf i).toNat)
        case atStart => exact ⟨0, 0, by omega, rfl, rfl⟩
        case round =>
          obtain ⟨v, dd, hvV, rfl, rfl⟩ := hrel
          by_cases hv : v < N.V
          · as_aux_lemma =>
            have c1 : w7.cell? ⟨g, v, none⟩ = some (.bool (S v)) := ROW1.out.cell hv
            have c2 : w7.cell? ⟨g2, v, none⟩ = some (.bool (S v)) := ROW2.out.cell hv
            generalize S v = sv at *
            have hbb : (sv != sv) = false := by simp
            go_wp2_with fail
            go_quiet (fail)
            go_wp2_with fail
            go_roundw
            case rel => exact ⟨v + 1, _, by omega, by go_num, rfl⟩
            case measure => simp [intOf]; omega
          · have hv' : ¬ ((v : Int) < (N.V : Int)) := by omega
            go_wp2_with fail
            go_ret
            exact ⟨rfl, up2 BEL.out (below_drewN (Below.refl _ _) dd)⟩
end Go.Proofs.Qxb6602686a
