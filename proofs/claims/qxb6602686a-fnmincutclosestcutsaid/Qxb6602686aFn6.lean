import Derived.Test.Qxb6602686aZc
namespace Go.Proofs.Qxb6602686a
open Go.RowKit

theorem Own.congr {w : World} {B : Nat} {E : TypeId} {v : Value} {n : Nat} {f g : Nat → Value} (h : Own w B E v n f) (e : ∀ i, i < n → f i = g i) : Own w B E v n g := by
  rcases h with h | ⟨b, hb, hv, hr⟩
  · exact .inl h
  · exact .inr ⟨b, hb, hv, hr.congr e⟩
theorem up2 {a b c : World} (h : Below a.heap.size a b) (k : Below b.heap.size b c) : Below a.heap.size a c := h.trans (k.mono h.size)
/-- the arguments are a network -/
theorem DomN.net {n m k : Nat} {L : Nat → Nat} {G : Nat → Nat → Int} {H R : Nat → Int} {s t : Int} (D : DomN n m k L G H R s t) (fit : FitN n m k L) :
    ∃ N : Net, k = m ∧ n = N.V ∧ m = N.m ∧ L = N.L ∧ s = (N.s : Int) ∧ t = (N.t : Int) ∧ (∀ v, v < N.V → ∀ j, j < N.L v → G v j = (N.arc v j : Int)) ∧ (∀ a, a < N.m → H a = (N.hd a : Int)) ∧ NetOk N ∧ NetSz N ∧ Cap N R := by
  refine ⟨netOf n m L G H s t, D.km, rfl, rfl, rfl, ?_, ?_, fun v hv j hj => ?_, fun a ha => ?_, D.ok, ⟨fit.1, fit.2.1, fit.2.2.2⟩, D.cap⟩
  · have := D.s0
    show s = (s.toNat : Int)
    omega
  · have := D.t0
    show t = (t.toNat : Int)
    omega
  · have := D.G0 v j hv hj
    show G v j = ((G v j).toNat : Int)
    omega
  · have := D.H0 a ha
    show H a = ((H a).toNat : Int)
    omega
/-- behind the call of minCut, all that func 6 looks at -/
structure Rdy (w w6 : World) (N : Net) (R r : Nat → Int) (S : Nat → Bool) (aA : Option Addr) (cA : Nat) (aH : Option Addr) (cH : Nat) (A : Nat → Option Addr) (C : Nat → Nat) (aQ : Option Addr) (cQ : Nat) (aR : Option Addr) (cR g : Nat) : Prop where
  bel : Below w.heap.size w w6
  D : ∃ lo hi, NetD w6 N aA cA aH cH A C lo hi
  q : SV w6 (.slice aQ N.m cQ) N.m (fun a => .int .i64 (R a))
  r : SV w6 (.slice aR N.m cR) N.m (fun a => .int .i64 (r a))
  sd : w6.rowIs g 4 N.V (fun v => .bool (S v))
theorem Rdy.drew {w w6 : World} {N : Net} {R r : Nat → Int} {S : Nat → Bool} {aA : Option Addr} {cA : Nat} {aH : Option Addr} {cH : Nat} {A : Nat → Option Addr} {C : Nat → Nat} {aQ : Option Addr} {cQ : Nat} {aR : Option Addr} {cR g : Nat}
    (h : Rdy w w6 N R r S aA cA aH cH A C aQ cQ aR cR g) (d : Nat) : Rdy w (w6.drewN d) N R r S aA cA aH cH A C aQ cQ aR cR g := by
  have hb : Below w6.heap.size w6 (w6.drewN d) := below_drewN (Below.refl _ _) d
  obtain ⟨lo, hi, D⟩ := h.D
  exact ⟨up2 h.bel hb, ⟨lo, hi, D.below hb⟩, h.q.below hb, h.r.below hb, h.sd.of_block (hb.block _ h.sd.lt)⟩
/-- where the residuals that minCut works on lie -/
theorem work_at {w : World} {B m : Nat} {v : Value} {r : Nat → Int} (h : Own w B 2 v m (fun a => .int .i64 (r a))) {z : Nat} (h0 : z < w.heap.size) : ∃ aR cR gr, v = .slice aR m cR ∧ ResO w m aR gr r ∧ gr < w.heap.size ∧ (gr = z ∨ B ≤ gr) := by
  rcases h with ⟨rfl, rfl⟩ | ⟨g, hg, rfl, hr⟩
  · exact ⟨none, 0, z, rfl, ⟨fun h => by omega, fun x e => by cases e⟩, h0, .inl rfl⟩
  · exact ⟨_, _, g, rfl, ⟨fun _ => ⟨rfl, hr⟩, fun x e => by cases e; exact hr.lt⟩, hr.lt, .inr hg⟩
def F6Post (w w' : World) (e : Ending) : Prop := e = .returned (.bool true) ∧ Below w.heap.size w w'
theorem wrap64_left (a b : Int) : wrap64 (wrap64 a + b) = wrap64 (a + b) := by unfold wrap64; omega

set_option maxHeartbeats 8000000 in
set_option maxRecDepth 100000 in
theorem f6_any (v0 v1 v2 : Value) (s t : Int) (n m k : Nat) (A : Nat → Option Addr) (L C : Nat → Nat) (G : Nat → Nat → Int) (H R : Nat → Int) (w : World)
    (h0 : SS w v0 n A L C (fun i j => .int .i64 (G i j))) (h1 : SV w v1 m (fun a => .int .i64 (H a))) (h2 : SV w v2 k (fun a => .int .i64 (R a))) (hR : ∀ a, a < k → R a ≤ 9223372036854775807) :
    Calls Try.prog 6 #[v0, v1, v2, .int .i64 s, .int .i64 t] w fun e w' => F6Post w w' e := by
  have H0 := hide h0
  have H1 := hide h1
  have H2 := hide h2
  have HRm := hide hR
  clear h0 h1 h2 hR
  go_enter Try.func6, Try.ntmps6
  go_wp2_with fail
  refine (bytes25_any v0 v1 v2 s t n m k _ _ A L C _ w H0.out H1.out H2.out).mono ?_
  rintro e w' ⟨⟨b, rfl, hb⟩, hw⟩
  obtain rfl : w = w' := hw.symm
  clear hw
  cases b with
  | false =>
    clear hb
    go_wp2_with fail
    go_ret
    exact ⟨rfl, Below.refl _ _⟩
  | true =>
    have FIT := hide (hb rfl)
    clear hb
    go_wp2_with fail
    refine (fit18_any v0 v1 v2 n m k _ _ A L C _ w H0.out H1.out H2.out FIT.out).mono ?_
    rintro e w' ⟨⟨b, rfl, -⟩, hw⟩
    obtain rfl : w = w' := hw.symm
    clear hw
    cases b with
    | false =>
      go_wp2_with fail
      go_ret
      exact ⟨rfl, Below.refl _ _⟩
    | true =>
      go_wp2_with fail
      refine (domain19_any v0 v1 v2 s t n m k A L C G H R w H0.out H1.out H2.out FIT.out HRm.out).mono ?_
      rintro e w1 ⟨⟨b, rfl, hb⟩, hb1⟩
      have B1 := hide hb1
      clear hb1
      cases b with
      | false =>
        clear hb
        go_wp2_with fail
        go_ret
        exact ⟨rfl, B1.out⟩
      | true =>
        obtain ⟨N, hkm, hV, hm, hL, hs, ht, hG, hH, ok, sz, cap⟩ := (hb rfl).1.net FIT.out
        have hlt1 := (hb rfl).2
        subst hkm hV hm hL hs ht
        have HG := hide hG
        have HH := hide hH
        have OK := hide ok
        have SZ := hide sz
        have CP := hide cap
        clear hb hG hH ok sz cap
        go_wp2_with fail
        refine (cloneIs_any v0 N.V _ N.L G w1 (H0.out.1.below B1.out) SZ.out.V (fun i hi => ⟨(H0.out.2 i hi).below B1.out, SZ.out.L i hi⟩)).mono ?_
        rintro e w2 ⟨v0', cv, rfl, hb2, ho2, hr2⟩
        have B2 := hide hb2
        have O2 := hide ho2
        have O2r := hide hr2
        clear hb2 ho2 hr2
        go_wp2_with fail
        refine (cloneI_any v1 N.m H w2 ((H1.out.below B1.out).below B2.out) SZ.out.m).mono ?_
        rintro e w3 ⟨v1', rfl, hb3, ho3⟩
        have B3 := hide hb3
        have hOH := ho3
        have ND := netD_of_own (N := N) (B := w1.heap.size) (O2.out.below B3.out) (fun i hi => ((O2r.out i hi).below B3.out).congr (fun j hj => by unfold kn; rw [HG.out i hi j hj])) ((ho3.mono B2.out.size).congr (fun a ha => by unfold kn; rw [HH.out a ha])) SZ.out
        obtain ⟨aA, cA, aH, cH, A', C', rfl, rfl, hD3⟩ := ND
        have D3 := hide hD3
        clear hb3 ho3 hOH hD3 O2 O2r
        go_wp2_with fail
        refine (cloneL_any v2 N.m R w3 (((H2.out.below B1.out).below B2.out).below B3.out) SZ.out.m).mono ?_
        rintro e w4 ⟨v2', rfl, hb4, ho4⟩
        have B4 := hide hb4
        have Q4 := hide (ho4.sv (by have := SZ.out.m; omega))
        obtain ⟨aQ, cQ, rfl, hbQ⟩ := ho4.shape
        have BQ := hide hbQ
        clear hb4 ho4 hbQ
        go_wp2_with fail
        refine (cloneL_any _ N.m R w4 Q4.out SZ.out.m).mono ?_
        rintro e w5 ⟨v3', rfl, hb5, ho5⟩
        have B5 := hide hb5
        have hs12 := B2.out.size
        have hs23 := B3.out.size
        have hs34 := B4.out.size
        have hs45 := hb5.size
        obtain ⟨aR, cR, gr, rfl, hres, hgr, hgo⟩ := work_at (z := w.heap.size) ho5 (by omega)
        have RES := hide hres
        have D5 := hide ((D3.out.below B4.out).below B5.out)
        have Q5 := hide (Q4.out.below B5.out)
        have SZS := hide (And.intro hs12 (And.intro hs23 (And.intro hs34 (And.intro hs45 (And.intro hgr hgo)))))
        have H1P := hide hlt1
        clear hb5 ho5 hres hlt1 hs12 hs23 hs34 hs45 hgr hgo
        go_wp2_with fail
        refine (cut23_any N OK.out SZ.out aA aH aR cA cH cR A' C' w1.heap.size w3.heap.size gr R CP.out w5 D5.out (by have := SZS.out; omega) RES.out SZS.out.2.2.2.2.1 (by have := SZS.out; have := H1P.out; omega)).mono ?_
        rintro e w6 ⟨r, h, ex, cur, qd, d, g, rfl, hg, P, D, hrow, hres6, hch⟩
        have CERT := hide (cert_ok OK.out P D)
        have RD : Hid (Rdy w w6 N R r (fun v => decide (d v < N.V)) aA cA aH cH A' C' aQ cQ aR cR g) := by
          have hz := SZS.out
          have hz1 := H1P.out
          have hb0 : Below w.heap.size w w5 := up2 (up2 (up2 (up2 B1.out B2.out) B3.out) B4.out) B5.out
          have hb56 : Below w.heap.size w5 w6 := ⟨hch.os, hch.tape, hch.output, hch.size, fun k hk => hch.block k (by omega) (fun e => by omega)⟩
          exact hide ⟨hb0.trans hb56, ⟨_, _, D5.out.chg hch (fun k h1 h2 e => by omega)⟩, Q5.out.chg hch (fun x e h => by have := BQ.out x e; omega), hres6.sv SZ.out.m, hrow⟩
        have HRB : Hid (∀ a, a < N.m → 0 ≤ R a ∧ R a ≤ 9223372036854775807 ∧ r a ≤ 9223372036854775807) := hide (fun a ha => by
          have h1 := CP.out.nn a ha
          have h2 := CP.out.nn _ (tw_lt OK.out.even ha)
          have h3 := CP.out.two a ha
          have h4 := P.rp a ha
          have h5 := P.rn _ (tw_lt OK.out.even ha)
          omega)
        clear hg P D hrow hres6 hch D5 Q5 BQ D3 Q4 RES SZS H1P B1 B2 B3 B4 B5 H0 H1 H2 FIT HG HH HRm
        generalize (fun v => decide (d v < N.V)) = S at *
        clear h cur qd d gr
        have ht := OK.out.t
        have hs := OK.out.s
        have cT : w6.cell? ⟨g, N.t, none⟩ = some (.bool true) := by rw [RD.out.sd.cell ht, CERT.out.t]
        have cS : w6.cell? ⟨g, N.s, none⟩ = some (.bool false) := by rw [RD.out.sd.cell hs, CERT.out.s]
        have hVm := SZ.out.V
        have hmm := SZ.out.m
        have hbV : (((N.V : Nat) : Int) != ((N.V : Nat) : Int)) = false := by simp
        have hbm : (((N.m : Nat) : Int) != ((N.m : Nat) : Int)) = false := by simp
        go_wp2_with fail
        clear cT cS hbV hbm
        go_loopw [15] (fun i wr => ∃ e dd : Nat, Hid (e % 2 = 0) ∧ e ≤ N.m ∧ i = .int .i64 (e : Int) ∧ wr = w6.drewN dd) (fun i _ => N.m - (intOf i).toNat)
        case atStart => exact ⟨0, 0, hide rfl, by omega, rfl, rfl⟩
        case round =>
          obtain ⟨e, dd, HE, hem, rfl, rfl⟩ := hrel
          by_cases hek : e < N.m
          · as_aux_lemma =>
            have hek2 : e + 1 < N.m := by have := OK.out.even; have := HE.out; omega
            have htw : tw e = e + 1 := by rw [tw_eq, if_pos HE.out]
            have cr : w6.cell? (adr aR e) = some (.int .i64 (r e)) := sv_cell' RD.out.r e hek
            have cr' : w6.cell? (adr aR (e + 1)) = some (.int .i64 (r (e + 1))) := sv_cell' RD.out.r _ hek2
            have cq : w6.cell? (adr aQ e) = some (.int .i64 (R e)) := sv_cell' RD.out.q e hek
            have cq' : w6.cell? (adr aQ (e + 1)) = some (.int .i64 (R (e + 1))) := sv_cell' RD.out.q _ hek2
            have r1 := CERT.out.rn e hek
            have r2 := CERT.out.rn (e + 1) hek2
            have q1 := HRB.out e hek
            have q2 := HRB.out (e + 1) hek2
            have hsum := CERT.out.rp e hek
            have htwo := CP.out.two e hek
            rw [htw] at hsum htwo
            have hb : (r e + r (e + 1) != R e + R (e + 1)) = false := by simp [hsum]
            have hle : r e + r (e + 1) ≤ 9223372036854775807 := by omega
            clear hsum htw
            have hixR := fun w' i h0 hi => idx_any (P := Try.prog) Try.underlying31 sz2 (n := N.m) (a := aR) cR (sv_some' RD.out.r) w' i h0 hi
            have hixQ := fun w' i h0 hi => idx_any (P := Try.prog) Try.underlying31 sz2 (n := N.m) (a := aQ) cQ (sv_some' RD.out.q) w' i h0 hi
            have hx1 : ∀ w', (Instr.indexAt 31 (.slice aR N.m cR) (.int .i64 (e : Int))).run Try.prog w' = .ok (.pointer (some (adr aR e))) w' := fun w' => by
              rw [hixR w' _ (by omega) (by omega)]; rfl
            have hx2 : ∀ w', (Instr.indexAt 31 (.slice aR N.m cR) (.int .i64 ((e : Int) + 1))).run Try.prog w' = .ok (.pointer (some (adr aR (e + 1)))) w' := fun w' => by
              rw [hixR w' _ (by omega) (by omega)]; rfl
            have hx3 : ∀ w', (Instr.indexAt 31 (.slice aQ N.m cQ) (.int .i64 (e : Int))).run Try.prog w' = .ok (.pointer (some (adr aQ e))) w' := fun w' => by
              rw [hixQ w' _ (by omega) (by omega)]; rfl
            have hx4 : ∀ w', (Instr.indexAt 31 (.slice aQ N.m cQ) (.int .i64 ((e : Int) + 1))).run Try.prog w' = .ok (.pointer (some (adr aQ (e + 1)))) w' := fun w' => by
              rw [hixQ w' _ (by omega) (by omega)]; rfl
            clear hixR hixQ
            generalize r e = x1 at *
            generalize r (e + 1) = x2 at *
            generalize R e = y1 at *
            generalize R (e + 1) = y2 at *
            go_wp2_with fail
            go_quiet (fail)
            go_wp2_with fail
            go_roundw
            case rel => exact ⟨e + 2, _, hide (by have := HE.out; omega), by omega, by go_num, rfl⟩
            case measure => simp [intOf]; omega
          have hek' : N.m = e := by omega
          have RD7 := hide (RD.out.drew dd)
          generalize w6.drewN dd = w7 at *
          clear RD
          have hke : ¬ ((e : Int) < (N.m : Int)) := by omega
          clear hek hek' hem HE
          go_wp2_with fail
          clear hke
          obtain ⟨lo, hi, hND⟩ := RD7.out.D
          have ND := hide hND
          clear hND
          go_loop [16, 17] (fun z i => ∃ (a : Nat) (y : Int), a ≤ N.m ∧ i = .int .i64 (a : Int) ∧ z = .int .i64 y ∧ Hid (y = sm (crossS N S R) a)) (fun _ i => N.m - (intOf i).toNat)
          case atStart => exact ⟨0, 0, by omega, rfl, rfl, hide rfl⟩
          case round =>
            obtain ⟨a, y, ham, rfl, rfl, HY⟩ := hrel
            by_cases hak : a < N.m
            · as_aux_lemma =>
              have htw : tw a < N.m := tw_lt OK.out.even hak
              have ch1 : w7.cell? (adr aH (tw a)) = some (.int .i64 ((N.tl a : Nat) : Int)) := sv_cell' ND.out.hd _ htw
              have ch2 : w7.cell? (adr aH a) = some (.int .i64 ((N.hd a : Nat) : Int)) := sv_cell' ND.out.hd _ hak
              have htl := OK.out.tl hak
              have hhd := OK.out.hd _ hak
              have cs1 : w7.cell? ⟨g, N.tl a, none⟩ = some (.bool (S (N.tl a))) := RD7.out.sd.cell htl
              have cs2 : w7.cell? ⟨g, N.hd a, none⟩ = some (.bool (S (N.hd a))) := RD7.out.sd.cell hhd
              have cr : w7.cell? (adr aR a) = some (.int .i64 (r a)) := sv_cell' RD7.out.r a hak
              have cq : w7.cell? (adr aQ a) = some (.int .i64 (R a)) := sv_cell' RD7.out.q a hak
              have hixH := fun w' i h0 hi => idx_any (P := Try.prog) Try.underlying30 sz3 (n := N.m) (a := aH) cH (sv_some' ND.out.hd) w' i h0 hi
              have hixR := fun w' i h0 hi => idx_any (P := Try.prog) Try.underlying31 sz2 (n := N.m) (a := aR) cR (sv_some' RD7.out.r) w' i h0 hi
              have hixQ := fun w' i h0 hi => idx_any (P := Try.prog) Try.underlying31 sz2 (n := N.m) (a := aQ) cQ (sv_some' RD7.out.q) w' i h0 hi
              have hxor := xor_i64 a (by omega)
              have hcr : ∀ a, a < N.m → 0 ≤ crossS N S R a := fun a ha => by
                unfold crossS
                split
                · exact (HRB.out a ha).1
                · omega
              have hy0 : 0 ≤ sm (crossS N S R) a := sm_nonneg (fun i hi => hcr i (by omega))
              have hy1 : sm (crossS N S R) a + crossS N S R a ≤ ex N.t := by
                rw [← CERT.out.cut]
                exact sm_le_more (j := a + 1) hcr (by omega)
              have hy2 := CERT.out.xm N.t OK.out.t (fun e => OK.out.st e.symm)
              rw [← HY.out] at hy0 hy1
              have HN : Hid (y + crossS N S R a = sm (crossS N S R) (a + 1)) := hide (by rw [HY.out]; rfl)
              have hq := (HRB.out a hak).1
              have hzero := hide (CERT.out.zero a hak)
              have EC : Hid (crossS N S R a = if (!S (N.tl a) && S (N.hd a)) = true then R a else 0) := hide rfl
              have HC := hide hcr
              clear hcr HY
              generalize crossS N S R a = cc at *
              generalize R a = qa at *
              generalize r a = ra at *
              generalize N.hd a = hda at *
              generalize N.tl a = tla at *
              generalize tw a = ta at *
              cases h1 : S tla with
              | true =>
                rw [h1] at cs1
                have EC' : Hid (cc = 0) := hide (by rw [EC.out, h1]; simp)
                clear h1
                go_wp2_with fail
                go_round
                case rel => exact ⟨a + 1, y, by omega, by go_num, rfl, hide (by have := HN.out; have := EC'.out; omega)⟩
                case measure => simp [intOf]; omega
              | false =>
                rw [h1] at cs1
                cases h2 : S hda with
                | false =>
                  rw [h2] at cs2
                  have EC' : Hid (cc = 0) := hide (by rw [EC.out, h2]; simp)
                  clear h1 h2
                  go_wp2_with fail
                  go_round
                  case rel => exact ⟨a + 1, y, by omega, by go_num, rfl, hide (by have := HN.out; have := EC'.out; omega)⟩
                  case measure => simp [intOf]; omega
                | true =>
                  rw [h2] at cs2
                  have EC' : Hid (cc = qa) := hide (by rw [EC.out, h1, h2]; simp)
                  have hz : (ra != 0) = false := by rw [hzero.out h1 h2]; simp
                  clear h1 h2
                  have hyq : y + qa ≤ 9223372036854775807 := by have := EC'.out; omega
                  go_wp2_with fail
                  go_round
                  case rel => exact ⟨a + 1, y + qa, by omega, by go_num, by go_num, hide (by have := HN.out; have := EC'.out; omega)⟩
                  case measure => simp [intOf]; omega
            have hak' : N.m = a := by omega
            have hy : y = ex N.t := by rw [HY.out, ← CERT.out.cut, hak']
            have hka : ¬ ((a : Int) < (N.m : Int)) := by omega
            subst hy
            clear HY hak hak' ham
            go_wp2_with fail
            clear hka
            go_loopw [18] (fun i wr => ∃ v dd : Nat, v ≤ N.V ∧ i = .int .i64 (v : Int) ∧ wr = w7.drewN dd) (fun i _ => N.V - (intOf i).toNat)
            case atStart => exact ⟨0, 0, by omega, rfl, rfl⟩
            case round =>
              obtain ⟨v, dd, hvV, rfl, rfl⟩ := hrel
              by_cases hv : v < N.V
              · by_cases hvs : v = N.s
                · have hb : ((v : Int) == (N.s : Int)) = true := by simp [hvs]
                  clear hvs
                  go_wp2_with fail
                  go_roundw
                  case rel => exact ⟨v + 1, _, by omega, by go_num, rfl⟩
                  case measure => simp [intOf]; omega
                have hb : ((v : Int) == (N.s : Int)) = false := by
                  rw [beq_eq_false_iff_ne]
                  exact fun e => hvs (by omega)
                have HVS := hide hvs
                clear hvs
                have cA0 : w7.cell? (adr aA v) = some (.slice (A' v) (N.L v) (C' v)) := sv_cell' ND.out.top v hv
                have hixA := fun w' i h0 hi => idx_any (P := Try.prog) Try.underlying29 sz30 (n := N.V) (a := aA) cA (sv_some' ND.out.top) w' i h0 hi
                have hlv := SZ.out.L v hv
                go_wp2_with fail
                go_loopw [19, 168] (fun z i wr => ∃ (j d2 : Nat) (y : Int), j ≤ N.L v ∧ i = .int .i64 (j : Int) ∧ z = .int .i64 y ∧ wr = w7.drewN d2 ∧ Hid (y = wrap64 (sm (fun i => r (N.arc v i) - R (N.arc v i)) j))) (fun _ i _ => N.L v - (intOf i).toNat)
                case atStart => exact ⟨0, dd, 0, by omega, rfl, rfl, rfl, hide (by simp [sm, wrap64])⟩
                case round =>
                  obtain ⟨j, d2, y, hjl, rfl, rfl, rfl, HY⟩ := hrel
                  by_cases hj : j < N.L v
                  · as_aux_lemma =>
                    obtain ⟨ham, -⟩ := OK.out.arc v j hv hj
                    have crw : w7.cell? (adr (A' v) j) = some (.int .i64 ((N.arc v j : Nat) : Int)) := sv_cell' (ND.out.row v hv) j hj
                    have hixr := fun w' i h0 hi => idx_any (P := Try.prog) Try.underlying30 sz3 (n := N.L v) (a := A' v) (C' v) (sv_some' (ND.out.row v hv)) w' i h0 hi
                    have cr : w7.cell? (adr aR (N.arc v j)) = some (.int .i64 (r (N.arc v j))) := sv_cell' RD7.out.r _ ham
                    have cq : w7.cell? (adr aQ (N.arc v j)) = some (.int .i64 (R (N.arc v j))) := sv_cell' RD7.out.q _ ham
                    have hixR := fun w' i h0 hi => idx_any (P := Try.prog) Try.underlying31 sz2 (n := N.m) (a := aR) cR (sv_some' RD7.out.r) w' i h0 hi
                    have hixQ := fun w' i h0 hi => idx_any (P := Try.prog) Try.underlying31 sz2 (n := N.m) (a := aQ) cQ (sv_some' RD7.out.q) w' i h0 hi
                    obtain ⟨q0, q1, q2⟩ := HRB.out _ ham
                    have q3 := CERT.out.rn _ ham
                    have HN : Hid (wrap64 (y + (r (N.arc v j) - R (N.arc v j))) = wrap64 (sm (fun i => r (N.arc v i) - R (N.arc v i)) (j + 1))) := hide (by rw [HY.out, wrap64_left]; rfl)
                    clear HY hixA cA0
                    generalize R (N.arc v j) = qa at *
                    generalize r (N.arc v j) = ra at *
                    generalize N.arc v j = ar at *
                    go_wp2_with fail
                    go_quiet (fail)
                    go_wp2_with fail
                    go_roundw
                    case rel => exact ⟨j + 1, _, _, by omega, by go_num, rfl, rfl, HN⟩
                    case measure => simp [intOf]; omega
                  have hjl' : N.L v = j := by omega
                  have hkj : ¬ ((j : Int) < (N.L v : Int)) := by omega
                  have x1 := CERT.out.xn v hv HVS.out
                  have x2 := CERT.out.xm v hv HVS.out
                  have hy : y = ex v := by
                    rw [HY.out, ← hjl', CERT.out.xe v hv HVS.out]
                    unfold wrap64
                    omega
                  subst hy
                  clear HY hjl hjl' hj cA0 hixA
                  by_cases hvt : v = N.t
                  · have hbt : ((v : Int) == (N.t : Int)) = true := by simp [hvt]
                    have hbx : (ex v != ex N.t) = false := by simp [hvt]
                    clear hvt
                    go_wp2_with fail
                    go_roundw
                    case rel => exact ⟨v + 1, _, by omega, by go_num, rfl⟩
                    case measure => simp [intOf]; omega
                  · have hbt : ((v : Int) == (N.t : Int)) = false := by
                      rw [beq_eq_false_iff_ne]
                      exact fun e => hvt (by omega)
                    have hx0 := hide (CERT.out.x0 v hv HVS.out hvt)
                    have csv : w7.cell? ⟨g, v, none⟩ = some (.bool (S v)) := RD7.out.sd.cell hv
                    clear hvt
                    generalize ex v = xv at *
                    by_cases hpos : 0 < xv
                    · have hSv : S v = false := by
                        cases h : S v with
                        | false => rfl
                        | true => have := hx0.out h; omega
                      rw [hSv] at csv
                      clear hSv
                      go_wp2_with fail
                      go_roundw
                      case rel => exact ⟨v + 1, _, by omega, by go_num, rfl⟩
                      case measure => simp [intOf]; omega
                    · go_wp2_with fail
                      go_roundw
                      case rel => exact ⟨v + 1, _, by omega, by go_num, rfl⟩
                      case measure => simp [intOf]; omega
              · have hv' : ¬ ((v : Int) < (N.V : Int)) := by omega
                go_wp2_with fail
                go_ret
                exact ⟨rfl, (RD7.out.drew dd).bel⟩
end Go.Proofs.Qxb6602686a
