import Derived.Test.Qxb6603233aHm
namespace Go.Proofs.Qxb6603233a
open Go.RowKit Go.MapKept

/-- what a look-up of y gives -/
def HostV (w : World) (n : Nat) (f : Nat → ByteArray) (nl : Nat → Bool) (L : Nat → Nat) (F : Nat → Nat → ByteArray) (y : ByteArray) (v : Value) : Prop :=
  (v = .pointer none ∧ ¬ ∃ j, j < n ∧ f j = y ∧ LastH f n j ∧ nl j = false) ∨
  ∃ j hb ib, j < n ∧ f j = y ∧ LastH f n j ∧ nl j = false ∧ v = .pointer (some ⟨hb, 0, none⟩) ∧ w.cell? ⟨hb, 7, none⟩ = some (.slice (some ⟨ib, 0, none⟩) (L j) (L j)) ∧ Insts w ib (L j) (F j)
/-- the map of the hosts, as it came back -/
def MapO (w : World) (n : Nat) (f : Nat → ByteArray) (nl : Nat → Bool) (L : Nat → Nat) (F : Nat → Nat → ByteArray) (o : Option Nat) : Prop :=
  (o = none ∧ n = 0) ∨ ∃ g look, o = some g ∧ MapIs ks w g look ∧ ∀ y, HostIs w g f nl L F n y (look y)
theorem last_uniq {f : Nat → ByteArray} {n j j' : Nat} (hj : j < n) (hj' : j' < n) (h : LastH f n j) (h' : LastH f n j') (e : f j = f j') : j = j' := by
  rcases Nat.lt_trichotomy j j' with h1 | h1 | h1
  · exact absurd e.symm (h j' h1 hj')
  · exact h1
  · exact absurd e (h' j h1 hj)
theorem HostIs.val {w : World} {g : Nat} {f : Nat → ByteArray} {nl : Nat → Bool} {L : Nat → Nat} {F : Nat → Nat → ByteArray} {n : Nat} {y : ByteArray} {o : Option Value} (h : HostIs w g f nl L F n y o) : HostV w n f nl L F y (o.getD (.pointer none)) := by
  rcases h with ⟨rfl, h⟩ | ⟨j, h1, h2, h3, h4⟩
  · exact .inl ⟨rfl, fun ⟨j, a, b, _⟩ => h j a b⟩
  · have hl : LastH f n j := fun i a b e => h3 i a b (e.trans h2)
    rcases h4 with ⟨a, rfl⟩ | ⟨a, hb, ib, b1, b2, b3, rfl, b5, b6⟩
    · refine .inl ⟨rfl, fun ⟨j', c1, c2, c3, c4⟩ => ?_⟩
      have := last_uniq h1 c1 hl c3 (h2.trans c2.symm)
      subst this
      rw [a] at c4
      cases c4
    · exact .inr ⟨j, hb, ib, h1, h2, hl, a, rfl, b5, b6⟩
theorem zero51 (w : World) : (zeroValue 51).run Try.prog w = .ok (.pointer none) w := by kernel_rfl
theorem MapO.look {w wr : World} {n : Nat} {f : Nat → ByteArray} {nl : Nat → Bool} {L : Nat → Nat} {F : Nat → Nat → ByteArray} {o : Option Nat} (h : MapO w n f nl L F o) (hb : Below w.heap.size w wr) (y : ByteArray) :
    ∃ v, (Instr.lookup 33 (.map o) (.string y) false).run Try.prog wr = .ok v wr ∧ HostV wr n f nl L F y v := by
  rcases h with ⟨rfl, rfl⟩ | ⟨g, look, rfl, hm, he⟩
  · refine ⟨.pointer none, ?_, .inl ⟨rfl, fun ⟨j, a, _⟩ => by omega⟩⟩
    unfold Instr.lookup
    simp only [Sem.run_bind, run_underlying Try.underlying33, Result.andThen, Sem.run_pure]
    rfl
  · have hm' := hm.of_block (hb.block _ hm.lt)
    refine ⟨(look y).getD (.pointer none), ?_, ?_⟩
    · have := run_look (P := Try.prog) (T := 33) (K := 9) (E := 51) Try.underlying33 Try.underlying9 ks_key zero51 hm' y false
      simpa [ks] using this
    · exact ((he y).blocks hb.size (fun b hb' _ => hb.block b hb')).val
theorem str_emp {a : ByteArray} (h : a = ⟨#[]⟩) : a.toList.isEmpty = true := by
  subst h
  rw [ByteArray.toList_eq]
  rfl
theorem str_nemp {a : ByteArray} (h : a ≠ ⟨#[]⟩) : a.toList.isEmpty = false := by
  cases e : a.toList.isEmpty with
  | false => rfl
  | true =>
    rw [ByteArray.toList_eq] at e
    exact absurd (Go.WideShapes.bytes_inj (b := ⟨#[]⟩) (by simpa using e)) h
def EvP (uuid : ByteArray) (n1 : Nat) (f1 : Nat → ByteArray) (n : Nat) (f : Nat → ByteArray) (nl : Nat → Bool) (L : Nat → Nat) (F : Nat → Nat → ByteArray) : Prop :=
  uuid ≠ ⟨#[]⟩ ∧ ∃ i, i < n1 ∧ ∃ j, j < n ∧ f j = f1 i ∧ LastH f n j ∧ nl j = false ∧ ∃ q, q < L j ∧ F j q = uuid
def Hit (uuid : ByteArray) (y : ByteArray) (n : Nat) (f : Nat → ByteArray) (nl : Nat → Bool) (L : Nat → Nat) (F : Nat → Nat → ByteArray) : Prop :=
  ∃ j, j < n ∧ f j = y ∧ LastH f n j ∧ nl j = false ∧ ∃ q, q < L j ∧ F j q = uuid

set_option maxHeartbeats 4000000 in
set_option maxRecDepth 100000 in
theorem evac_any (p : Nat) (o : Option Nat) (uuid : ByteArray) (ai : Option Addr) (n1 ci : Nat) (f1 : Nat → ByteArray) (n : Nat) (f : Nat → ByteArray) (nl : Nat → Bool) (L : Nat → Nat) (F : Nat → Nat → ByteArray) (w : World)
    (hp0 : w.cell? ⟨p, 0, none⟩ = some (.string uuid)) (hp1 : w.cell? ⟨p, 10, none⟩ = some (.slice ai n1 ci)) (h1 : SV w (.slice ai n1 ci) n1 fun j => .string (f1 j)) (hm : MapO w n f nl L F o) (hn1 : n1 ≤ 1048576) (hL : ∀ j, j < n → L j ≤ 1048576) :
    Calls Try.prog 23 #[.pointer (some ⟨p, 0, none⟩), .map o] w fun e w' => Ans e (EvP uuid n1 f1 n f nl L F) ∧ Below w.heap.size w w' := by
  have H1 := hide h1
  have HM := hide hm
  have HL := hide hL
  have hix1 := fun w' i h0 hi => idx_any (P := Try.prog) Try.underlying22 sz9 (n := n1) (a := ai) ci (by obtain ⟨_, _, e, _, h, _⟩ := h1; cases e; exact h) w' i h0 hi
  clear h1 hm hL
  by_cases hu : uuid = ⟨#[]⟩
  · have hb : uuid.toList.isEmpty = true := str_emp hu
    have HU := hide hu
    clear hu
    go_enter Try.func23, Try.ntmps23
    go_wp2_with fail
    go_ret
    exact ⟨Ans.no (fun h => h.1 HU.out), Below.refl _ _⟩
  have hb : uuid.toList.isEmpty = false := str_nemp hu
  have HU := hide hu
  clear hu
  go_enter Try.func23, Try.ntmps23
  go_wp2_with fail
  clear hb hp0 hp1
  go_loopw [24] (fun i wr => ∃ k : Nat, k ≤ n1 ∧ i = .int .i64 (k : Int) ∧ Hid (Below w.heap.size w wr ∧ ∀ i, i < k → ¬ Hit uuid (f1 i) n f nl L F)) (fun i _ => n1 - (intOf i).toNat)
  case atStart => exact ⟨0, by omega, rfl, hide ⟨Below.refl _ _, fun i hi => by omega⟩⟩
  case round =>
    obtain ⟨k, hk, rfl, HK⟩ := hrel
    by_cases hkn : k < n1
    · have cS : wr.cell? (adr ai k) = some (.string (f1 k)) := by
        obtain ⟨_, _, e, _, _, h⟩ := H1.out.below HK.out.1
        cases e
        exact h k hkn
      obtain ⟨v, hlook, hv⟩ := HM.out.look HK.out.1 (f1 k)
      rcases hv with ⟨rfl, hno⟩ | ⟨j, hb, ib, hj, hfj, hlast, hnl, rfl, hcell, hins⟩
      · have HN : Hid (Below w.heap.size w wr ∧ ∀ i, i < k + 1 → ¬ Hit uuid (f1 i) n f nl L F) := hide ⟨HK.out.1, fun i hi h => by
          by_cases e : i = k
          · subst e
            obtain ⟨j, a1, a2, a3, a4, _⟩ := h
            exact hno ⟨j, a1, a2, a3, a4⟩
          · exact HK.out.2 i (by omega) h⟩
        clear hno HK
        go_wp2_with fail
        go_roundw
        case rel => exact ⟨k + 1, by omega, by go_num, HN⟩
        case measure => simp [intOf]; omega
      · have INS := hide hins
        have FACT := hide (And.intro hfj (And.intro hlast hnl))
        have hlj := HL.out j hj
        clear hins hfj hlast hnl
        obtain ⟨wk, hwk⟩ : ∃ wk, wk = wr := ⟨wr, rfl⟩
        subst hwk
        go_wp2_with fail
        clear hlook cS hcell
        go_loopw [38] (fun i wr => ∃ q : Nat, q ≤ L j ∧ i = .int .i64 (q : Int) ∧ Hid (Below wk.heap.size wk wr ∧ ∀ i, i < q → F j i ≠ uuid)) (fun i _ => L j - (intOf i).toNat)
        case atStart => exact ⟨0, by omega, rfl, hide ⟨Below.refl _ _, fun i hi => by omega⟩⟩
        case round =>
          obtain ⟨q, hq, rfl, HQ⟩ := hrel
          by_cases hql : q < L j
          · as_aux_lemma =>
            have hix6 := idx6 ib (L j) (L j) q hql
            have hat := rangeAt_block (INS.out q hql) (HQ.out.1.block _ (INS.out.lt (by omega)))
            have c0 : wr.cell? ⟨ib, 6 * q, none⟩ = some (.string (F j q)) := hat 0 _ rfl
            have c1 : wr.cell? ⟨ib, 6 * q + 1, none⟩ = some (.string ⟨#[]⟩) := hat 1 _ rfl
            have c2 : wr.cell? ⟨ib, 6 * q + 2, none⟩ = some (.string ⟨#[]⟩) := hat 2 _ rfl
            have c3 : wr.cell? ⟨ib, 6 * q + 3, none⟩ = some (.int .i64 0) := hat 3 _ rfl
            have c4 : wr.cell? ⟨ib, 6 * q + 4, none⟩ = some (.int .i64 0) := hat 4 _ rfl
            have c5 : wr.cell? ⟨ib, 6 * q + 5, none⟩ = some (.int .i64 0) := hat 5 _ rfl
            clear hat
            by_cases he : F j q = uuid
            · have hb : ((F j q).toList == uuid.toList) = true := (str_eq _ _).2 he
              have HE := hide he
              clear he
              go_wp2_with fail
              go_ret
              exact ⟨Ans.yes ⟨HU.out, k, hkn, j, hj, FACT.out.1, FACT.out.2.1, FACT.out.2.2, q, hql, HE.out⟩, HK.out.1.trans ((HQ.out.1.alloc HQ.out.1.size _).mono HK.out.1.size)⟩
            · have hb : ((F j q).toList == uuid.toList) = false := str_ne he
              have HN : Hid (∀ i, i < q + 1 → F j i ≠ uuid) := hide (fun i hi => by
                by_cases e : i = q
                · rw [e]; exact he
                · exact HQ.out.2 i (by omega))
              clear he
              go_wp2_with fail
              go_roundw
              case rel => exact ⟨q + 1, by omega, by go_num, hide ⟨HQ.out.1.alloc HQ.out.1.size _, HN.out⟩⟩
              case measure => simp [intOf]; omega
          · have hqN : ¬ ((q : Int) < (L j : Int)) := by omega
            have HN : Hid (Below w.heap.size w wr ∧ ∀ i, i < k + 1 → ¬ Hit uuid (f1 i) n f nl L F) := hide ⟨HK.out.1.trans (HQ.out.1.mono HK.out.1.size), fun i hi h => by
              by_cases e : i = k
              · subst e
                obtain ⟨j', a1, a2, a3, a4, q', a5, a6⟩ := h
                have := last_uniq hj a1 FACT.out.2.1 a3 (FACT.out.1.trans a2.symm)
                subst this
                exact HQ.out.2 q' (by omega) a6
              · exact HK.out.2 i (by omega) h⟩
            clear HQ HK
            go_wp2_with fail
            go_roundw
            case rel => exact ⟨k + 1, by omega, by go_num, HN⟩
            case measure => simp [intOf]; omega
    · have hkN : ¬ ((k : Int) < (n1 : Int)) := by omega
      go_wp2_with fail
      go_ret
      exact ⟨Ans.no (fun ⟨_, i, hi, h⟩ => HK.out.2 i (by omega) h), HK.out.1⟩

set_option maxHeartbeats 1000000 in
theorem zzevac_any (p : Nat) (o : Option Nat) (uuid : ByteArray) (ai : Option Addr) (n1 ci : Nat) (f1 : Nat → ByteArray) (n : Nat) (f : Nat → ByteArray) (nl : Nat → Bool) (L : Nat → Nat) (F : Nat → Nat → ByteArray) (w : World)
    (hp0 : w.cell? ⟨p, 0, none⟩ = some (.string uuid)) (hp1 : w.cell? ⟨p, 10, none⟩ = some (.slice ai n1 ci)) (h1 : SV w (.slice ai n1 ci) n1 fun j => .string (f1 j)) (hm : MapO w n f nl L F o) (hn1 : n1 ≤ 1048576) (hL : ∀ j, j < n → L j ≤ 1048576) :
    Calls Try.prog 18 #[.pointer (some ⟨p, 0, none⟩), .map o] w fun e w' => Ans e (EvP uuid n1 f1 n f nl L F) ∧ Below w.heap.size w w' := by
  have H1 := hide h1
  have HM := hide hm
  have HL := hide hL
  have HP := hide (And.intro hp0 hp1)
  clear h1 hm hL hp0 hp1
  go_enter Try.func18, Try.ntmps18
  go_wp2_with fail
  refine (evac_any p o uuid ai n1 ci f1 n f nl L F w HP.out.1 HP.out.2 H1.out HM.out hn1 HL.out).mono ?_
  rintro e w' ⟨⟨b, rfl, hb⟩, hw⟩
  have HB := hide hb
  have HW := hide hw
  clear hb hw
  go_wp2_with fail
  go_ret
  exact ⟨⟨b, rfl, HB.out⟩, HW.out⟩
/-- the request in memory -/
def ReqPost (w w' : World) (uuid : ByteArray) (vi : Value) (e : Ending) : Prop :=
  e = .returned (.pointer (some ⟨w.heap.size, 0, none⟩)) ∧ Below w.heap.size w w' ∧ w'.cell? ⟨w.heap.size, 0, none⟩ = some (.string uuid) ∧ w'.cell? ⟨w.heap.size, 10, none⟩ = some vi
set_option maxHeartbeats 1000000 in
theorem request_any (b0 b1 b2 b3 b4 : Bool) (uuid : ByteArray) (ai : Option Addr) (n1 ci : Nat) (w : World) :
    Calls Try.prog 13 #[.bool b0, .bool b1, .bool b2, .bool b3, .bool b4, .string uuid, .slice ai n1 ci] w fun e w' => ReqPost w w' uuid (.slice ai n1 ci) e := by
  go_enter Try.func13, Try.ntmps13
  go_wp2_with fail
  go_ret
  exact ⟨rfl, (Below.refl _ _).alloc (Nat.le_refl _) _, by simp, by simp⟩

set_option maxHeartbeats 4000000 in
set_option maxRecDepth 100000 in
theorem model_any (uuid : ByteArray) (v1 v2 v3 v4 : Value) (n1 n : Nat) (f1 f : Nat → ByteArray) (nl : Nat → Bool) (A : Nat → Option Addr) (L C : Nat → Nat) (F : Nat → Nat → ByteArray) (w : World)
    (h1 : SV w v1 n1 fun j => .string (f1 j)) (h2 : SV w v2 n fun j => .string (f j)) (h3 : SV w v3 n fun j => .bool (nl j)) (h4 : SS w v4 n A L C (fun i j => .string (F i j))) (hn : n ≤ 4096) :
    Calls Try.prog 16 #[.string uuid, v1, v2, v3, v4] w fun e w' => Ans e (EvP uuid n1 f1 n f nl L F) ∧ Below w.heap.size w w' := by
  have H1 := hide h1
  have H2 := hide h2
  have H3 := hide h3
  have H4 := hide h4
  obtain ⟨a1, c1, rfl, d1, ha1, hc1⟩ := h1
  obtain ⟨a2, c2, rfl, d2, ha2, hc2⟩ := h2
  obtain ⟨a3, c3, rfl, d3, ha3, hc3⟩ := h3
  obtain ⟨⟨a4, c4, rfl, d4, ha4, hc4⟩, hr⟩ := h4
  have hix2 := fun w' i h0 hi => idx_any (P := Try.prog) Try.underlying22 sz9 (n := n) (a := a2) c2 ha2 w' i h0 hi
  have hix3 := fun w' i h0 hi => idx_any (P := Try.prog) Try.underlying23 sz4 (n := n) (a := a3) c3 ha3 w' i h0 hi
  have hix4 := fun w' i h0 hi => idx_any (P := Try.prog) Try.underlying24 sz22 (n := n) (a := a4) c4 ha4 w' i h0 hi
  have HC2 := hide hc2
  have HC3 := hide hc3
  have HC4 := hide hc4
  clear ha1 hc1 ha2 hc2 ha3 hc3 ha4 hc4 hr
  by_cases hu : uuid = ⟨#[]⟩
  · have hb : uuid.toList.isEmpty = true := str_emp hu
    have HU := hide hu
    clear hu
    go_enter Try.func16, Try.ntmps16
    go_wp2_with fail
    go_ret
    exact ⟨Ans.no (fun h => h.1 HU.out), Below.refl _ _⟩
  have hb : uuid.toList.isEmpty = false := str_nemp hu
  have HU := hide hu
  clear hu
  go_enter Try.func16, Try.ntmps16
  go_wp2_with fail
  clear hb
  go_loopw [11] (fun i wr => ∃ k m : Nat, k ≤ n ∧ i = .int .i64 (k : Int) ∧ wr = w.drewN m ∧ Hid (∀ j, j < k → ¬ (nl j = false ∧ LastH f n j ∧ (∃ q, q < L j ∧ F j q = uuid) ∧ ∃ i, i < n1 ∧ f1 i = f j))) (fun i _ => n - (intOf i).toNat)
  case atStart => exact ⟨0, 0, by omega, rfl, rfl, hide (fun i hi => by omega)⟩
  case round =>
    obtain ⟨k, m, hk, rfl, rfl, HK⟩ := hrel
    have step : Hid (¬ (nl k = false ∧ LastH f n k ∧ (∃ q, q < L k ∧ F k q = uuid) ∧ ∃ i, i < n1 ∧ f1 i = f k) → ∀ j, j < k + 1 → ¬ (nl j = false ∧ LastH f n j ∧ (∃ q, q < L j ∧ F j q = uuid) ∧ ∃ i, i < n1 ∧ f1 i = f j)) := hide (fun h j hj => by
      by_cases e : j = k
      · rw [e]; exact h
      · exact HK.out j (by omega))
    have BW : Hid (∀ d, Below w.heap.size w (w.drewN d)) := hide (fun d => below_drewN (Below.refl _ _) d)
    by_cases hkn : k < n
    · have cN := HC3.out k hkn
      have cS := HC2.out k hkn
      have cA := HC4.out k hkn
      cases hnl : nl k with
      | true =>
        rw [hnl] at cN
        have HN := hide (step.out (fun h => by rw [hnl] at h; cases h.1))
        clear hnl step
        go_wp2_with fail
        go_roundw
        case rel => exact ⟨k + 1, _, by omega, by go_num, rfl, HN⟩
        case measure => simp [intOf]; omega
      | false =>
        rw [hnl] at cN
        have HNL := hide hnl
        clear hnl
        go_wp2_with fail
        refine (last_any _ n f k _ (H2.out.below (BW.out m)) hkn (by omega)).mono ?_
        rintro e w1 ⟨⟨b, rfl, hb⟩, m1, rfl⟩
        have HB := hide hb
        clear hb
        cases b with
        | false =>
          have HN := hide (step.out (fun h => by have := HB.out.2 h.2.1; cases this))
          clear step HB
          simp only [World.drewN_drewN]
          go_wp2_with fail
          go_roundw
          case rel => exact ⟨k + 1, _, by omega, by go_num, rfl, HN⟩
          case measure => simp [intOf]; omega
        | true =>
          have HLA := hide (HB.out.1 rfl)
          clear HB
          simp only [World.drewN_drewN]
          go_wp2_with fail
          refine (contains_any _ (L k) (F k) uuid _ ((H4.out.2 k hkn).below (BW.out _))).mono ?_
          rintro e w2 ⟨⟨b, rfl, hb⟩, hw⟩
          have HB := hide hb
          clear hb
          subst hw
          cases b with
          | false =>
            have HN := hide (step.out (fun h => by have := HB.out.2 h.2.2.1; cases this))
            clear step HB
            go_wp2_with fail
            go_roundw
            case rel => exact ⟨k + 1, _, by omega, by go_num, rfl, HN⟩
            case measure => simp [intOf]; omega
          | true =>
            have HQ := hide (HB.out.1 rfl)
            clear HB
            go_wp2_with fail
            refine (contains_any _ n1 f1 (f k) _ (H1.out.below (BW.out _))).mono ?_
            rintro e w2 ⟨⟨b, rfl, hb⟩, hw⟩
            have HB := hide hb
            clear hb
            subst hw
            cases b with
            | false =>
              have HN := hide (step.out (fun h => by have := HB.out.2 h.2.2.2; cases this))
              clear step HB
              go_wp2_with fail
              go_roundw
              case rel => exact ⟨k + 1, _, by omega, by go_num, rfl, HN⟩
              case measure => simp [intOf]; omega
            | true =>
              have HI := hide (HB.out.1 rfl)
              clear HB
              have FIN : Hid (EvP uuid n1 f1 n f nl L F) := by
                obtain ⟨i, hi, e⟩ := HI.out
                exact hide ⟨HU.out, i, hi, k, hkn, e.symm, HLA.out, HNL.out, HQ.out⟩
              clear HI HQ step
              go_wp2_with fail
              go_ret
              exact ⟨Ans.yes FIN.out, BW.out _⟩
    · have hkN : ¬ ((k : Int) < (n : Int)) := by omega
      go_wp2_with fail
      go_ret
      exact ⟨Ans.no (fun ⟨_, i, hi, j, hj, a1, a2, a3, a4⟩ => HK.out j (by omega) ⟨a3, a2, a4, i, hi, a1.symm⟩), BW.out _⟩
end Go.Proofs.Qxb6603233a
