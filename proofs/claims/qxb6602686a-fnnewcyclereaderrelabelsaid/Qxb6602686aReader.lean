import Derived.Test.Qxb6602686aMakes
import Derived.Deep.RegionLaw
import Derived.Deep.RegionHeld3
namespace Go.Proofs.Qxb6602686a
open Go.RowKit

set_option linter.unusedSimpArgs false in
set_option maxHeartbeats 4000000 in
set_option maxRecDepth 100000 in
theorem reader_any (gG gm n : Nat) (x : Int) (v2 : Value) (u : Nat → Int) (w : World) (look : Int → Option Value) (TL : Int → List Int)
    (hG : w.cell? ⟨gG, 1, none⟩ = some (.map (some gm))) (hm : MapIs ku w gm look)
    (hTL : ∀ k, ∃ a c, (look k).getD (.slice none 0 0) = .slice a (TL k).length c ∧ SV w ((look k).getD (.slice none 0 0)) (TL k).length (fun j => ku ((TL k).getD j 0)) ∧ (TL k).length ≤ 1048576)
    (h2 : SV w v2 n fun j => ku (u j)) (hn : 1 ≤ n) (hn2 : n ≤ 1048576) (ids : List Int) (hids : idsOf x (usL u n) = ids) (hil : ids.length = n) :
    Calls Try.prog 26 #[.pointer (some ⟨gG, 0, none⟩), .int .u64 x, v2] w fun e w' => ReaderPost w w' n ids (NNo ids TL n) e := by
  obtain ⟨a2, c2, rfl, _, ha2, hc2⟩ := h2
  have H2 := hide (And.intro ha2 hc2)
  have HT := hide hTL
  have HIds := hide (And.intro hids hil)
  clear hids hil
  have HM := hide hm
  clear hTL hm ha2 hc2
  go_enter Try.func26, Try.ntmps26
  go_upto_region 2 with fail
  go_cut [8] from 23 to 40 (fun p wr => ∃ gs g0 g1 g2 fld, p = .pointer (some ⟨gs, 0, none⟩) ∧ Hid (Laid w wr n gs g0 g1 g2 fld ∧ fld 0 = .slice (some ⟨g0, 0, none⟩) 0 n ∧
    Lst wr 48 (.slice (some ⟨g0, 0, none⟩) 0 n) [] ∧ wr.rowIs g1 30 n (fun _ => .slice none 0 0) ∧ wr.rowIs g2 3 n (fun _ => .int .i64 0)))
  case first =>
    refine wp_region_any (by kernel_rfl) ?_
    refine wpAny_take (i := 0) (v := .int .i64 (n : Nat)) rfl (by kernel_rfl) (by kernel_rfl) (by kernel_rfl) (fun _ _ _ h => h) (Or.inl ⟨by rfl, ?_⟩) ?_
    · intro w
      go_simp
    simp only [Act.put, List.getElem_toArray, List.getElem_cons_zero, List.getElem_cons_succ, List.setIfInBounds_toArray, List.set_cons_zero, List.set_cons_succ]
    refine wpAny_take (i := 2) (v := .int .i64 (n : Nat)) rfl (by kernel_rfl) (by kernel_rfl) (by kernel_rfl) (fun _ _ _ h => h) (Or.inl ⟨by rfl, ?_⟩) ?_
    · intro w
      go_simp
    simp only [Act.put, List.getElem_toArray, List.getElem_cons_zero, List.getElem_cons_succ, List.setIfInBounds_toArray, List.set_cons_zero, List.set_cons_succ]
    refine wpAny_take (i := 4) (v := .int .i64 (n : Nat)) rfl (by kernel_rfl) (by kernel_rfl) (by kernel_rfl) (fun _ _ _ h => h) (Or.inl ⟨by rfl, ?_⟩) ?_
    · intro w
      go_simp
    simp only [Act.put, List.getElem_toArray, List.getElem_cons_zero, List.getElem_cons_succ, List.setIfInBounds_toArray, List.set_cons_zero, List.set_cons_succ]
    refine wpAny_take (i := 6) (v := .int .i64 (n : Nat)) rfl (by kernel_rfl) (by kernel_rfl) (by kernel_rfl) (fun _ _ _ h => h) (Or.inl ⟨by rfl, ?_⟩) ?_
    · intro w
      go_simp
    simp only [Act.put, List.getElem_toArray, List.getElem_cons_zero, List.getElem_cons_succ, List.setIfInBounds_toArray, List.set_cons_zero, List.set_cons_succ]
    refine wpAny_take (i := 8) (v := .int .i64 (n : Nat)) rfl (by kernel_rfl) (by kernel_rfl) (by kernel_rfl) (fun _ _ _ h => h) (Or.inl ⟨by rfl, ?_⟩) ?_
    · intro w
      go_simp
    simp only [Act.put, List.getElem_toArray, List.getElem_cons_zero, List.getElem_cons_succ, List.setIfInBounds_toArray, List.set_cons_zero, List.set_cons_succ]
    refine wpAny_take (i := 10) (v := .int .i64 (n : Nat)) rfl (by kernel_rfl) (by kernel_rfl) (by kernel_rfl) (fun _ _ _ h => h) (Or.inl ⟨by rfl, ?_⟩) ?_
    · intro w
      go_simp
    simp only [Act.put, List.getElem_toArray, List.getElem_cons_zero, List.getElem_cons_succ, List.setIfInBounds_toArray, List.set_cons_zero, List.set_cons_succ]
    refine wpAny_take (i := 12) (v := .int .i64 (n : Nat)) rfl (by kernel_rfl) (by kernel_rfl) (by kernel_rfl) (fun _ _ _ h => h) (Or.inl ⟨by rfl, ?_⟩) ?_
    · intro w
      go_simp
    simp only [Act.put, List.getElem_toArray, List.getElem_cons_zero, List.getElem_cons_succ, List.setIfInBounds_toArray, List.set_cons_zero, List.set_cons_succ]
    refine wpAny_take (i := 14) (v := .int .i64 (n : Nat)) rfl (by kernel_rfl) (by kernel_rfl) (by kernel_rfl) (fun _ _ _ h => h) (Or.inl ⟨by rfl, ?_⟩) ?_
    · intro w
      go_simp
    simp only [Act.put, List.getElem_toArray, List.getElem_cons_zero, List.getElem_cons_succ, List.setIfInBounds_toArray, List.set_cons_zero, List.set_cons_succ]
    refine wpAny_makes (w := w) (n := n) hn2 (by rfl) ?hFR ?hm ?h16 ?h17 ?h18 ?ht ?hbase
    case hFR => simp only [FR, List.setIfInBounds_toArray, List.set_cons_zero, List.set_cons_succ]
    case hm =>
      intro k hk
      rcases eight hk with h | h | h | h | h | h | h | h <;> subst h
      · exact ⟨_, _, rfl, rfl, rfl, rfl, fun a h => rfl, by simp⟩
      all_goals exact ⟨_, _, rfl, rfl, rfl, rfl, fun a h => h, by simp⟩
    case h16 =>
      refine ⟨_, rfl, fun k hk => ?_⟩
      rcases eight hk with h | h | h | h | h | h | h | h <;> subst h
      · exact ⟨⟨1, .data⟩, by simp, rfl, rfl⟩
      · exact ⟨⟨3, .data⟩, by simp, rfl, rfl⟩
      · exact ⟨⟨5, .data⟩, by simp, rfl, rfl⟩
      · exact ⟨⟨7, .data⟩, by simp, rfl, rfl⟩
      · exact ⟨⟨9, .data⟩, by simp, rfl, rfl⟩
      · exact ⟨⟨11, .data⟩, by simp, rfl, rfl⟩
      · exact ⟨⟨13, .data⟩, by simp, rfl, rfl⟩
      · exact ⟨⟨15, .data⟩, by simp, rfl, rfl⟩
    case h17 => exact ⟨_, rfl, ⟨16, .data⟩, by simp, rfl, rfl⟩
    case h18 => exact ⟨_, rfl, ⟨17, .data⟩, by simp, rfl, rfl⟩
    case ht =>
      intro k hk
      rcases eight hk with h | h | h | h | h | h | h | h <;> subst h <;> rfl
    case hbase =>
      intro v W hF
      simp only [FR, List.setIfInBounds_toArray, List.set_cons_zero, List.set_cons_succ]
      obtain ⟨γ, hC, hk, hne⟩ := hF
      obtain ⟨b0, e0, r0⟩ := hk 0 (by omega) rfl
      obtain ⟨b1, e1, r1⟩ := hk 1 (by omega) rfl
      obtain ⟨b2, e2, r2⟩ := hk 2 (by omega) rfl
      obtain ⟨b3, e3, r3⟩ := hk 3 (by omega) rfl
      obtain ⟨b4, e4, r4⟩ := hk 4 (by omega) rfl
      obtain ⟨b5, e5, r5⟩ := hk 5 (by omega) rfl
      obtain ⟨b6, e6, r6⟩ := hk 6 (by omega) rfl
      obtain ⟨b7, e7, r7⟩ := hk 7 (by omega) rfl
      rw [e0, e1, e2, e3, e4, e5, e6, e7]
      have HC := hide hC
      have R0 := hide r0
      have R1 := hide r1
      have R2 := hide r2
      have HNe := hide hne
      clear hk hne e0 e1 e2 e3 e4 e5 e6 e7 r0 r1 r2 r3 r4 r5 r6 r7 hC
      refine wpAny_ready (rs := [16]) (by kernel_rfl) (by simp) ?_
      refine AllReady.cons rfl (fun K hK => ?_) AllReady.nil
      go_simp
      refine hK _ _ ?_
      clear hK K
      refine wpAny_ready (rs := [17]) (by kernel_rfl) (by simp) ?_
      refine AllReady.cons rfl (fun K hK => ?_) AllReady.nil
      go_simp
      refine hK _ _ ?_
      clear hK K
      refine wpAny_ready (rs := [18]) (by kernel_rfl) (by simp) ?_
      refine AllReady.cons rfl (fun K hK => ?_) AllReady.nil
      go_simp
      refine hK _ _ ?_
      clear hK K
      refine wpAny_done (by kernel_rfl) ?_ _
      go_wp2_with fail
      go_meet
      case rel => exact laid_of w W n γ _ hn2 HC.out R0.out R1.out R2.out b0 b1 b2 (fun j k hj hk _ _ h => HNe.out j k hj hk trivial trivial h) rfl rfl rfl rfl ⟨_, _, _, _, _, rfl, rfl, rfl, rfl, rfl, rfl, rfl, rfl, rfl⟩
  case rest =>
    obtain ⟨gs, g0, g1, g2, fld, rfl, H⟩ := hcut
    have HF : Hid (fld 1 = .slice (some ⟨g1, 0, none⟩) n n ∧ fld 2 = .slice (some ⟨g2, 0, none⟩) n n) := ⟨H.out.1.f1, H.out.1.f2⟩
    have HOne : Hid (FldShape n fld) := H.out.1.one
    have S0 : Hid (St1 w wc n gs g1 g2 fld (.slice (some ⟨g0, 0, none⟩) 0 n) []) := by
      obtain ⟨hL, hf0, hl, hr1, hr2⟩ := H.out
      refine ⟨hL.chg, hL.row.congr (fun i hi => by by_cases e : i = 0 <;> simp [e, hf0]), hl, ?_, hr1, hr2, ⟨hL.new.1, hL.new.2.2.1, hL.new.2.2.2⟩, ⟨hL.apart.2.1, hL.apart.2.2.1, hL.apart.2.2.2.2.2⟩⟩
      intro g hg
      have : g = g0 := by simpa [Value.ownBlock] using hg.symm
      subst this
      exact ⟨hL.new.2.1, hL.apart.1.symm, hL.apart.2.2.2.1, hL.apart.2.2.2.2.1⟩
    clear H
    have cs : wc.cell? ⟨gs, 0, none⟩ = some (.slice (some ⟨g0, 0, none⟩) 0 n) := by simpa using S0.out.row.cell (i := 0) (by omega)
    obtain ⟨gi, cap, w3, hrun, hc3, hf3, hS3⟩ := S0.out.append x (by simp)
    have S3 := hide hS3
    clear hS3
    simp only [List.length_nil, Nat.zero_add, List.nil_append] at hrun S3
    go_upto_region 4 with (at_builtin; refine wpList_append_eq rfl _ _ 47 rfl _ _ _ _ rfl rfl hrun ?_)
    clear hrun hc3 hf3 cs S0
    go_wp2_with fail
    go_loopw [53] (fun i wr => ∃ (k gi cap : Nat), k ≤ n ∧ i = .int .i64 k ∧ Hid (St1 w wr n gs g1 g2 fld (.slice (some ⟨gi, 0, none⟩) (idsOf x (usL u k)).length cap) ((idsOf x (usL u k)).map ku))) (fun i _ => n - (intOf i).toNat)
    case atStart => exact ⟨0, gi, cap, by omega, rfl, S3⟩
    case round =>
      obtain ⟨k, gi', cap', hk, rfl, S⟩ := hrel
      clear S3
      by_cases hkn : k < n
      · have hix := fun w' i h0 hi => idx_any (P := Try.prog) Try.underlying47 sz48 (n := n) (a := a2) c2 H2.out.1 w' i h0 hi
        have hck : wr.cell? (adr a2 k) = some (.int .u64 (u k)) := by
          rw [(S.out.chg.below (fun _ _ h => h)).cell (adr_lt (H2.out.2 k hkn))]
          exact H2.out.2 k hkn
        by_cases hux : u k = x
        · have hne : (u k != x) = false := by simp [hux]
          have HI := hide (ids_same x u k hux)
          clear hux
          go_wp2_with fail
          go_roundw
          case rel => exact ⟨k + 1, gi', cap', by omega, by go_num, by rw [HI.out]; exact S⟩
          case measure => simp [intOf]; omega
        · have hne : (u k != x) = true := by simp [hux]
          have HI := hide (ids_more x u k hux)
          have hlen := ids_len x u k
          have hlen2 : (((idsOf x (usL u k)).map ku)).length = (idsOf x (usL u k)).length := by simp
          clear hux
          have cs : wr.cell? ⟨gs, 0, none⟩ = some (.slice (some ⟨gi', 0, none⟩) (idsOf x (usL u k)).length cap') := by simpa using S.out.row.cell (i := 0) (by omega)
          obtain ⟨gi2, cap2, w4, hrun, hc4, hf4, hS4⟩ := S.out.append (u k) (by rw [hlen2]; omega)
          have S4 := hide hS4
          clear hS4
          rw [hlen2] at hrun S4
          clear hlen2
          go_wp2_with (at_builtin; refine wpList_append_eq rfl _ _ 47 rfl _ _ _ _ rfl rfl hrun ?_)
          go_roundw
          case rel => exact ⟨k + 1, gi2, cap2, by omega, by go_num, by rw [HI.out]; simpa using S4⟩
          case measure => simp [intOf]; omega
      · have hkn' : n = k := by omega
        subst hkn'
        clear hkn hk
        rw [HIds.out.1, HIds.out.2] at S
        have hmm := mkmap 61 48 3 Try.underlying61
        have cs : wr.cell? ⟨gs, 0, none⟩ = some (.slice (some ⟨gi', 0, none⟩) n cap') := by simpa using S.out.row.cell (i := 0) (by omega)
        have lgs : gs < wr.heap.size := S.out.row.lt
        have hown : ∀ g, g = wr.heap.size → w.heap.size ≤ g ∧ g ≠ gs ∧ g ≠ g1 ∧ g ≠ g2 ∧ (Value.slice (some ⟨gi', 0, none⟩) n cap').ownBlock ≠ some g := by
          intro g hg
          have h1 := S.out.chg.size
          have h2 := S.out.row.lt
          have h3 := S.out.r1.lt
          have h4 := S.out.r2.lt
          have h5 := S.out.lst.lt (g := gi') rfl
          refine ⟨by omega, by omega, by omega, by omega, fun e => ?_⟩
          have : gi' = g := by simpa [Value.ownBlock] using e
          omega
        have HO := hide hown
        clear hown
        have S1 : Hid (St1 w (wr.alloc (.map #[] 0)) n gs g1 g2 fld (.slice (some ⟨gi', 0, none⟩) n cap') (ids.map ku)) := S.out.chg' ((Chg.refl wr (fun _ => False)).alloc _) (fun k hk => hk.elim)
        have M1 : Hid (MapIs ku (wr.alloc (.map #[] 0)) wr.heap.size (lookP ids 0)) := MapIs.made ku wr
        go_wp2_with fail
        generalize hgp : wr.heap.size = gp at *
        go_loopw [78] (fun i wr' => ∃ k : Nat, k ≤ n ∧ i = .int .i64 k ∧ Hid (St1 w wr' n gs g1 g2 fld (.slice (some ⟨gi', 0, none⟩) n cap') (ids.map ku) ∧ MapIs ku wr' gp (lookP ids k))) (fun i _ => n - (intOf i).toNat)
        case atStart => exact ⟨0, by omega, rfl, hide ⟨S1.out, M1.out⟩⟩
        case round =>
          obtain ⟨k, hk, rfl, H⟩ := hrel
          clear S1 M1 S
          by_cases hkn : k < n
          · have hck : wr.cell? ⟨gi', k, none⟩ = some (.int .u64 (ids.getD k 0)) := H.out.1.lst.cell (by
              have : k < ids.length := by rw [HIds.out.2]; exact hkn
              simp [List.getElem?_map, List.getElem?_eq_getElem this, ku, List.getD])
            obtain ⟨w5, hput, hM5, hC5⟩ := put61 H.out.2 61 3 Try.underlying61 (ids.getD k 0) (.int .i64 (k : Nat))
            have H5 : Hid (St1 w w5 n gs g1 g2 fld (.slice (some ⟨gi', 0, none⟩) n cap') (ids.map ku) ∧ MapIs ku w5 gp (lookP ids (k + 1))) :=
              ⟨H.out.1.chg' hC5 (fun j hj => HO.out j hj), by rw [← lookP_succ]; exact hM5⟩
            clear hM5 hC5 H
            generalize ids.getD k 0 = t at *
            go_wp2_with fail
            go_roundw
            case rel => exact ⟨k + 1, by omega, by go_num, H5⟩
            case measure => simp [intOf]; omega
          · have hkn' : n = k := by omega
            subst hkn'
            clear hkn hk
            have cs : wr.cell? ⟨gs, 0, none⟩ = some (.slice (some ⟨gi', 0, none⟩) n cap') := by simpa using H.out.1.row.cell (i := 0) (by omega)
            have S3 : Hid (St3 w wr n gs gp g1 g2 fld (.slice (some ⟨gi', 0, none⟩) n cap') ids (fun _ => .slice none 0 0) (NNo ids TL 0)) := St3.of1 H.out.1 H.out.2 (HO.out gp rfl) TL
            clear H HO
            go_wp2_with fail
            go_loopw [92] (fun i wr' => ∃ (k : Nat) (nv : Nat → Value), k ≤ n ∧ i = .int .i64 k ∧ Hid (St3 w wr' n gs gp g1 g2 fld (.slice (some ⟨gi', 0, none⟩) n cap') ids nv (NNo ids TL k))) (fun i _ => n - (intOf i).toNat)
            case atStart => exact ⟨0, _, by omega, rfl, S3⟩
            case round =>
              obtain ⟨k, nv, hk, rfl, S⟩ := hrel
              clear S3
              by_cases hkn : k < n
              · obtain ⟨idk, hidk⟩ : ∃ y, ids.getD k 0 = y := ⟨_, rfl⟩
                have hck : wr.cell? ⟨gi', k, none⟩ = some (.int .u64 idk) := S.out.lst.cell (by
                  have : k < ids.length := by rw [HIds.out.2]; exact hkn
                  rw [← hidk]
                  simp [List.getElem?_map, List.getElem?_eq_getElem this, ku, List.getD])
                have hGk : wr.cell? ⟨gG, 1, none⟩ = some (.map (some gm)) := by
                  rw [(S.out.chg.below (fun _ _ h => h)).cell (block_lt_of_cell hG)]; exact hG
                have hmk : MapIs ku wr gm look := HM.out.of_block ((S.out.chg.below (fun _ _ h => h)).block _ HM.out.lt)
                obtain ⟨at', ct', hsh, hsv, htl⟩ := HT.out idk
                have hlk' : (Instr.lookup 46 (.map (some gm)) (.int .u64 idk) false).run Try.prog wr = .ok (.slice at' (TL idk).length ct') wr := by
                  have := run_look (P := Try.prog) (T := 46) (K := 48) (E := 47) (d := .int .u64) (z := .slice none 0 0) Try.underlying46 Try.underlying48 ku_key (fun _ => by kernel_rfl) hmk idk false
                  rw [hsh] at this
                  exact this
                clear hmk
                rw [hsh] at hsv
                obtain ⟨a9, c9, e9, _, hx9, hc9⟩ := hsv
                obtain ⟨rfl, rfl⟩ : at' = a9 ∧ ct' = c9 := by cases e9; exact ⟨rfl, rfl⟩
                have HSV := hide (And.intro hx9 hc9)
                clear hx9 hc9 hsh e9
                have SI : Hid (St3 w wr n gs gp g1 g2 fld (.slice (some ⟨gi', 0, none⟩) n cap') ids nv (NNi ids TL k 0)) := by rw [NNi_zero]; exact S
                have HK := hide hidk
                clear hidk S
                go_wp2_with fail
                clear hlk' hGk
                go_loopw [104] (fun i wr' => ∃ (e : Nat) (nv : Nat → Value), e ≤ (TL idk).length ∧ i = .int .i64 e ∧ Hid (St3 w wr' n gs gp g1 g2 fld (.slice (some ⟨gi', 0, none⟩) n cap') ids nv (NNi ids TL k e))) (fun i _ => (TL idk).length - (intOf i).toNat)
                case atStart => exact ⟨0, nv, by omega, rfl, SI⟩
                case round =>
                  obtain ⟨e, nv', he, rfl, S⟩ := hrel
                  clear SI
                  by_cases hen : e < (TL idk).length
                  · obtain ⟨t, ht⟩ : ∃ y, (TL idk).getD e 0 = y := ⟨_, rfl⟩
                    have hix := fun w' i h0 hi => idx_any (P := Try.prog) Try.underlying47 sz48 (n := (TL idk).length) (a := at') ct' HSV.out.1 w' i h0 hi
                    have hce : wr.cell? (adr at' e) = some (.int .u64 t) := by
                      rw [(S.out.chg.below (fun _ _ h => h)).cell (adr_lt (HSV.out.2 e hen)), HSV.out.2 e hen, ht]; rfl
                    have hlk2 : (Instr.lookup 61 (.map (some gp)) (.int .u64 t) true).run Try.prog wr = .ok (.tuple #[(lookP ids n t).getD (.int .i64 0), .bool (lookP ids n t).isSome]) wr :=
                      run_look (P := Try.prog) (T := 61) (K := 48) (E := 3) (d := .int .u64) (z := .int .i64 0) Try.underlying61 Try.underlying48 ku_key (fun _ => by kernel_rfl) S.out.map t true
                    have HTt := hide ht
                    clear ht
                    cases hp : posTo ids n t with
                    | none =>
                      have hl0 : lookP ids n t = none := by simp [lookP, hp]
                      rw [hl0] at hlk2
                      have HN : Hid (NNi ids TL k (e + 1) = NNi ids TL k e) := NNi_none ids TL k e (by rw [HK.out]; exact hen) (by rw [HK.out, HTt.out, HIds.out.2]; exact hp)
                      clear hp hl0
                      simp only [Option.getD_none, Option.isSome_none] at hlk2
                      go_wp2_with fail
                      go_roundw
                      case rel => exact ⟨e + 1, nv', by omega, by go_num, by rw [HN.out]; exact S⟩
                      case measure => simp [intOf]; omega
                    | some q =>
                      have hl0 : lookP ids n t = some (.int .i64 (q : Nat)) := by simp [lookP, hp]
                      rw [hl0] at hlk2
                      have HN : Hid ((fun j => if j = k then NNi ids TL k e k ++ [q] else NNi ids TL k e j) = NNi ids TL k (e + 1)) := NNi_some ids TL k e q (by rw [HK.out]; exact hen) (by rw [HK.out, HTt.out, HIds.out.2]; exact hp)
                      have hle := NNi_len ids TL k e
                      clear hp hl0
                      simp only [Option.getD_some, Option.isSome_some] at hlk2
                      go_wp2_with fail
                      clear hlk2 hix hce
                      obtain ⟨aN, cN, hshN⟩ := S.out.shape k hkn
                      obtain ⟨gN, capN, w7, hrun, hc7, hf7, hs7, hS7⟩ := (St3.drewN S.out 1).push k q hkn (by omega)
                      have cs1 : wr.cell? ⟨gs, 1, none⟩ = some (.slice (some ⟨g1, 0, none⟩) n n) := by
                        have := S.out.row.cell (i := 1) (by omega)
                        rw [HF.out.1] at this
                        simpa using this
                      have cn1 : wr.cell? ⟨g1, k, none⟩ = some (.slice aN (NNi ids TL k e k).length cN) := by
                        rw [← hshN]; exact S.out.r1.cell hkn
                      rw [HF.out.1] at hs7
                      rw [hshN] at hrun hc7
                      have hrun' : ∀ ty, (Builtin.append_ #[30, 30] ty #[.slice aN (NNi ids TL k e k).length cN, .slice (some ⟨wr.heap.size, 0, none⟩) 1 1]).run Try.prog (wr.alloc (.cells #[.int .i64 (q : Nat)] 3)).drew = .ok (.slice (some ⟨gN, 0, none⟩) ((NNi ids TL k e k).length + 1) capN) w7 := hrun
                      have S7 := hide hS7
                      rw [HN.out] at S7
                      clear hrun hS7 hshN
                      have lg1 : g1 < wr.heap.size := S.out.r1.lt
                      have lgs : gs < wr.heap.size := S.out.row.lt
                      generalize (NNi ids TL k e k).length = len at *
                      clear HT HM HSV HIds H2
                      go_region_law ((refine step_append_eq rfl _ _ 30 rfl _ _ _ _ rfl rfl hrun' ?_))
                      all_goals
                        go_wp2_with fail
                        go_roundw
                        case rel => exact ⟨e + 1, _, by omega, by go_num, S7⟩
                        case measure => simp [intOf]; omega
                  · have hen' : (TL idk).length = e := by omega
                    have HN : Hid (NNi ids TL k e = NNo ids TL (k + 1)) := NNi_full ids TL k e (by rw [HK.out]; omega)
                    clear hen'
                    go_wp2_with fail
                    go_roundw
                    case rel => exact ⟨k + 1, nv', by omega, by go_num, by rw [← HN.out]; exact S⟩
                    case measure => simp [intOf]; omega
              · have hkn' : n = k := by omega
                subst hkn'
                clear hkn hk
                have hNl : ∀ j, (NNo ids TL n j).length ≤ 1048576 := fun j => NNo_len ids TL n j (fun y => by obtain ⟨_, _, _, _, h⟩ := HT.out y; exact h)
                have HNl := hide hNl
                clear hNl
                have S5 : Hid (St5 w wr n gs g1 g2 fld (.slice (some ⟨gi', 0, none⟩) n cap') ids nv (NNo ids TL n) (fillA (NNo ids TL n) n (n - 1))) := (St3.to5 S.out).congr (fun j hj => by
                  unfold fillA
                  split
                  · rw [after_last _ _ _ (by omega)]; rfl
                  · rfl)
                clear S HT HM H2
                generalize hNN : NNo ids TL n = N at *
                have HNN := hide hNN
                clear hNN
                go_wp2_with fail
                go_loopw [20] (fun i wr' => ∃ m : Nat, m ≤ n - 1 ∧ i = .int .i64 ((m : Int) - 1) ∧ Hid (St5 w wr' n gs g1 g2 fld (.slice (some ⟨gi', 0, none⟩) n cap') ids nv N (fillA N n m))) (fun i _ => (intOf i + 1).toNat)
                case atStart => exact ⟨n - 1, by omega, by go_num, S5⟩
                case round =>
                  obtain ⟨m, hm, rfl, S⟩ := hrel
                  clear S5
                  by_cases hm1 : 1 ≤ m
                  · obtain ⟨j, rfl⟩ : ∃ j, m = j + 1 := ⟨m - 1, by omega⟩
                    rw [show ((j + 1 : Nat) : Int) - 1 = (j : Int) by omega]
                    have hj1 : j + 1 < n := by omega
                    have hj0 : j < n := by omega
                    obtain ⟨aN, cN, hshN⟩ : ∃ a c, nv (j + 1) = .slice a (N (j + 1)).length c := by
                      obtain ⟨a, c, e⟩ := (S.out.nx (j + 1) hj1).shape
                      exact ⟨a, c, by simpa using e⟩
                    have cs1 : wr.cell? ⟨gs, 1, none⟩ = some (.slice (some ⟨g1, 0, none⟩) n n) := by
                      have := S.out.row.cell (i := 1) (by omega)
                      rw [HF.out.1] at this
                      simpa using this
                    have cs2 : wr.cell? ⟨gs, 2, none⟩ = some (.slice (some ⟨g2, 0, none⟩) n n) := by
                      have := S.out.row.cell (i := 2) (by omega)
                      rw [HF.out.2] at this
                      simpa using this
                    have cn1 : wr.cell? ⟨g1, j + 1, none⟩ = some (.slice aN (N (j + 1)).length cN) := by rw [← hshN]; exact S.out.r1.cell hj1
                    have ca1 : wr.cell? ⟨g2, j + 1, none⟩ = some (.int .i64 (afterOf N n (j + 1) : Nat)) := by
                      have := S.out.r2.cell hj1
                      simpa [fillA] using this
                    have ca0 : wr.cell? ⟨g2, j, none⟩ = some (.int .i64 0) := by
                      have := S.out.r2.cell hj0
                      rw [fillA, if_neg (by omega)] at this
                      exact this
                    have fa0 := S.out.r2.frozen j
                    have hb1 := after_le N n (j + 1) HNl.out hn2
                    have hb2 := HNl.out (j + 1)
                    have S7 : Hid (St5 w (wr.setCell ⟨g2, j, none⟩ (.int .i64 (((afterOf N n (j + 1) : Nat) : Int) + (((N (j + 1)).length : Nat) : Int)))) n gs g1 g2 fld (.slice (some ⟨gi', 0, none⟩) n cap') ids nv N (fillA N n j)) := (S.out.set j _).congr (fun i hi => by
                      unfold fillA
                      by_cases e : i = j
                      · subst e
                        rw [if_pos rfl, if_pos (Nat.le_refl _), after_step N n i (by omega), Int.natCast_add]
                      · rw [if_neg e]
                        by_cases h : j ≤ i
                        · rw [if_pos h, if_pos (by omega)]
                        · rw [if_neg h, if_neg (by omega)])
                    have ng1 : g2 ≠ gs := S.out.apart.1.symm
                    have ng2 : g2 ≠ g1 := S.out.apart.2.symm
                    clear hshN S
                    generalize (N (j + 1)).length = len at *
                    generalize afterOf N n (j + 1) = aft at *
                    go_wp2_with fail
                    have hj1' : (j : Int) + 1 < (n : Int) := by omega
                    have hj0' : (j : Int) < (n : Int) := by omega
                    have hj00 : (0 : Int) ≤ (j : Int) + 1 := by omega
                    have htn : ((j : Int) + 1).toNat = j + 1 := by omega
                    have hw1 : IntKind.i64.wrap ((j : Int) + 1) = (j : Int) + 1 := by rw [IntKind.wrap_i64]; omega
                    have hw2 : IntKind.i64.wrap ((aft : Int) + (len : Int)) = (aft : Int) + (len : Int) := by rw [IntKind.wrap_i64]; omega
                    go_region_held3 (fun W => W.cell? ⟨gs, 1, none⟩ = some (.slice (some ⟨g1, 0, none⟩) n n) ∧ W.cell? ⟨gs, 2, none⟩ = some (.slice (some ⟨g2, 0, none⟩) n n) ∧ W.cell? ⟨g1, j + 1, none⟩ = some (.slice aN len cN) ∧ W.cell? ⟨g2, j + 1, none⟩ = some (.int .i64 (aft : Nat)))
                      ((first | exact ⟨cs1, cs2, cn1, ca1⟩ | simp [go_sem, cs1, cs2, cn1, ca1]))
                      (fail)
                    go_wp2_with fail
                    go_roundw
                    case rel => exact ⟨j, by omega, rfl, St5.drew S7.out⟩
                    case measure => simp [intOf]
                  · have hm0 : m = 0 := by omega
                    subst hm0
                    go_wp2_with fail
                    go_ret
                    rw [HNN.out]
                    exact ⟨gs, g1, g2, gi', cap', fld, nv, rfl, HF.out.1, HF.out.2, HOne.out, S.out.congr (fun j _ => by simp [fillA])⟩
end Go.Proofs.Qxb6602686a
