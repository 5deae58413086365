import Derived.Test.Qxb6603233aBytes
import Derived.Test.Qxb6603233aHosts
import Derived.Test.Qxb6603233aEvac
namespace Go.Proofs.Qxb6603233a
open Go.RowKit Go.MapKept

def vAddr : Value → Option Addr | .slice a _ _ => a | _ => none
def vCap : Value → Nat | .slice _ _ c => c | _ => 0
theorem SS.of_own {w : World} {B : Nat} {v : Value} {n : Nat} {cv : Nat → Value} {L : Nat → Nat} {F : Nat → Nat → Value} (h : Own w B 22 v n cv) (hn : n ≤ 1048576) (hr : ∀ i, i < n → Own w B 9 (cv i) (L i) (F i)) (hL : ∀ i, i < n → L i ≤ 1048576) :
    ∃ A C, SS w v n A L C F := by
  have each : ∀ i, i < n → ∃ a c, cv i = .slice a (L i) c := fun i hi => by
    obtain ⟨a, c, e, _⟩ := (hr i hi).sv (by have := hL i hi; omega)
    exact ⟨a, c, e⟩
  refine ⟨fun i => vAddr (cv i), fun i => vCap (cv i), (h.sv (by omega)).congr (fun i hi => ?_), fun i hi => ?_⟩
  · obtain ⟨a, c, e⟩ := each i hi
    simp only [e, vAddr, vCap]
  · obtain ⟨a, c, e⟩ := each i hi
    have := (hr i hi).sv (by have := hL i hi; omega)
    simp only [e, vAddr, vCap] at this ⊢
    exact this

theorem up2 {a b c : World} (h : Below a.heap.size a b) (k : Below b.heap.size b c) : Below a.heap.size a c := h.trans (k.mono h.size)
theorem SS.below {w w' : World} {v : Value} {n : Nat} {A : Nat → Option Addr} {L C : Nat → Nat} {F : Nat → Nat → Value} (h : SS w v n A L C F) (hb : Below w.heap.size w w') : SS w' v n A L C F := ⟨h.1.below hb, fun i hi => (h.2 i hi).below hb⟩
theorem HostsPost.mapO {w w' : World} {n : Nat} {f : Nat → ByteArray} {nl : Nat → Bool} {L : Nat → Nat} {F : Nat → Nat → ByteArray} {e : Ending} (h : HostsPost w w' n f nl L F e) : ∃ o, e = .returned (.map o) ∧ Below w.heap.size w w' ∧ MapO w' n f nl L F o := by
  obtain ⟨o, he, hb, h⟩ := h
  refine ⟨o, he, hb, ?_⟩
  rcases h with h | ⟨g, look, e, h⟩
  · exact .inl h
  · exact .inr ⟨g, look, e, h.map, h.ent⟩
def F4Post (w w' : World) (e : Ending) : Prop := e = .returned (.bool true) ∧ Below w.heap.size w w'

set_option maxHeartbeats 4000000 in
set_option maxRecDepth 100000 in
theorem f4_any (b0 b1 b2 b3 b4 : Bool) (uuid : ByteArray) (v1 v2 v3 v4 : Value) (n1 n2 n3 n4 : Nat) (f1 f2 : Nat → ByteArray) (nl : Nat → Bool) (A : Nat → Option Addr) (L C : Nat → Nat) (F : Nat → Nat → ByteArray) (w : World)
    (h1 : SV w v1 n1 fun j => .string (f1 j)) (h2 : SV w v2 n2 fun j => .string (f2 j)) (h3 : SV w v3 n3 fun j => .bool (nl j)) (h4 : SS w v4 n4 A L C (fun i j => .string (F i j))) :
    Calls Try.prog 4 #[.bool b0, .bool b1, .bool b2, .bool b3, .bool b4, .string uuid, v1, v2, v3, v4] w fun e w' => F4Post w w' e := by
  have H1 := hide h1
  have H2 := hide h2
  have H3 := hide h3
  have H4 := hide h4
  clear h1 h2 h3 h4
  go_enter Try.func4, Try.ntmps4
  go_wp2_with fail
  refine (bytes17_any b0 b1 b2 b3 b4 uuid v1 v2 v3 v4 n1 n2 n3 n4 f1 f2 _ A L C F w H1.out H2.out H3.out H4.out).mono ?_
  rintro e w' ⟨⟨b, rfl, hb⟩, hw⟩
  obtain rfl : w = w' := hw.symm
  clear hw
  cases b with
  | false =>
    clear hb
    go_wp2_with fail
    go_ret
    exact ⟨rfl, Below.refl _ _⟩
  | true =>
    have FIT := hide (hb rfl)
    clear hb
    go_wp2_with fail
    refine (tooBig_any uuid v1 v2 v3 v4 n1 n2 n3 n4 f1 f2 _ A L C F w H1.out H2.out H3.out H4.out).mono ?_
    rintro e w' ⟨⟨b, rfl, -⟩, hw⟩
    obtain rfl : w = w' := hw.symm
    clear hw
    cases b with
    | true =>
      go_wp2_with fail
      go_ret
      exact ⟨rfl, Below.refl _ _⟩
    | false =>
      go_wp2_with fail
      refine (shape_any v2 v3 v4 n2 n3 n4 _ _ _ w H2.out H3.out H4.out.1).mono ?_
      rintro e w' ⟨⟨b, rfl, hb⟩, hw⟩
      obtain rfl : w = w' := hw.symm
      clear hw
      cases b with
      | false =>
        clear hb
        go_wp2_with fail
        go_ret
        exact ⟨rfl, Below.refl _ _⟩
      | true =>
        obtain ⟨e3, e4, hn⟩ := hb rfl
        subst e3 e4
        clear hb
        go_wp2_with fail
        refine (cloneS_any v1 n1 f1 w H1.out FIT.out.1).mono ?_
        rintro e w1 ⟨v1', rfl, hb1, ho1⟩
        have B1 := hide hb1
        have O1 := hide (ho1.sv (by have := FIT.out.1; omega))
        clear hb1 ho1
        go_wp2_with fail
        refine (cloneS_any v2 n4 f2 w1 (H2.out.below B1.out) (by omega)).mono ?_
        rintro e w2 ⟨v2', rfl, hb2, ho2⟩
        have B2 := hide hb2
        have O2 := hide (ho2.sv (by omega))
        clear hb2 ho2
        go_wp2_with fail
        refine (cloneB_any v3 n4 nl w2 ((H3.out.below B1.out).below B2.out) (by omega)).mono ?_
        rintro e w3 ⟨v3', rfl, hb3, ho3⟩
        have B3 := hide hb3
        have O3 := hide (ho3.sv (by omega))
        clear hb3 ho3
        go_wp2_with fail
        refine (cloneSs_any v4 n4 _ L F w3 (((H4.out.1.below B1.out).below B2.out).below B3.out) (by omega) (fun i hi => ⟨(((H4.out.2 i hi).below B1.out).below B2.out).below B3.out, FIT.out.2.2.2.2 i hi⟩)).mono ?_
        rintro e w4 ⟨v4', cv, rfl, hb4, ho4, hr4⟩
        have B4 := hide hb4
        obtain ⟨A', C', hss⟩ := SS.of_own ho4 (by omega) hr4 FIT.out.2.2.2.2
        have O4 := hide hss
        clear hb4 ho4 hr4 hss
        have O1' := O1
        obtain ⟨ai, ci, rfl, -⟩ := O1'.out
        clear O1'
        go_wp2_with fail
        refine (request_any b0 b1 b2 b3 b4 uuid ai n1 ci w4).mono ?_
        rintro e w5 ⟨rfl, hb5, hp0, hp1⟩
        have B5 := hide hb5
        have HP := hide (And.intro hp0 hp1)
        clear hb5 hp0 hp1
        go_wp2_with fail
        refine (hosts_any v2' v3' v4' n4 f2 nl A' L C' F w5 hn FIT.out.2.2.2.2 (((O2.out.below B3.out).below B4.out).below B5.out) ((O3.out.below B4.out).below B5.out) (O4.out.below B5.out)).mono ?_
        rintro e w6 hpost
        obtain ⟨o, rfl, hb6, hm⟩ := hpost.mapO
        have B6 := hide hb6
        have HM := hide hm
        clear hpost hb6 hm
        go_wp2_with fail
        refine (zzevac_any w4.heap.size o uuid ai n1 ci f1 n4 f2 nl L F w6 (by rw [B6.out.cell (block_lt_of_cell HP.out.1)]; exact HP.out.1) (by rw [B6.out.cell (block_lt_of_cell HP.out.2)]; exact HP.out.2) (((((O1.out.below B2.out).below B3.out).below B4.out).below B5.out).below B6.out) HM.out FIT.out.1 FIT.out.2.2.2.2).mono ?_
        rintro e w7 ⟨⟨b, rfl, hb⟩, hw7⟩
        have HB := hide hb
        have B7 := hide hw7
        clear hb hw7
        go_wp2_with fail
        refine (model_any uuid _ v2' v3' v4' n1 n4 f1 f2 nl A' L C' F w7 ((((((O1.out.below B2.out).below B3.out).below B4.out).below B5.out).below B6.out).below B7.out) (((((O2.out.below B3.out).below B4.out).below B5.out).below B6.out).below B7.out) ((((O3.out.below B4.out).below B5.out).below B6.out).below B7.out) (((O4.out.below B5.out).below B6.out).below B7.out) hn).mono ?_
        rintro e w8 ⟨⟨b', rfl, hb'⟩, hw8⟩
        have hbb : b = b' := by
          cases hx : b with
          | true =>
            rw [hx] at HB
            exact (hb'.2 (HB.out.1 rfl)).symm
          | false =>
            cases hy : b' with
            | false => rfl
            | true =>
              have := HB.out.2 (hb'.1 hy)
              rw [hx] at this
              exact this
        subst hbb
        have BEL : Hid (Below w.heap.size w w8) := hide (up2 (up2 (up2 (up2 (up2 (up2 (up2 B1.out B2.out) B3.out) B4.out) B5.out) B6.out) B7.out) hw8)
        clear hb' hw8 HB
        go_wp2_with fail
        go_ret
        exact ⟨by simp, BEL.out⟩
end Go.Proofs.Qxb6603233a
