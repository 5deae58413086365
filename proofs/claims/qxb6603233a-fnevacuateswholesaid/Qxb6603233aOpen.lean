import Derived.Test.Qxb6603233aBase
import Derived.ProofKit
import Derived.OpenShut
import Derived.ChangeOld
import Derived.Below
import Derived.Carry
import Derived.SizedLaws
import Derived.Deep.Strs
namespace Go.Proofs.Qxb6603233a
open Go.ChangeShapes Go.WideShapes Go.ChangeAt Go.RowKit Go.Deep

theorem own : ownKnob Try.prog.godebug = none := by kernel_rfl
theorem laidOut : laidOutB Try.prog = true := by kernel_rfl

theorem sv_of_cells {w : World} {x : Addr} {len cap : Nat} {f : Nat → Value} (hl : len ≤ 281474976710656) (h : ∀ i, i < len → w.cell? (x.add i) = some (f i)) : SV w (.slice (some x) len cap) len f := by
  obtain ⟨b, o, sp⟩ := x
  refine ⟨_, _, rfl, hl, fun h0 => ?_, fun j hj => ?_⟩
  · have hspot : sp = none := by simpa [Addr.add] using World.cell?_spot (h 0 h0)
    subst hspot
    exact ⟨b, o, rfl⟩
  · have hspot : sp = none := by simpa [Addr.add] using World.cell?_spot (h 0 (by omega))
    subst hspot
    have := h j hj
    rw [Addr.add_lit] at this
    exact this
theorem mem_weightsAll {H : Type} {P : Program} {e : TypeId} {d : DataW H} {n : Nat} : ∀ {l : List (DataW H)}, d ∈ l → n ∈ d.weights P e → n ∈ DataW.weightsAll P e l
  | [], h, _ => by cases h
  | x :: l, h, hn => by
    simp only [DataW.weightsAll, List.mem_append]
    rcases List.mem_cons.1 h with rfl | h
    · exact .inl hn
    · exact .inr (mem_weightsAll h hn)
theorem reach48 {n m k : Nat} (hk : 0 < k) (h : (n + m) * k ≤ reachBytes) : n ≤ 281474976710656 := by
  have := reachBytes_lt
  have h2 : (n + m) * 1 ≤ (n + m) * k := Nat.mul_le_mul (Nat.le_refl _) hk
  omega

section
variable {H : Type} {enc : TypeId × Value → H}
/-- a slice of one-cell things that came in, as the walk sees it -/
theorem one_sv {α : Type} [Inhabited α] (mk : α → Value) {t e : TypeId} (ht : Try.prog.underlying t = some (.slice e)) (hc : Try.prog.cellsOf e = 1) (hb : 0 < Try.prog.bytesOf e) {W : World}
    (val : ∀ (v : Value) (x : DataW H × List MemPlace) (n : Nat), DataW.trod enc Try.prog W 0 (fun _ => true) true n e [v] = some x → ∃ y, v = mk y)
    {a : Option Addr} {len cap : Nat} {d : DataW H} {p : List MemPlace} (h : DataW.Trod enc Try.prog W 0 (fun _ => true) true t (.slice a len cap) d p) (hz : ∀ n ∈ d.weights Try.prog t, n ≤ reachBytes) :
    ∃ z : Nat → α, SV W (.slice a len cap) len (fun j => mk (z j)) := by
  obtain ⟨fuel, hf⟩ := h
  rcases open_slice1 ht hc hf with ⟨hcs, _⟩ | ⟨x, l, c, m, n, V, D, Pl, hcs, _, hl, hm, hmm, hx, hcell⟩
  · simp [Value.cells] at hcs
    obtain ⟨rfl, rfl, rfl⟩ := hcs
    exact ⟨fun _ => default, SV.nil W _⟩
  · simp [Value.cells] at hcs
    obtain ⟨rfl, rfl, rfl⟩ := hcs
    simp only [if_true] at hmm
    subst hmm
    simp only [Prod.mk.injEq] at hx
    have hw : (len + (m - len)) * Try.prog.bytesOf e ≤ reachBytes := hz _ (by
      rw [hx.1]
      simp [DataW.weights, ht])
    have hlen := reach48 hb hw
    have each : ∀ i, ∃ y, i < len → V i = mk y := fun i => by
      by_cases hi : i < len
      · obtain ⟨y, hy⟩ := val (V i) _ n (hcell i (by omega)).2
        exact ⟨y, fun _ => hy⟩
      · exact ⟨default, fun h => absurd h hi⟩
    refine ⟨fun i => Classical.choose (each i), sv_of_cells hlen (fun i hi => ?_)⟩
    rw [(hcell i (by omega)).1, Classical.choose_spec (each i) hi]
theorem cells9 : Try.prog.cellsOf 9 = 1 := by kernel_rfl
theorem cells4 : Try.prog.cellsOf 4 = 1 := by kernel_rfl
theorem cells22 : Try.prog.cellsOf 22 = 1 := by kernel_rfl
theorem bytes9 : Try.prog.bytesOf 9 = 16 := by kernel_rfl
theorem bytes4 : Try.prog.bytesOf 4 = 1 := by kernel_rfl
theorem bytes22 : Try.prog.bytesOf 22 = 24 := by kernel_rfl
theorem strs_sv {W : World} {a : Option Addr} {len cap : Nat} {d : DataW H} {p : List MemPlace} (h : DataW.Trod enc Try.prog W 0 (fun _ => true) true 22 (.slice a len cap) d p) (hz : ∀ n ∈ d.weights Try.prog 22, n ≤ reachBytes) :
    ∃ z : Nat → ByteArray, SV W (.slice a len cap) len (fun j => .string (z j)) :=
  one_sv .string Try.underlying22 cells9 (by rw [bytes9]; omega) (fun v x n hv => by
    obtain ⟨s, h1, _⟩ := DataW.trod_string Try.underlying9 hv
    exact ⟨s, by simpa using h1⟩) h hz
theorem bools_sv {W : World} {a : Option Addr} {len cap : Nat} {d : DataW H} {p : List MemPlace} (h : DataW.Trod enc Try.prog W 0 (fun _ => true) true 23 (.slice a len cap) d p) (hz : ∀ n ∈ d.weights Try.prog 23, n ≤ reachBytes) :
    ∃ z : Nat → Bool, SV W (.slice a len cap) len (fun j => .bool (z j)) :=
  one_sv .bool Try.underlying23 cells4 (by rw [bytes4]; omega) (fun v x n hv => by
    obtain ⟨b, h1, _⟩ := DataW.trod_bool Try.underlying4 hv
    exact ⟨b, by simpa using h1⟩) h hz
theorem strrows_ss {W : World} {a : Option Addr} {len cap : Nat} {d : DataW H} {p : List MemPlace} (h : DataW.Trod enc Try.prog W 0 (fun _ => true) true 24 (.slice a len cap) d p) (hz : ∀ n ∈ d.weights Try.prog 24, n ≤ reachBytes) :
    ∃ (A : Nat → Option Addr) (L C : Nat → Nat) (z : Nat → Nat → ByteArray), SS W (.slice a len cap) len A L C (fun i j => .string (z i j)) := by
  obtain ⟨fuel, hf⟩ := h
  rcases open_slice1 Try.underlying24 cells22 hf with ⟨hcs, _⟩ | ⟨x, l, c, m, n, V, D, Pl, hcs, _, hl, hm, hmm, hx, hcell⟩
  · simp [Value.cells] at hcs
    obtain ⟨rfl, rfl, rfl⟩ := hcs
    exact ⟨fun _ => none, fun _ => 0, fun _ => 0, fun _ _ => default, SV.nil W _, fun i hi => by omega⟩
  · simp [Value.cells] at hcs
    obtain ⟨rfl, rfl, rfl⟩ := hcs
    simp only [if_true] at hmm
    subst hmm
    simp only [Prod.mk.injEq] at hx
    have hw : (len + (m - len)) * 24 ≤ reachBytes := hz _ (by
      rw [hx.1]
      simp [DataW.weights, Try.underlying24, bytes22])
    have hlen := reach48 (by omega) hw
    have each : ∀ i, ∃ y : Option Addr × Nat × Nat × (Nat → ByteArray), i < len → V i = .slice y.1 y.2.1 y.2.2.1 ∧ SV W (.slice y.1 y.2.1 y.2.2.1) y.2.1 (fun j => .string (y.2.2.2 j)) := fun i => by
      by_cases hi : i < len
      · have ht := (hcell i (by omega)).2
        have hshape : ∃ a' l' c', V i = .slice a' l' c' := by
          rcases open_slice1 Try.underlying22 cells9 ht with ⟨h1, _⟩ | ⟨x', l', c', m', n', V', D', Pl', h1, _⟩
          · exact ⟨_, _, _, by simpa using h1⟩
          · exact ⟨_, _, _, by simpa using h1⟩
        obtain ⟨a', l', c', e⟩ := hshape
        rw [e] at ht
        obtain ⟨z, hs⟩ := strs_sv (enc := enc) (W := W) (a := a') (len := l') (cap := c') (d := D i) (p := Pl i) ⟨n, ht⟩ (fun k hk => hz k (by
          rw [hx.1]
          simp only [DataW.weights, Try.underlying24, List.mem_cons, List.mem_append]
          exact .inr (.inl (mem_weightsAll (List.mem_map.2 ⟨i, List.mem_range.2 hi, rfl⟩) hk))))
        exact ⟨(a', l', c', z), fun _ => ⟨e, hs⟩⟩
      · exact ⟨(none, 0, 0, fun _ => default), fun h => absurd h hi⟩
    refine ⟨fun i => (Classical.choose (each i)).1, fun i => (Classical.choose (each i)).2.1, fun i => (Classical.choose (each i)).2.2.1, fun i => (Classical.choose (each i)).2.2.2, sv_of_cells hlen (fun i hi => ?_), fun i hi => (Classical.choose_spec (each i) hi).2⟩
    rw [(hcell i (by omega)).1]
    exact congrArg some (Classical.choose_spec (each i) hi).1
end
end Go.Proofs.Qxb6603233a
