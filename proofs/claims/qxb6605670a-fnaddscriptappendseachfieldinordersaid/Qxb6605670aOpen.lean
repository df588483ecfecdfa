import Derived.Test.Qxb6605670aBase
namespace Go.Proofs.Qxb6605670a.Msg
open Go.ChangeShapes Go.WideShapes Go.ChangeAt Go.RowKit
set_option linter.unusedVariables false

/-- what the walks ask of a slice of pairs of strings, from its reading -/
theorem pairs_of {H : Type} {enc : TypeId × Value → H} {P : Program} {w : World} {base : Nat} {spare : Nat → Bool} {held : Bool} {t e : TypeId} {f0 f1 : Field} {fuel : Nat} {a : Option Addr} {len cap : Nat} {x : DataW H × List MemPlace}
    (ht : P.underlying t = some (.slice e)) (he : P.underlying e = some (.struct #[f0, f1])) (ce : P.cellsOf e = 2) (o0 : f0.offset = 0) (o1 : f1.offset = 1) (c0 : P.cellsOf f0.type = 1) (c1 : P.cellsOf f1.type = 1)
    (s0 : P.underlying f0.type = some .string) (s1 : P.underlying f1.type = some .string)
    (h : DataW.trod enc P w base spare held fuel t [.slice a len cap] = some x) :
    ∃ N V, (a = none → len = 0 ∧ cap = 0) ∧ len ≤ maxLen ∧ Pairs w a len N V := by
  rcases Deep.open_slice_pairs ht he ce o0 o1 c0 c1 h with ⟨hcs, _⟩ | ⟨ad, len', cap', m, n, V0, V1, D0, D1, P0, P1, hcs, _, hl, hm, hmm, _, hx⟩
  · simp only [List.cons.injEq, Value.slice.injEq, and_true] at hcs
    obtain ⟨rfl, rfl, rfl⟩ := hcs
    exact ⟨fun _ => ByteArray.empty, fun _ => ByteArray.empty, fun _ => ⟨rfl, rfl⟩, Nat.zero_le _, fun i hi => by omega⟩
  · simp only [List.cons.injEq, Value.slice.injEq, and_true] at hcs
    obtain ⟨rfl, rfl, rfl⟩ := hcs
    have hle : len ≤ m := by rw [hmm]; split <;> omega
    have each : ∀ i, i < len → ∃ q : ByteArray × ByteArray, V0 i = .string q.1 ∧ V1 i = .string q.2 ∧ q.1.size ≤ maxLen ∧ q.2.size ≤ maxLen := by
      intro i hi
      obtain ⟨_, _, g0, g1⟩ := hx i (by omega)
      obtain ⟨y0, e0, _, z0⟩ := DataW.trod_string s0 g0
      obtain ⟨y1, e1, _, z1⟩ := DataW.trod_string s1 g1
      exact ⟨(y0, y1), by simpa using e0, by simpa using e1, z0, z1⟩
    obtain ⟨q, hq⟩ := Deep.choose_lt each
    refine ⟨fun i => (q i).1, fun i => (q i).2, fun h => (by simp at h), by omega, fun i hi => ?_⟩
    have hs : ad.spot = none := by
      have h0 := (hx 0 (by omega)).1
      simpa [Addr.add] using World.cell?_spot h0
    obtain ⟨b, off, sp⟩ := ad
    simp only at hs
    subst hs
    obtain ⟨g1, g2, _, _⟩ := hx i (by omega)
    obtain ⟨e1, e2, e3, e4⟩ := hq i hi
    rw [add_plain] at g1 g2
    rw [e1] at g1
    rw [e2] at g2
    exact ⟨b, off, rfl, World.block_lt_of_cell? w _ g1, g1, g2, e3, e4⟩
end Go.Proofs.Qxb6605670a.Msg
