import Derived.Test.Qxb6605724aBase
namespace Go.Proofs.Qxb6605724a.Path
open Go.ChangeShapes Go.WideShapes Go.ChangeAt Go.RowKit
set_option linter.unusedVariables false

/-- what the walk asks of a slice of triples, from its reading -/
theorem steps_of {H : Type} {enc : TypeId × Value → H} {P : Program} {w : World} {base : Nat} {spare : Nat → Bool} {held : Bool} {t e : TypeId} {f0 f1 f2 : Field} {fuel : Nat} {a : Option Addr} {len cap : Nat} {x : DataW H × List MemPlace}
    (ht : P.underlying t = some (.slice e)) (he : P.underlying e = some (.struct #[f0, f1, f2])) (ce : P.cellsOf e = 3) (o0 : f0.offset = 0) (o1 : f1.offset = 1) (o2 : f2.offset = 2) (c0 : P.cellsOf f0.type = 1) (c1 : P.cellsOf f1.type = 1) (c2 : P.cellsOf f2.type = 1)
    (s0 : P.underlying f0.type = some .string) (s1 : P.underlying f1.type = some (.int .i64)) (s2 : P.underlying f2.type = some (.int .i64))
    (h : DataW.trod enc P w base spare held fuel t [.slice a len cap] = some x) :
    ∃ N I J, len ≤ maxLen ∧ Steps w a len N I J := by
  rcases Deep.open_slice ht h with ⟨hcs, _⟩ | ⟨ad, len', cap', m, n, D, Pl, hcs, _, hl, hm, hmm, _, hx⟩
  · simp only [List.cons.injEq, Value.slice.injEq, and_true] at hcs
    obtain ⟨rfl, rfl, rfl⟩ := hcs
    exact ⟨fun _ => ByteArray.empty, fun _ => 0, fun _ => 0, Nat.zero_le _, fun i hi => by omega⟩
  · simp only [List.cons.injEq, Value.slice.injEq, and_true] at hcs
    obtain ⟨rfl, rfl, rfl⟩ := hcs
    have hle : len ≤ m := by rw [hmm]; split <;> omega
    have each : ∀ i, i < len → ∃ q : ByteArray × Int × Int, w.cell? (ad.add (i * 3)) = some (.string q.1) ∧ w.cell? (ad.add (i * 3 + 1)) = some (.int .i64 q.2.1) ∧ w.cell? (ad.add (i * 3 + 2)) = some (.int .i64 q.2.2) ∧ q.1.size ≤ maxLen := by
      intro i hi
      obtain ⟨cs', h1, h2⟩ := hx i (by omega)
      rw [ce] at h1
      obtain ⟨_, hlen, hcell⟩ := World.cells?_some h1
      obtain ⟨y0, y1, y2, k, _, _, g0, g1, g2⟩ := Deep.trod_struct3 he h2
      match cs', hlen with
      | [v0, v1, v2], _ =>
        simp [o0, o1, o2, c0, c1, c2] at g0 g1 g2
        obtain ⟨z0, e0, _, hz0⟩ := DataW.trod_string s0 g0
        obtain ⟨z1, e1, _, _⟩ := DataW.trod_int s1 g1
        obtain ⟨z2, e2, _, _⟩ := DataW.trod_int s2 g2
        have q0 := hcell 0 (by omega)
        have q1 := hcell 1 (by omega)
        have q2 := hcell 2 (by omega)
        rw [Deep.add_add] at q0 q1 q2
        simp at e0 e1 e2
        subst e0 e1 e2
        exact ⟨(z0, z1, z2), by simpa using q0, by simpa using q1, by simpa using q2, hz0⟩
    obtain ⟨q, hq⟩ := Deep.choose_lt each
    refine ⟨fun i => (q i).1, fun i => (q i).2.1, fun i => (q i).2.2, by omega, fun i hi => ?_⟩
    have hs : ad.spot = none := by
      have h0 := (hq 0 (by omega)).1
      simpa [Addr.add] using World.cell?_spot h0
    obtain ⟨b, off, sp⟩ := ad
    simp only at hs
    subst hs
    obtain ⟨e1, e2, e3, e4⟩ := hq i hi
    rw [add_plain] at e1 e2 e3
    exact ⟨b, off, rfl, World.block_lt_of_cell? w _ e1, e1, e2, e3, e4⟩
end Go.Proofs.Qxb6605724a.Path
