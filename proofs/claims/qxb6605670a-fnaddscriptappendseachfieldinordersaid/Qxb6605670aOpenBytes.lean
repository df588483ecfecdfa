import Derived.Test.Qxb6605670aClone
namespace Go.Proofs.Qxb6605670a.Msg
open Go.ChangeShapes Go.WideShapes Go.ChangeAt Go.RowKit
set_option linter.unusedVariables false

/-- what the walks ask of a slice of bytes, from its reading -/
theorem bytes_of {H : Type} {enc : TypeId × Value → H} {P : Program} {w : World} {base : Nat} {spare : Nat → Bool} {held : Bool} {t e : TypeId} {fuel : Nat} {a : Option Addr} {len cap : Nat} {x : DataW H × List MemPlace}
    (ht : P.underlying t = some (.slice e)) (he : P.underlying e = some (.int .u8)) (ce : P.cellsOf e = 1)
    (h : DataW.trod enc P w base spare held fuel t [.slice a len cap] = some x) :
    (a = none → len = 0 ∧ cap = 0) ∧ len ≤ maxLen ∧ Bytes w a len := by
  rcases open_ints ht he ce h with ⟨hcs, _⟩ | ⟨ad, len', cap', zs, hcs, _, hl, hm, hz, _, hcell, hwz⟩
  · simp only [List.cons.injEq, Value.slice.injEq, and_true] at hcs
    obtain ⟨rfl, rfl, rfl⟩ := hcs
    exact ⟨fun _ => ⟨rfl, rfl⟩, Nat.zero_le _, fun i hi => by omega⟩
  · simp only [List.cons.injEq, Value.slice.injEq, and_true] at hcs
    obtain ⟨rfl, rfl, rfl⟩ := hcs
    have hle : len ≤ zs.length := by rw [hz]; split <;> omega
    refine ⟨fun h => (by simp at h), by omega, fun i hi => ?_⟩
    have hs : ad.spot = none := by
      have h0 := hcell 0 (by omega)
      simpa [Addr.add] using World.cell?_spot h0
    obtain ⟨b, off, sp⟩ := ad
    simp only at hs
    subst hs
    have g1 := hcell i (by omega)
    rw [add_plain] at g1
    exact ⟨b, off, _, rfl, World.block_lt_of_cell? w _ g1, g1⟩
end Go.Proofs.Qxb6605670a.Msg
