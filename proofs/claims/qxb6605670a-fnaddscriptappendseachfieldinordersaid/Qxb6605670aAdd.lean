import Derived.Test.Qxb6605670aFields
namespace Go.Proofs.Qxb6605670a.Msg
open Go.ChangeShapes Go.WideShapes Go.ChangeAt Go.RowKit
set_option linter.unusedVariables false

/-- the message at block mb: its fields are the n pairs whose cells are xs -/
def IsMsg (w : World) (B mb : Nat) (c0 c1 c2 c3 c5 : Value) (v : Value) (n : Nat) (xs : List Value) : Prop :=
  w.heap[mb]? = some (.cells #[c0, c1, c2, c3, v, c5] 39 (0, 0)) ∧ w.ownsRow B 44 2 v n xs

/-- what 'Add' leaves -/
def Added (w w' : World) (B mb : Nat) (c0 c1 c2 c3 c5 : Value) (n : Nat) (xs : List Value) (s t : ByteArray) : Prop :=
  ∃ g cap, IsMsg w' B mb c0 c1 c2 c3 c5 (.slice (some ⟨g, 0, none⟩) (n + 1) cap) (n + 1) (xs ++ [.string s, .string t]) ∧ Below B w w'

theorem other_block {w : World} {B mb : Nat} {c0 c1 c2 c3 c5 v v' : Value} {n : Nat} {xs : List Value} (hm : w.heap[mb]? = some (.cells #[c0, c1, c2, c3, v', c5] 39 (0, 0))) (ho : w.ownsRow B 44 2 v n xs) : v.ownBlock ≠ some mb := by
  rcases ho.2 with ⟨rfl, _⟩ | ⟨g, cap, cur, rfl, hg, hh, _⟩
  · simp [Value.ownBlock]
  · intro e
    simp only [Value.ownBlock, Option.some.injEq] at e
    subst e
    rw [hh] at hm
    simp at hm

theorem added_of {w w1 : World} {B mb n : Nat} {c0 c1 c2 c3 c5 v v' : Value} {xs : List Value} {s t : ByteArray} {o : Obj} (hB : B ≤ mb) (hm : w.heap[mb]? = some (.cells #[c0, c1, c2, c3, v, c5] 39 (0, 0))) (hown : w.ownsRow B 44 2 v n xs)
    (hown' : w1.ownsRow B 44 2 v' (n + 1) (xs ++ [.string s, .string t])) (hgr : (w.alloc o).grownBy w1 v.ownBlock) :
    (∃ g cap, v' = .slice (some ⟨g, 0, none⟩) (n + 1) cap) ∧ w1.cell? ⟨mb, 4, none⟩ = some v ∧ w1.frozen? ⟨mb, 4, none⟩ = false ∧ Added w (w1.setCell ⟨mb, 4, none⟩ v') B mb c0 c1 c2 c3 c5 n xs s t := by
  have hlt := lt_of_block hm
  have hm1 : w1.heap[mb]? = some (.cells #[c0, c1, c2, c3, v, c5] 39 (0, 0)) := by
    rw [hgr.block mb (by simp; omega) (fun e => other_block hm hown e.symm), Below.heap_alloc _ _ _ hlt]
    exact hm
  have hne := other_block hm1 hown'
  have hb : Below B w (w1.setCell ⟨mb, 4, none⟩ v') := by
    have h1 : Below B w (w.alloc o) := (Below.refl _ _).alloc (by omega) _
    refine Below.setCell (h1.grown hgr (by simp; omega) (fun k hk => ?_)) hB _
    exact (hown.lt k hk).1
  rcases hown'.2 with ⟨_, h0⟩ | ⟨g, cap, cur, rfl, _⟩
  · omega
  · exact ⟨⟨g, cap, rfl⟩, by rw [cell_of_row w1 mb 4 _ 39 _ hm1]; rfl, frozen_of_row w1 mb 4 _ 39 hm1, g, cap, ⟨by rw [heap_setCell_same w1 mb 4 _ 39 _ hm1]; rfl, ownsRow_setCell_other hown' hne _⟩, hb⟩

theorem news_cells (w : World) (s t : ByteArray) : ∀ j u, [Value.string s, Value.string t][j]? = some u → (w.alloc (.cells #[.string s, .string t] 44)).cell? ((⟨w.heap.size, 0, none⟩ : Addr).add j) = some u := by
  intro j u hj
  rw [add_plain, Nat.zero_add, World.cell?_alloc_new]
  rcases j with _ | _ | j
  · simpa using hj
  · simpa using hj
  · simp at hj

set_option maxHeartbeats 1000000 in
theorem add_any (B mb n : Nat) (c0 c1 c2 c3 c5 v : Value) (xs : List Value) (s t : ByteArray) (w : World) (hB : B ≤ mb) (hM : IsMsg w B mb c0 c1 c2 c3 c5 v n xs) (hn : n ≤ 1048576) :
    Calls Try.prog 21 #[.pointer (some ⟨mb, 0, none⟩), .string s, .string t] w fun e w' => e = .returned (.tuple #[]) ∧ Added w w' B mb c0 c1 c2 c3 c5 n xs s t := by
  obtain ⟨hm, hown⟩ := hM
  obtain ⟨i0, hi, hz0, hz1, hz2⟩ := info_parts info44
  have hlt := lt_of_block hm
  have hc : w.cell? ⟨mb, 4, none⟩ = some v := by rw [cell_of_row w mb 4 _ 39 _ hm]; rfl
  have HM : Hid (w.heap[mb]? = some (.cells #[c0, c1, c2, c3, v, c5] 39 (0, 0))) := hm
  clear hm
  rcases hown.2 with ⟨rfl, rfl⟩ | ⟨g, cap, cur, rfl, hg⟩
  all_goals
    go_enter Try.func21, Try.ntmps21
    go_wp2_with (first
      | (at_builtin; refine wpList_append_own _ rfl _ _ 36 rfl B 44 i0 (.agg #[.string ByteArray.empty, .string ByteArray.empty]) 2 32 Try.underlying36 hi hz0 hz1 hz2 rfl (by decide) _ _ _ rfl (hown.alloc _) ⟨w.heap.size, 0, none⟩ 1 1 [.string s, .string t] rfl rfl (news_cells w s t) (by intro u hu; simp at hu; rcases hu with rfl | rfl <;> rfl) (by unfold maxLen; omega) (by omega) (by simp; omega) ?_)
      | fail)
    intro v' w1 hown' hgr _
    obtain ⟨⟨g', cap', rfl⟩, hc1, hf1, hadd⟩ := added_of hB HM.out hown hown' hgr
    have HA : Hid (Added _ _ B mb c0 c1 c2 c3 c5 _ xs s t) := hadd
    clear hadd hown' hgr hown hi hz0 hz1 hz2
    go_wp2
    go_end0
    exact ⟨rfl, HA⟩
end Go.Proofs.Qxb6605670a.Msg
