import Derived.Test.Qxb6605724aRows
import Derived.WalkKit
import Derived.ProofKit
import Derived.OpenShut
import Derived.ShutString
import Derived.ChangeOld
import Derived.Below
import Derived.WalkSpells
import Derived.WalkLawsBesides
import Derived.RegionTactic
import Derived.ChangeAlike
import Derived.Deep.QuietTactic
import Derived.BigQuiet
import Derived.Deep.Strs
import Derived.Deep.RegionHeld3
import Derived.Maps.AppendAt
namespace Go.Proofs.Qxb6605724a.Path
open Go.ChangeShapes Go.WideShapes Go.ChangeAt Go.RowKit
set_option linter.unusedVariables false

theorem info9 : (Try.prog.info? 9).map (fun i => (i.zero, i.size, i.bytes)) = some (some (.string ByteArray.empty), 1, 16) := by kernel_rfl
theorem info3 : (Try.prog.info? 3).map (fun i => (i.zero, i.size, i.bytes)) = some (some (.int .i64 0), 1, 8) := by kernel_rfl

/-- a call that answers a bool; where it is true, no name is long -/
def IsB (e : Ending) (len : Nat) (N : Nat → ByteArray) : Prop := ∃ b, e = .returned (.bool b) ∧ (b = true → ∀ i, i < len → (N i).size ≤ 1048576)

/-- the slice at a holds len triples -/
def Steps (w : World) (a : Option Addr) (len : Nat) (N : Nat → ByteArray) (I J : Nat → Int) : Prop := ∀ i, i < len → ∃ b off, a = some ⟨b, off, none⟩ ∧ b < w.heap.size ∧
  w.cell? ⟨b, off + i * 3, none⟩ = some (.string (N i)) ∧ w.cell? ⟨b, off + i * 3 + 1, none⟩ = some (.int .i64 (I i)) ∧ w.cell? ⟨b, off + i * 3 + 2, none⟩ = some (.int .i64 (J i)) ∧ (N i).size ≤ maxLen

theorem Steps.below {w w' : World} {a : Option Addr} {len B : Nat} {N : Nat → ByteArray} {I J : Nat → Int} (h : Steps w a len N I J) (hb : Below B w w') (hB : w.heap.size ≤ B) : Steps w' a len N I J := by
  intro i hi
  obtain ⟨b, off, e, h1, h2, h3, h4, h5⟩ := h i hi
  exact ⟨b, off, e, Nat.lt_of_lt_of_le h1 hb.size, (hb.cell (p := ⟨b, _, none⟩) (by simp; omega)).trans h2, (hb.cell (p := ⟨b, _, none⟩) (by simp; omega)).trans h3, (hb.cell (p := ⟨b, _, none⟩) (by simp; omega)).trans h4, h5⟩

set_option maxHeartbeats 1000000 in
theorem zz11_any (a : Option Addr) (len cap : Nat) (N : Nat → ByteArray) (I J : Nat → Int) (w : World) (hl : len ≤ maxLen) (hp : Steps w a len N I J) :
    Calls Try.prog 11 #[.slice a len cap] w fun e w' => IsB e len N ∧ w = w' := by
  unfold maxLen at hl
  have HP : Hid (Steps w a len N I J) := hp
  clear hp
  go_enter Try.func11, Try.ntmps11
  go_wp2
  all_goals first
    | (go_ret; exact ⟨⟨_, rfl, fun h => by cases h⟩, rfl⟩)
    | skip
  go_loop [3, 4] (fun z i => ∃ k : Nat, k ≤ len ∧ i = .int .i64 k ∧ (∃ q : Int, 0 ≤ q ∧ q ≤ 1048576 ∧ z = .int .i64 q) ∧ ∀ j, j < k → (N j).size ≤ 1048576) (fun _ i => len - (intOf i).toNat)
  case atStart => exact ⟨0, Nat.zero_le _, rfl, ⟨_, by omega, by omega, rfl⟩, fun j hj => by omega⟩
  case round =>
    obtain ⟨k, hk, rfl, ⟨q, hq1, hq2, rfl⟩, hall⟩ := hrel
    have HA : Hid (∀ j, j < k → (N j).size ≤ 1048576) := hall
    clear hall
    by_cases hlt : k < len
    · obtain ⟨b, off, ha, hb, h1, h2, h3, h4⟩ := HP.out k hlt
      subst ha
      unfold maxLen at h4
      have HS : Hid ((N k).size ≤ 1048576 → ∀ j, j < k + 1 → (N j).size ≤ 1048576) := by
        intro h j hj
        by_cases e : j = k
        · subst e; exact h
        · exact HA.out j (by omega)
      generalize N k = nk at h1 h4 HS
      clear h2 h3
      go_wp2
      all_goals first
        | (go_ret; exact ⟨⟨_, rfl, fun h => by cases h⟩, rfl⟩)
        | (go_round
           case rel => exact ⟨k + 1, by omega, by go_num, ⟨_, by omega, by omega, rfl⟩, HS.out (by omega)⟩
           case measure => simp [intOf]; omega)
    · go_wp2
      go_ret
      exact ⟨⟨_, rfl, fun _ i hi => HA.out i (by omega)⟩, rfl⟩

/-- every old block but db and the row b is as it was -/
structure Fr (w w' : World) (db : Nat) (b : Option Nat) : Prop where
  os : w'.os = w.os
  tape : w'.tape = w.tape
  output : w'.output = w.output
  size : w.heap.size ≤ w'.heap.size
  block : ∀ k, k < w.heap.size → k ≠ db → some k ≠ b → w'.heap[k]? = w.heap[k]?

theorem Fr.below {w w' : World} {db B : Nat} {b : Option Nat} (h : Fr w w' db b) (hB : B ≤ db) (hw : B ≤ w.heap.size) (hb : ∀ g, b = some g → B ≤ g) : Below B w w' :=
  ⟨h.os, h.tape, h.output, h.size, fun k hk => h.block k (by omega) (by omega) (fun e => by have := hb k e.symm; omega)⟩

theorem Fr.owns {w w' : World} {db B : Nat} {b : Option Nat} {e : TypeId} {sz n : Nat} {v : Value} {xs : List Value} (h : Fr w w' db b) (ho : w.ownsRow B e sz v n xs) (h1 : v.ownBlock ≠ some db) (h2 : ∀ g, v.ownBlock = some g → some g ≠ b) : w'.ownsRow B e sz v n xs := by
  refine ⟨ho.1, ?_⟩
  rcases ho.2 with h0 | ⟨g, cap, cur, rfl, hg, hh, r⟩
  · exact .inl h0
  · refine .inr ⟨g, cap, cur, rfl, hg, ?_, r⟩
    rw [h.block g (lt_of_block hh) (fun e => h1 (by simp [Value.ownBlock, e])) (h2 g rfl)]
    exact hh

/-- a block of another kind is no row of e's -/
theorem not_row {w : World} {B db : Nat} {e t : TypeId} {sz n : Nat} {v : Value} {xs : List Value} {cs : Array Value} (hm : w.heap[db]? = some (.cells cs t (0, 0))) (ho : w.ownsRow B e sz v n xs) (hne : e ≠ t) : v.ownBlock ≠ some db := by
  rcases ho.2 with ⟨rfl, _⟩ | ⟨g, cap, cur, rfl, hg, hh, _⟩
  · simp [Value.ownBlock]
  · intro h
    simp only [Value.ownBlock, Option.some.injEq] at h
    subst h
    rw [hh] at hm
    simp only [Option.some.injEq, Obj.cells.injEq] at hm
    exact hne hm.2.1

theorem rows_apart {w : World} {B : Nat} {e e' : TypeId} {sz n sz' n' : Nat} {v v' : Value} {xs xs' : List Value} (ho : w.ownsRow B e sz v n xs) (ho' : w.ownsRow B e' sz' v' n' xs') (hne : e ≠ e') : ∀ g, v.ownBlock = some g → some g ≠ v'.ownBlock := by
  intro g hg h
  rcases ho'.2 with ⟨rfl, _⟩ | ⟨g', cap, cur, rfl, _, hh, _⟩
  · simp [Value.ownBlock] at h
  · simp only [Value.ownBlock, Option.some.injEq] at h
    subst h
    exact not_row hh ho hne hg

/-- one append into a row whose slice lies at cell co of block db -/
theorem app_step {w w1 : World} {B db n co : Nat} {e : TypeId} {v v' x : Value} {xs : List Value} {cs : Array Value} {o : Obj} (hB : B ≤ db) (hm : w.heap[db]? = some (.cells cs 54 (0, 0))) (hown : w.ownsRow B e 1 v n xs) (he : e ≠ 54)
    (hown' : w1.ownsRow B e 1 v' (n + 1) (xs ++ [x])) (hgr : (w.alloc o).grownBy w1 v.ownBlock) (hat : v'.ownBlock = v.ownBlock ∨ v'.ownBlock = some (w.heap.size + 1)) (u : Value) (hco : cs[co]? = some u) :
    ∃ g c, v' = .slice (some ⟨g, 0, none⟩) (n + 1) c ∧ w1.heap[db]? = some (.cells cs 54 (0, 0)) ∧ w1.cell? ⟨db, co, none⟩ = some u ∧ w1.frozen? ⟨db, co, none⟩ = false ∧
      (w1.setCell ⟨db, co, none⟩ v').heap[db]? = some (.cells (cs.setIfInBounds co v') 54 (0, 0)) ∧ (w1.setCell ⟨db, co, none⟩ v').ownsRow B e 1 v' (n + 1) (xs ++ [x]) ∧
      Fr w (w1.setCell ⟨db, co, none⟩ v') db v.ownBlock ∧ (v.ownBlock = some g ∨ w.heap.size < g) := by
  have hlt := lt_of_block hm
  have hsz : (w.alloc o).heap.size = w.heap.size + 1 := by simp
  have hm1 : w1.heap[db]? = some (.cells cs 54 (0, 0)) := by
    rw [hgr.block db (by omega) (fun h => not_row hm hown he h.symm), Below.heap_alloc _ _ _ hlt]
    exact hm
  have hne := not_row hm1 hown' he
  have hfr : Fr w (w1.setCell ⟨db, co, none⟩ v') db v.ownBlock := by
    refine ⟨hgr.os, hgr.tape, hgr.output, ?_, fun k hk h1 h2 => ?_⟩
    · have := hgr.size
      simp [World.setCell]
      omega
    · rw [heap_setCell_other w1 ⟨db, co, none⟩ k v' h1, hgr.block k (by omega) h2, Below.heap_alloc _ _ _ hk]
  rcases hown'.2 with ⟨_, h0⟩ | ⟨g, cap, cur, rfl, _⟩
  · omega
  · refine ⟨g, cap, rfl, hm1, by rw [cell_of_row w1 db co _ 54 _ hm1]; exact hco, frozen_of_row w1 db co _ 54 hm1, heap_setCell_same w1 db co _ 54 _ hm1, ownsRow_setCell_other hown' hne _, hfr, ?_⟩
    rcases hat with h | h
    · exact .inl (by rw [← h]; rfl)
    · right
      simp only [Value.ownBlock, Option.some.injEq] at h
      omega
end Go.Proofs.Qxb6605724a.Path
