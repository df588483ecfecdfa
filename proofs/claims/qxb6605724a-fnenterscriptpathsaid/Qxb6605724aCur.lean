import Derived.Test.Qxb6605724aBase
namespace Go.Proofs.Qxb6605724a.Path
open Go.ChangeShapes Go.WideShapes Go.ChangeAt Go.RowKit
set_option linter.unusedVariables false

/-- every old block but db and the rows b1, b2 is as it was -/
structure Fr2 (w w' : World) (db : Nat) (b1 b2 : Option Nat) : Prop where
  os : w'.os = w.os
  tape : w'.tape = w.tape
  output : w'.output = w.output
  size : w.heap.size ≤ w'.heap.size
  block : ∀ k, k < w.heap.size → k ≠ db → some k ≠ b1 → some k ≠ b2 → w'.heap[k]? = w.heap[k]?

theorem Fr2.of {w w2 w4 : World} {db : Nat} {b1 b2 : Option Nat} (h : Fr w w2 db b1) (k : Fr w2 w4 db b2) : Fr2 w w4 db b1 b2 :=
  ⟨k.os.trans h.os, k.tape.trans h.tape, k.output.trans h.output, Nat.le_trans h.size k.size, fun i hi h1 h2 h3 => (k.block i (Nat.lt_of_lt_of_le hi h.size) h1 h3).trans (h.block i hi h1 h2)⟩

theorem Fr2.below {w w' : World} {db B : Nat} {b1 b2 : Option Nat} (h : Fr2 w w' db b1 b2) (hB : B ≤ db) (hw : B ≤ w.heap.size) (hb1 : ∀ g, b1 = some g → B ≤ g) (hb2 : ∀ g, b2 = some g → B ≤ g) : Below B w w' :=
  ⟨h.os, h.tape, h.output, h.size, fun k hk => h.block k (by omega) (by omega) (fun e => by have := hb1 k e.symm; omega) (fun e => by have := hb2 k e.symm; omega)⟩

theorem Fr2.owns {w w' : World} {db B : Nat} {b1 b2 : Option Nat} {e : TypeId} {sz n : Nat} {v : Value} {xs : List Value} (h : Fr2 w w' db b1 b2) (ho : w.ownsRow B e sz v n xs) (h1 : v.ownBlock ≠ some db) (h2 : ∀ g, v.ownBlock = some g → some g ≠ b1) (h3 : ∀ g, v.ownBlock = some g → some g ≠ b2) : w'.ownsRow B e sz v n xs := by
  refine ⟨ho.1, ?_⟩
  rcases ho.2 with h0 | ⟨g, cap, cur, rfl, hg, hh, r⟩
  · exact .inl h0
  · refine .inr ⟨g, cap, cur, rfl, hg, ?_, r⟩
    rw [h.block g (lt_of_block hh) (fun e => h1 (by simp [Value.ownBlock, e])) (h2 g rfl) (h3 g rfl)]
    exact hh

/-- what 'cursor.enter' leaves -/
def Entered (w w' : World) (B db co n : Nat) (cs : Array Value) (T O : Value) (xs ys : List Value) (s : ByteArray) (i : Int) : Prop :=
  ∃ gT cT gO cO, w'.heap[db]? = some (.cells ((cs.setIfInBounds co (.slice (some ⟨gT, 0, none⟩) (n + 1) cT)).setIfInBounds (co + 1) (.slice (some ⟨gO, 0, none⟩) (n + 1) cO)) 54 (0, 0)) ∧
    w'.ownsRow B 9 1 (.slice (some ⟨gT, 0, none⟩) (n + 1) cT) (n + 1) (xs ++ [.string s]) ∧ w'.ownsRow B 3 1 (.slice (some ⟨gO, 0, none⟩) (n + 1) cO) (n + 1) (ys ++ [.int .i64 i]) ∧
    (T.ownBlock = some gT ∨ w.heap.size < gT) ∧ (O.ownBlock = some gO ∨ w.heap.size < gO) ∧ Fr2 w w' db T.ownBlock O.ownBlock

set_option maxHeartbeats 1000000 in
theorem cur_enter (B db co n : Nat) (cs : Array Value) (ta oa : Option Addr) (tc oc : Nat) (xs ys : List Value) (s : ByteArray) (i : Int) (w : World) (hB : B ≤ db) (hm : w.heap[db]? = some (.cells cs 54 (0, 0)))
    (hc1 : cs[co]? = some (.slice ta n tc)) (hc2 : cs[co + 1]? = some (.slice oa n oc)) (hT : w.ownsRow B 9 1 (.slice ta n tc) n xs) (hO : w.ownsRow B 3 1 (.slice oa n oc) n ys) (hn : n ≤ 1048576) :
    Calls Try.prog 21 #[.pointer (some ⟨db, co, none⟩), .string s, .int .i64 i] w fun e w' => e = .returned (.tuple #[]) ∧ Entered w w' B db co n cs (.slice ta n tc) (.slice oa n oc) xs ys s i := by
  obtain ⟨i9, hi9, hz90, hz91, hz92⟩ := info_parts info9
  obtain ⟨i3, hi3, hz30, hz31, hz32⟩ := info_parts info3
  have hlt := lt_of_block hm
  have hc : w.cell? ⟨db, co, none⟩ = some (.slice ta n tc) := by rw [cell_of_row w db co _ 54 _ hm]; exact hc1
  have HM : Hid (w.heap[db]? = some (.cells cs 54 (0, 0))) := hm
  have HC1 : Hid (cs[co]? = some (.slice ta n tc)) := hc1
  have HC2 : Hid (cs[co + 1]? = some (.slice oa n oc)) := hc2
  clear hm hc1 hc2
  go_enter Try.func21, Try.ntmps21
  go_wp2_with (first
    | (at_builtin; refine wpList_append_own_at _ rfl _ _ 22 rfl B 9 i9 (.string ByteArray.empty) 1 16 Try.underlying22 hi9 hz90 hz91 hz92 rfl (by decide) _ _ _ rfl (hT.alloc _) ⟨w.heap.size, 0, none⟩ 1 1 [.string s] rfl rfl (cell_one_new _ _ _) (by intro u hu; simp at hu; subst hu; rfl) (by unfold maxLen; omega) (by omega) (by simp; omega) ?_)
    | fail)
  intro v1 w1 hown1 hgr1 _ hat1
  obtain ⟨gT, cT, rfl, hm1, hcell1, hfz1, hm2, hT2, hfr2, hgT⟩ := app_step hB HM.out hT (by decide) hown1 hgr1 hat1 _ HC1.out
  have hO2 := hfr2.owns hO (not_row HM.out hO (by decide)) (rows_apart hO hT (by decide))
  have hcell2 : w1.cell? ⟨db, co + 1, none⟩ = some (.slice oa n oc) := by
    rw [cell_of_row _ db (co + 1) _ 54 _ hm1]; exact HC2.out
  have HC2' : Hid ((cs.setIfInBounds co (.slice (some ⟨gT, 0, none⟩) (n + 1) cT))[co + 1]? = some (.slice oa n oc)) := by
    show _ = _
    rw [Array.getElem?_setIfInBounds_ne (by omega)]; exact HC2.out
  have hsz2 : B ≤ w1.heap.size := by have := hfr2.size; simp at this; omega
  have hgT' : Hid _ := hgT
  have HM2 : Hid _ := hm2
  clear hown1 hgr1 hat1 hc hgT hm2 hm1
  go_wp2_with (first
    | (at_builtin; refine wpList_append_own_at _ rfl _ _ 35 rfl B 3 i3 (.int .i64 0) 1 8 Try.underlying35 hi3 hz30 hz31 hz32 rfl (by decide) _ _ _ rfl (hO2.alloc _) ⟨w1.heap.size, 0, none⟩ 1 1 [.int .i64 i] rfl rfl ?_ (by intro u hu; simp at hu; subst hu; rfl) (by unfold maxLen; omega) (by omega) (by simp; omega) ?_)
    | fail)
  · intro j u hj
    have h := cell_one_new (w1.setCell ⟨db, co, none⟩ (.slice (some ⟨gT, 0, none⟩) (n + 1) cT)) (.int .i64 i) 3 j u hj
    simpa using h
  intro v2 w3 hown3 hgr3 _ hat3
  obtain ⟨w2, hw2⟩ : ∃ w2, w2 = w1.setCell ⟨db, co, none⟩ (.slice (some ⟨gT, 0, none⟩) (n + 1) cT) := ⟨_, rfl⟩
  have hszw : w2.heap.size = w1.heap.size := by rw [hw2]; simp
  rw [← hw2] at hT2 hfr2 hO2 HM2 hgr3
  rw [← hszw] at hat3
  obtain ⟨gO, cO, rfl, hm3, hcell3, hfz3, hm4, hO4, hfr4, hgO⟩ := app_step hB HM2.out hO2 (by decide) hown3 hgr3 hat3 _ HC2'.out
  have hT4 := hfr4.owns hT2 (not_row HM2.out hT2 (by decide)) (rows_apart hT2 hO2 (by decide))
  have HE : Hid (Entered w (w3.setCell ⟨db, co + 1, none⟩ (.slice (some ⟨gO, 0, none⟩) (n + 1) cO)) B db co n cs (.slice ta n tc) (.slice oa n oc) xs ys s i) :=
    ⟨gT, cT, gO, cO, hm4, hT4, hO4, hgT'.out, by rcases hgO with h | h; exact .inl h; exact .inr (Nat.lt_of_le_of_lt hfr2.size h), Fr2.of hfr2 hfr4⟩
  clear hown3 hgr3 hat3 hm3 hm4 hO4 hfr4 hgO hT4 hT2 hfr2 hO2 HM2 hcell2 hcell1 hfz1 hszw hw2
  go_wp2
  go_end0
  exact ⟨rfl, HE⟩
end Go.Proofs.Qxb6605724a.Path
