import Derived.Test.Qxb6605724aCur
namespace Go.Proofs.Qxb6605724a.Path
open Go.ChangeShapes Go.WideShapes Go.ChangeAt Go.RowKit
set_option linter.unusedVariables false

def strs (N : Nat → ByteArray) (n : Nat) : List Value := (List.range n).map fun i => .string (N i)
def ints (I : Nat → Int) (n : Nat) : List Value := (List.range n).map fun i => .int .i64 (I i)
theorem strs_snoc (N : Nat → ByteArray) (n : Nat) : strs N n ++ [.string (N n)] = strs N (n + 1) := by simp [strs, List.range_succ]
theorem ints_snoc (I : Nat → Int) (n : Nat) : ints I n ++ [.int .i64 (I n)] = ints I (n + 1) := by simp [ints, List.range_succ]

/-- two slices of the call's own lie in two rows -/
def Apart (v v' : Value) : Prop := ∀ g, v.ownBlock = some g → v'.ownBlock ≠ some g
theorem Apart.turn {v v' : Value} (h : Apart v v') : Apart v' v := fun g h1 h2 => h g h2 h1

/-- the block of a differ -/
def dcells (T1 O1 T2 O2 : Value) : Array Value := #[.pointer none, T1, O1, T2, O2, .slice none 0 0, .nilIface]

/-- the differ at block db: n1 steps entered at its first cursor, n2 at its second -/
structure Diff (w : World) (B db n1 n2 : Nat) (N : Nat → ByteArray) (I J : Nat → Int) (T1 O1 T2 O2 : Value) : Prop where
  blk : w.heap[db]? = some (.cells (dcells T1 O1 T2 O2) 54 (0, 0))
  t1 : w.ownsRow B 9 1 T1 n1 (strs N n1)
  o1 : w.ownsRow B 3 1 O1 n1 (ints I n1)
  t2 : w.ownsRow B 9 1 T2 n2 (strs N n2)
  o2 : w.ownsRow B 3 1 O2 n2 (ints J n2)
  at12 : Apart T1 T2
  ao12 : Apart O1 O2

/-- a block that is no differ and no row is as it was -/
def Keeps (w w' : World) : Prop := ∀ (b : Nat) (t : TypeId) (bs : Array Value), w.heap[b]? = some (Obj.cells bs t (0, 0)) → t ≠ 54 → t ≠ 9 → t ≠ 3 → w'.heap[b]? = some (Obj.cells bs t (0, 0))

/-- what an entered cursor does to the other cursor's rows -/
theorem half {w w' : World} {B db co n k m : Nat} {cs : Array Value} {T O U P : Value} {xs ys us ps : List Value} {s : ByteArray} {i : Int} (hE : Entered w w' B db co n cs T O xs ys s i) (hm : w.heap[db]? = some (.cells cs 54 (0, 0)))
    (hT : w.ownsRow B 9 1 T n xs) (hO : w.ownsRow B 3 1 O n ys) (hU : w.ownsRow B 9 1 U k us) (hP : w.ownsRow B 3 1 P m ps) (hTU : Apart T U) (hOP : Apart O P) (hB : B ≤ db) :
    ∃ gT cT gO cO, w'.heap[db]? = some (.cells ((cs.setIfInBounds co (.slice (some ⟨gT, 0, none⟩) (n + 1) cT)).setIfInBounds (co + 1) (.slice (some ⟨gO, 0, none⟩) (n + 1) cO)) 54 (0, 0)) ∧
      w'.ownsRow B 9 1 (.slice (some ⟨gT, 0, none⟩) (n + 1) cT) (n + 1) (xs ++ [.string s]) ∧ w'.ownsRow B 3 1 (.slice (some ⟨gO, 0, none⟩) (n + 1) cO) (n + 1) (ys ++ [.int .i64 i]) ∧
      w'.ownsRow B 9 1 U k us ∧ w'.ownsRow B 3 1 P m ps ∧ Apart (.slice (some ⟨gT, 0, none⟩) (n + 1) cT) U ∧ Apart (.slice (some ⟨gO, 0, none⟩) (n + 1) cO) P ∧ Below B w w' ∧
      Keeps w w' := by
  obtain ⟨gT, cT, gO, cO, h1, h2, h3, h4, h5, h6⟩ := hE
  refine ⟨gT, cT, gO, cO, h1, h2, h3, ?_, ?_, ?_, ?_, ?_, ?_⟩
  · exact h6.owns hU (not_row hm hU (by decide)) (fun g hg e => hTU g e.symm hg) (rows_apart hU hO (by decide))
  · exact h6.owns hP (not_row hm hP (by decide)) (rows_apart hP hT (by decide)) (fun g hg e => hOP g e.symm hg)
  · intro g hg hu
    simp only [Value.ownBlock, Option.some.injEq] at hg
    subst hg
    rcases h4 with h | h
    · exact hTU _ h hu
    · have := (hU.lt _ hu).2; omega
  · intro g hg hu
    simp only [Value.ownBlock, Option.some.injEq] at hg
    subst hg
    rcases h5 with h | h
    · exact hOP _ h hu
    · have := (hP.lt _ hu).2; omega
  · exact h6.below hB (by have := lt_of_block hm; omega) (fun g hg => (hT.lt g hg).1) (fun g hg => (hO.lt g hg).1)
  · intro b t bs hb e1 e2 e3
    rw [h6.block b (lt_of_block hb) (fun e => by rw [e, hm] at hb; simp only [Option.some.injEq, Obj.cells.injEq] at hb; exact e1 hb.2.1.symm) (fun e => not_row hb hT (Ne.symm e2) e.symm) (fun e => not_row hb hO (Ne.symm e3) e.symm)]
    exact hb

/-- slices whose address is whatever -/
def IsS (v : Value) (n : Nat) : Prop := ∃ a c, v = .slice a n c
theorem isS_of {w : World} {B e sz n : Nat} {v : Value} {xs : List Value} (h : w.ownsRow B e sz v n xs) : IsS v n := by
  rcases h.2 with ⟨rfl, rfl⟩ | ⟨g, cap, cur, rfl, _⟩
  · exact ⟨_, _, rfl⟩
  · exact ⟨_, _, rfl⟩

/-- what 'enter' at the first cursor leaves -/
def Half1 (w w' : World) (B db n : Nat) (N : Nat → ByteArray) (I J : Nat → Int) (T2 O2 : Value) : Prop :=
  (∃ T1 O1, Diff w' B db (n + 1) n N I J T1 O1 T2 O2) ∧ Below B w w' ∧ Keeps w w'
def Half2 (w w' : World) (B db n : Nat) (N : Nat → ByteArray) (I J : Nat → Int) : Prop :=
  (∃ T1 O1 T2 O2, Diff w' B db (n + 1) (n + 1) N I J T1 O1 T2 O2) ∧ Below B w w' ∧ Keeps w w'

theorem cur_first (B db n : Nat) (N : Nat → ByteArray) (I J : Nat → Int) (T1 O1 T2 O2 : Value) (w : World) (hB : B ≤ db) (hD : Diff w B db n n N I J T1 O1 T2 O2) (hn : n ≤ 1048576) :
    Calls Try.prog 21 #[.pointer (some ⟨db, 1, none⟩), .string (N n), .int .i64 (I n)] w fun e w' => e = .returned (.tuple #[]) ∧ Half1 w w' B db n N I J T2 O2 := by
  obtain ⟨ta, tc, hT⟩ := isS_of hD.t1
  obtain ⟨oa, oc, hO⟩ := isS_of hD.o1
  subst hT hO
  refine (cur_enter B db 1 n _ ta oa tc oc _ _ (N n) (I n) w hB hD.blk rfl rfl hD.t1 hD.o1 hn).mono ?_
  rintro e w' ⟨rfl, hE⟩
  obtain ⟨gT, cT, gO, cO, h1, h2, h3, h4, h5, h6, h7, h8, h9⟩ := half hE hD.blk hD.t1 hD.o1 hD.t2 hD.o2 hD.at12 hD.ao12 hB
  rw [strs_snoc] at h2
  rw [ints_snoc] at h3
  exact ⟨rfl, ⟨_, _, ⟨h1, h2, h3, h4, h5, h6, h7⟩⟩, h8, h9⟩

theorem cur_second (B db n : Nat) (N : Nat → ByteArray) (I J : Nat → Int) (T1 O1 T2 O2 : Value) (w : World) (hB : B ≤ db) (hD : Diff w B db (n + 1) n N I J T1 O1 T2 O2) (hn : n ≤ 1048576) :
    Calls Try.prog 21 #[.pointer (some ⟨db, 3, none⟩), .string (N n), .int .i64 (J n)] w fun e w' => e = .returned (.tuple #[]) ∧ Half2 w w' B db n N I J := by
  obtain ⟨ta, tc, hT⟩ := isS_of hD.t2
  obtain ⟨oa, oc, hO⟩ := isS_of hD.o2
  subst hT hO
  refine (cur_enter B db 3 n _ ta oa tc oc _ _ (N n) (J n) w hB hD.blk rfl rfl hD.t2 hD.o2 hn).mono ?_
  rintro e w' ⟨rfl, hE⟩
  obtain ⟨gT, cT, gO, cO, h1, h2, h3, h4, h5, h6, h7, h8, h9⟩ := half hE hD.blk hD.t2 hD.o2 hD.t1 hD.o1 hD.at12.turn hD.ao12.turn hB
  rw [strs_snoc] at h2
  rw [ints_snoc] at h3
  exact ⟨rfl, ⟨_, _, _, _, ⟨h1, h4, h5, h2, h3, h6.turn, h7.turn⟩⟩, h8, h9⟩

theorem Diff.alloc {w : World} {B db n1 n2 : Nat} {N : Nat → ByteArray} {I J : Nat → Int} {T1 O1 T2 O2 : Value} (h : Diff w B db n1 n2 N I J T1 O1 T2 O2) (o : Obj) : Diff (w.alloc o) B db n1 n2 N I J T1 O1 T2 O2 :=
  ⟨by rw [Below.heap_alloc _ _ _ (lt_of_block h.blk)]; exact h.blk, h.t1.alloc _, h.o1.alloc _, h.t2.alloc _, h.o2.alloc _, h.at12, h.ao12⟩
theorem Diff.drew {w : World} {B db n1 n2 : Nat} {N : Nat → ByteArray} {I J : Nat → Int} {T1 O1 T2 O2 : Value} (h : Diff w B db n1 n2 N I J T1 O1 T2 O2) : Diff w.drew B db n1 n2 N I J T1 O1 T2 O2 :=
  ⟨h.blk, h.t1, h.o1, h.t2, h.o2, h.at12, h.ao12⟩

/-- the differ with n steps entered -/
def DiffE (w : World) (B db n : Nat) (N : Nat → ByteArray) (I J : Nat → Int) : Prop := ∃ T1 O1 T2 O2, Diff w B db n n N I J T1 O1 T2 O2

theorem box_cells {w : World} {b : Nat} {c0 c1 c2 c3 c4 : Value} (h : w.heap[b]? = some (Obj.cells #[c0, c1, c2, c3, c4] 57 (0, 0))) : w.cell? ⟨b, 0, none⟩ = some c0 ∧ w.cell? ⟨b, 3, none⟩ = some c3 ∧ w.cell? ⟨b, 4, none⟩ = some c4 :=
  ⟨by rw [cell_of_row w b 0 _ 57 _ h]; rfl, by rw [cell_of_row w b 3 _ 57 _ h]; rfl, by rw [cell_of_row w b 4 _ 57 _ h]; rfl⟩

set_option maxHeartbeats 1000000 in
theorem diff_enter (B db n : Nat) (N : Nat → ByteArray) (I J : Nat → Int) (w : World) (hB : B ≤ db) (hD : DiffE w B db n N I J) (hn : n ≤ 1048576) :
    Calls Try.prog 19 #[.pointer (some ⟨db, 0, none⟩), .agg #[.string (N n), .nilIface, .nilIface, .int .i64 (I n), .int .i64 (J n)]] w fun e w' => e = .returned (.tuple #[]) ∧ DiffE w' B db (n + 1) N I J ∧ Below B w w' := by
  obtain ⟨T1, O1, T2, O2, hD⟩ := hD
  have hlt := lt_of_block hD.blk
  have C1 : Hid (Calls Try.prog 21 #[.pointer (some ⟨db, 1, none⟩), .string (N n), .int .i64 (I n)] (w.alloc (.cells #[.string (N n), .nilIface, .nilIface, .int .i64 (I n), .int .i64 (J n)] 57)).drew fun e w' => e = .returned (.tuple #[]) ∧ Half1 _ w' B db n N I J T2 O2) :=
    cur_first B db n N I J T1 O1 T2 O2 _ hB (hD.alloc _).drew hn
  have HX : Hid ((w.alloc (.cells #[.string (N n), .nilIface, .nilIface, .int .i64 (I n), .int .i64 (J n)] 57)).drew.heap[w.heap.size]? = some (.cells #[.string (N n), .nilIface, .nilIface, .int .i64 (I n), .int .i64 (J n)] 57 (0, 0))) := heap_alloc_new w _
  have HB0 : Hid (Below B w (w.alloc (.cells #[.string (N n), .nilIface, .nilIface, .int .i64 (I n), .int .i64 (J n)] 57)).drew) := ((Below.refl _ _).alloc (by omega) _).drew
  have C2 : Hid (∀ w1, Half1 (w.alloc (.cells #[.string (N n), .nilIface, .nilIface, .int .i64 (I n), .int .i64 (J n)] 57)).drew w1 B db n N I J T2 O2 → Calls Try.prog 21 #[.pointer (some ⟨db, 3, none⟩), .string (N n), .int .i64 (J n)] w1.drew fun e w' => e = .returned (.tuple #[]) ∧ Half2 w1.drew w' B db n N I J) := by
    rintro w1 ⟨⟨T1', O1', hD1⟩, _⟩
    exact cur_second B db n N I J T1' O1' T2 O2 _ hB hD1.drew hn
  clear hD
  generalize N n = nn at C1 C2 HX HB0
  generalize I n = ii at C1 C2 HX HB0
  generalize J n = jj at C1 C2 HX HB0
  go_enter Try.func19, Try.ntmps19
  go_wp2
  go_region_held3 (fun w' => w'.cell? ⟨w.heap.size, 0, none⟩ = some (.string nn) ∧ w'.cell? ⟨w.heap.size, 3, none⟩ = some (.int .i64 ii)) (first | go_keep | (refine ⟨?_, ?_⟩ <;> assumption)) ((go_at_call 21; refine C1.out.mono ?_; rintro e w1 ⟨rfl, hH⟩; obtain ⟨hx0, hx3, hx4⟩ := box_cells (hH.2.2 _ _ _ HX.out (by decide) (by decide) (by decide))))
  have HC : Hid (Calls Try.prog 21 #[.pointer (some ⟨db, 3, none⟩), .string nn, .int .i64 jj] w1.drew fun e w' => e = .returned (.tuple #[]) ∧ Half2 w1.drew w' B db n N I J) := C2.out w1 hH
  have HB1 : Hid (Below B w w1) := HB0.out.trans hH.2.1
  have HX1 : Hid (w1.drew.heap[w.heap.size]? = some (Obj.cells #[.string nn, .nilIface, .nilIface, .int .i64 ii, .int .i64 jj] 57 (0, 0))) := hH.2.2 _ _ _ HX.out (by decide) (by decide) (by decide)
  clear hH C1 C2 HB0
  go_wp2
  go_region_held3 (fun w' => w'.cell? ⟨w.heap.size, 0, none⟩ = some (.string nn) ∧ w'.cell? ⟨w.heap.size, 4, none⟩ = some (.int .i64 jj)) (first | go_keep | (refine ⟨?_, ?_⟩ <;> assumption)) ((go_at_call 21; refine HC.out.mono ?_; rintro e w2 ⟨rfl, hH2⟩; obtain ⟨hy0, hy3, hy4⟩ := box_cells (hH2.2.2 _ _ _ HX1.out (by decide) (by decide) (by decide))))
  have HR : Hid (DiffE w2 B db (n + 1) N I J ∧ Below B w w2) := ⟨hH2.1, (HB1.out.drew).trans hH2.2.1⟩
  clear hH2 HB1 HX HX1
  go_wp2
  go_end0
  exact ⟨rfl, HR⟩

set_option maxHeartbeats 1000000 in
theorem zz_enter (B db n : Nat) (N : Nat → ByteArray) (I J : Nat → Int) (w : World) (hB : B ≤ db) (hD : DiffE w B db n N I J) (hn : n ≤ 1048576) :
    Calls Try.prog 13 #[.pointer (some ⟨db, 0, none⟩), .string (N n), .int .i64 (I n), .int .i64 (J n)] w fun e w' => e = .returned (.tuple #[]) ∧ DiffE w' B db (n + 1) N I J ∧ Below B w w' := by
  have C : Hid (Calls Try.prog 19 #[.pointer (some ⟨db, 0, none⟩), .agg #[.string (N n), .nilIface, .nilIface, .int .i64 (I n), .int .i64 (J n)]] w fun e w' => e = .returned (.tuple #[]) ∧ DiffE w' B db (n + 1) N I J ∧ Below B w w') :=
    diff_enter B db n N I J w hB hD hn
  clear hD
  generalize N n = nn at C
  generalize I n = ii at C
  generalize J n = jj at C
  go_enter Try.func13, Try.ntmps13
  go_wp2_with fail
  refine C.out.mono ?_
  rintro e w' ⟨rfl, hR⟩
  have HR : Hid (DiffE w' B db (n + 1) N I J ∧ Below B w w') := hR
  clear hR C
  go_wp2
  go_end0
  exact ⟨rfl, HR⟩

/-- a fresh differ -/
theorem zz_new (w : World) : Calls Try.prog 12 #[.slice none 0 0, .slice none 0 0, .slice none 0 0, .slice none 0 0] w fun e w' => e = .returned (.pointer (some ⟨w.heap.size, 0, none⟩)) ∧ (∀ N I J, DiffE w' w.heap.size w.heap.size 0 N I J) ∧ Below w.heap.size w w' ∧ w'.heap.size = w.heap.size + 1 := by
  go_enter Try.func12, Try.ntmps12
  go_wp2
  go_ret
  refine ⟨rfl, fun N I J => ⟨.slice none 0 0, .slice none 0 0, .slice none 0 0, .slice none 0 0, heap_alloc_new w _, World.ownsRow_nil _ _ _ _, World.ownsRow_nil _ _ _ _, World.ownsRow_nil _ _ _ _, World.ownsRow_nil _ _ _ _, fun g h => by simp [Value.ownBlock] at h, fun g h => by simp [Value.ownBlock] at h⟩, (Below.refl _ _).alloc (Nat.le_refl _) _, by simp⟩

/-- the four slices handed out -/
def IsP (w : World) (n : Nat) (N : Nat → ByteArray) (I J : Nat → Int) (e : Ending) : Prop :=
  ∃ t1 c1 o1 d1 t2 c2 o2 d2, e = .returned (.tuple #[.slice t1 n c1, .slice o1 n d1, .slice t2 n c2, .slice o2 n d2]) ∧
    ∀ i, i < n → ∃ g1 g2 g3 g4, t1 = some ⟨g1, 0, none⟩ ∧ o1 = some ⟨g2, 0, none⟩ ∧ t2 = some ⟨g3, 0, none⟩ ∧ o2 = some ⟨g4, 0, none⟩ ∧
      w.cell? ⟨g1, i, none⟩ = some (.string (N i)) ∧ w.cell? ⟨g2, i, none⟩ = some (.int .i64 (I i)) ∧ w.cell? ⟨g3, i, none⟩ = some (.string (N i)) ∧ w.cell? ⟨g4, i, none⟩ = some (.int .i64 (J i))

theorem cell_strs {w : World} {B n c : Nat} {a : Option Addr} {N : Nat → ByteArray} (h : w.ownsRow B 9 1 (.slice a n c) n (strs N n)) (i : Nat) (hi : i < n) : ∃ g, a = some ⟨g, 0, none⟩ ∧ w.cell? ⟨g, i, none⟩ = some (.string (N i)) := by
  rcases h.2 with ⟨_, h0⟩ | ⟨g, cap, cur, hv, _⟩
  · omega
  · simp only [Value.slice.injEq] at hv
    obtain ⟨rfl, _, rfl⟩ := hv
    refine ⟨g, rfl, ?_⟩
    rw [h.cellAt i (by omega)]
    simp [strs, hi]
theorem cell_ints {w : World} {B n c : Nat} {a : Option Addr} {I : Nat → Int} (h : w.ownsRow B 3 1 (.slice a n c) n (ints I n)) (i : Nat) (hi : i < n) : ∃ g, a = some ⟨g, 0, none⟩ ∧ w.cell? ⟨g, i, none⟩ = some (.int .i64 (I i)) := by
  rcases h.2 with ⟨_, h0⟩ | ⟨g, cap, cur, hv, _⟩
  · omega
  · simp only [Value.slice.injEq] at hv
    obtain ⟨rfl, _, rfl⟩ := hv
    refine ⟨g, rfl, ?_⟩
    rw [h.cellAt i (by omega)]
    simp [ints, hi]

set_option maxHeartbeats 1000000 in
theorem zz_path (B db n : Nat) (N : Nat → ByteArray) (I J : Nat → Int) (w : World) (hD : DiffE w B db n N I J) :
    Calls Try.prog 14 #[.pointer (some ⟨db, 0, none⟩)] w fun e w' => IsP w n N I J e ∧ ∃ k, w' = w.drewN k := by
  obtain ⟨T1, O1, T2, O2, hD⟩ := hD
  obtain ⟨t1, c1, rfl⟩ := isS_of hD.t1
  obtain ⟨o1, d1, rfl⟩ := isS_of hD.o1
  obtain ⟨t2, c2, rfl⟩ := isS_of hD.t2
  obtain ⟨o2, d2, rfl⟩ := isS_of hD.o2
  have h1 : w.cell? ⟨db, 1, none⟩ = some (.slice t1 n c1) := by rw [cell_of_row w db 1 _ 54 _ hD.blk]; rfl
  have h2 : w.cell? ⟨db, 2, none⟩ = some (.slice o1 n d1) := by rw [cell_of_row w db 2 _ 54 _ hD.blk]; rfl
  have h3 : w.cell? ⟨db, 3, none⟩ = some (.slice t2 n c2) := by rw [cell_of_row w db 3 _ 54 _ hD.blk]; rfl
  have h4 : w.cell? ⟨db, 4, none⟩ = some (.slice o2 n d2) := by rw [cell_of_row w db 4 _ 54 _ hD.blk]; rfl
  have HP : Hid (IsP w n N I J (.returned (.tuple #[.slice t1 n c1, .slice o1 n d1, .slice t2 n c2, .slice o2 n d2]))) := by
    refine ⟨t1, c1, o1, d1, t2, c2, o2, d2, rfl, fun i hi => ?_⟩
    obtain ⟨g1, e1, f1⟩ := cell_strs hD.t1 i hi
    obtain ⟨g2, e2, f2⟩ := cell_ints hD.o1 i hi
    obtain ⟨g3, e3, f3⟩ := cell_strs hD.t2 i hi
    obtain ⟨g4, e4, f4⟩ := cell_ints hD.o2 i hi
    exact ⟨g1, g2, g3, g4, e1, e2, e3, e4, f1, f2, f3, f4⟩
  clear hD
  go_enter Try.func14, Try.ntmps14
  go_wp2
  go_quiet (fail)
  go_wp2
  exact bodyPost_ret (v := .tuple #[.slice t1 n c1, .slice o1 n d1, .slice t2 n c2, .slice o2 n d2]) (by simp [results, Try.results14, go_sem]) rfl ⟨HP, _, rfl⟩
end Go.Proofs.Qxb6605724a.Path
