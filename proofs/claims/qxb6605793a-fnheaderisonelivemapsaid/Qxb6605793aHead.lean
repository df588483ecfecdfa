import Derived.Test.Qxb6605793aRows
import Derived.WalkKit
import Derived.ProofKit
import Derived.OpenShut
import Derived.ShutString
import Derived.ChangeOld
import Derived.Below
import Derived.WalkSpells
import Derived.WalkLawsBesides
import Derived.WideMake
import Derived.MapKept
namespace Go.Proofs.Qxb6605793a.Head
open Go.ChangeShapes Go.WideShapes Go.ChangeAt Go.RowKit
set_option linter.unusedVariables false

/-- a call that answers a bool -/
def IsB (e : Ending) : Prop := ∃ b, e = .returned (.bool b)

set_option maxHeartbeats 400000 in
theorem zz16_any (s t : ByteArray) (w : World) (hs : s.size ≤ maxLen) (ht : t.size ≤ maxLen) :
    Calls Try.prog 16 #[.string s, .string t] w fun e w' => IsB e ∧ w = w' := by
  unfold maxLen at hs ht
  go_enter Try.func16, Try.ntmps16
  go_wp2
  all_goals (go_ret; exact ⟨⟨_, rfl⟩, rfl⟩)

theorem one_yes (g : Nat) (s : ByteArray) (w : World) (h : w.cell? ⟨g, 0, none⟩ = some (.string s)) :
    Calls Try.prog 18 #[.slice (some ⟨g, 0, none⟩) 1 1, .string s] w fun e w' => e = .returned (.bool true) ∧ w = w' := by
  go_enter Try.func18, Try.ntmps18
  go_wp2
  go_ret
  exact ⟨rfl, rfl⟩

/-! ### a map of one entry at most, block by block -/
/-- w' is w but for block r, which is o -/
structure Turned (w w' : World) (r : Nat) (o : Obj) : Prop where
  os : w'.os = w.os
  tape : w'.tape = w.tape
  output : w'.output = w.output
  size : w'.heap.size = w.heap.size
  here : w'.heap[r]? = some o
  other : ∀ k, k ≠ r → w'.heap[k]? = w.heap[k]?

theorem turned_mk {w : World} {r : Nat} {o o' : Obj} (hb : w.heap[r]? = some o) : Turned w { w with heap := w.heap.setIfInBounds r o' } r o' :=
  ⟨rfl, rfl, rfl, by simp, (MapKept.heap_set hb).1, (MapKept.heap_set hb).2⟩

theorem Turned.below {w w' : World} {r B : Nat} {o : Obj} (h : Turned w w' r o) (hB : B ≤ r) : Below B w w' :=
  ⟨h.os, h.tape, h.output, by rw [h.size]; exact Nat.le_refl _, fun k hk => h.other k (by omega)⟩

theorem Turned.cell {w w' : World} {r : Nat} {o : Obj} (h : Turned w w' r o) {b i : Nat} (hb : b ≠ r) : w'.cell? ⟨b, i, none⟩ = w.cell? ⟨b, i, none⟩ := World.cell?_of_block (w := w) (h.other b hb)

theorem key_ok (s : ByteArray) (e : Bool) (w : World) : (Instr.checkKey e 10000 9 (.string s)).run Try.prog w = .ok () w := MapKept.run_checkKey (k := .string s) Try.underlying9 (by simp [MapKept.IsKey]) e 9999

theorem map_store (w : World) (r c : Nat) (s : ByteArray) (val : Value) (hb : w.heap[r]? = some (.map #[] c)) :
    ∃ w', (Instr.mapUpdate 40 (.map (some r)) (.string s) val).run Try.prog w = .ok () w' ∧ Turned w w' r (.map #[{ key := .string s, val := val, born := c }] (c + 1)) :=
  ⟨_, run_mapUpdate_first w 40 9 22 r c s val Try.underlying40 Try.underlying9 hb, turned_mk hb⟩

theorem found (s : ByteArray) (val : Value) (b : Nat) : Instr.findNow .string (.string s) [{ key := .string s, val := val, born := b }] 0 = some (some (0, val)) := by
  obtain ⟨r, h1, h2⟩ := MapKept.sameNow_of_keys (d := .string) (a := .string s) (b := .string s) trivial trivial
  have hr : r = true := h2.2 rfl
  subst hr
  simp [Instr.findNow, h1]

theorem map_look (w : World) (r c b : Nat) (s : ByteArray) (val : Value) (hb : w.heap[r]? = some (.map #[{ key := .string s, val := val, born := b }] c)) :
    (Instr.lookup 40 (.map (some r)) (.string s) false).run Try.prog w = .ok val w := by
  simp [Instr.lookup, run_underlying Try.underlying40, MapKept.run_getObj_map hb, key_ok, MapKept.run_findKey Try.underlying9 (found s val b), Result.andThen]

theorem map_drop_run (w : World) (r c b : Nat) (s : ByteArray) (val : Value) (ty : TypeId) (hb : w.heap[r]? = some (.map #[{ key := .string s, val := val, born := b }] c)) :
    (Builtin.delete_ #[40, 9] ty #[.map (some r), .string s]).run Try.prog w = .ok (.tuple #[]) { w with heap := w.heap.setIfInBounds r (.map #[] c) } := by
  simp [Builtin.delete_, run_underlying Try.underlying40, MapKept.run_getObj_map hb, key_ok, MapKept.run_findKey Try.underlying9 (found s val b), MapKept.run_setObj_map _ hb, Result.andThen]

theorem map_len (w : World) (r c : Nat) (es : Array MapEntry) (ty : TypeId) (hb : w.heap[r]? = some (.map es c)) : (Builtin.len_ #[40] ty #[.map (some r)]).run Try.prog w = .ok (.int .i64 es.size) w := by
  simp [Builtin.len_, run_underlying Try.underlying40, MapKept.run_getObj_map hb, Result.andThen, goInt]

/-- the first 'Header': a new map -/
theorem head_new (ab : Nat) (w : World) (hc : w.cell? ⟨ab, 2, none⟩ = some (.map none)) (hf : w.frozen? ⟨ab, 2, none⟩ = false) :
    Calls Try.prog 17 #[.pointer (some ⟨ab, 0, none⟩)] w fun e w' => e = .returned (.map (some w.heap.size)) ∧ w'.heap[w.heap.size]? = some (.map #[] 0) ∧ w'.cell? ⟨ab, 2, none⟩ = some (.map (some w.heap.size)) ∧ w'.heap.size = w.heap.size + 1 ∧ Below ab w w' := by
  have hlt : ab < w.heap.size := World.block_lt_of_cell? w _ hc
  have hmm := @run_makeMap Try.prog
  have hq : ∀ (w : World) (r : Option Nat), (binOp .eql 40 (.map r) (.map none)).run Try.prog w = .ok (.bool r.isNone) w := fun w r => run_eql_map_nil w _ _ _ r Try.underlying40
  go_enter Try.func17, Try.ntmps17
  go_wp2
  go_ret
  refine ⟨rfl, ?_, ?_, by simp, (Below.setCell (Below.refl ab w) (p := ⟨ab, 2, none⟩) (Nat.le_refl _) (.map (some w.heap.size))).alloc (by simp; omega) _⟩
  · have h := heap_alloc_new (w.setCell ⟨ab, 2, none⟩ (.map (some w.heap.size))) (.map #[] 0)
    simpa using h
  · rw [World.cell?_alloc_past _ _ _ (by simp; omega)]
    exact World.cell?_setCell_same _ _ _ hc

/-- a later 'Header': the same map -/
theorem head_old (ab r : Nat) (w : World) (hc : w.cell? ⟨ab, 2, none⟩ = some (.map (some r))) :
    Calls Try.prog 17 #[.pointer (some ⟨ab, 0, none⟩)] w fun e w' => e = .returned (.map (some r)) ∧ w = w' := by
  have hq : ∀ (w : World) (r : Option Nat), (binOp .eql 40 (.map r) (.map none)).run Try.prog w = .ok (.bool r.isNone) w := fun w r => run_eql_map_nil w _ _ _ r Try.underlying40
  go_enter Try.func17, Try.ntmps17
  go_wp2
  go_ret
  exact ⟨rfl, rfl⟩

set_option maxHeartbeats 400000 in
set_option maxRecDepth 100000 in
theorem live (s t : ByteArray) (w : World) (hs : s.size ≤ maxLen) (ht : t.size ≤ maxLen) :
    Calls Try.prog 5 #[.string s, .string t] w fun e w' => e = .returned (.bool true) ∧ Below w.heap.size w w' := by
  have C16 : Hid (Calls Try.prog 16 #[.string s, .string t] w fun e w' => IsB e ∧ w = w') := zz16_any s t w hs ht
  unfold maxLen at hs ht
  go_enter Try.func5, Try.ntmps5
  go_wp2_with fail
  refine C16.out.mono ?_
  rintro e w' ⟨⟨b, rfl⟩, rfl⟩
  cases b
  · go_wp2
    go_ret
    exact ⟨rfl, Below.refl _ _⟩
  go_wp2_with fail
  all_goals first
    | (go_ret; exact ⟨rfl, Below.refl _ _⟩)
    | skip
  have hc0 : (w.alloc (.cells #[.int .i32 0, .int .u32 0, .map none, .int .i64 0, .map none, .slice none 0 0, .int .i64 0, .int .i8 0, .nilIface, .bool false, .nilIface] 51)).cell? ⟨w.heap.size, 2, none⟩ = some (.map none) := by
    rw [World.cell?_alloc_new]; rfl
  have hB0 : Below w.heap.size w (w.alloc (.cells #[.int .i32 0, .int .u32 0, .map none, .int .i64 0, .map none, .slice none 0 0, .int .i64 0, .int .i8 0, .nilIface, .bool false, .nilIface] 51)) := (Below.refl _ _).alloc (Nat.le_refl _) _
  refine (head_new w.heap.size _ hc0 (World.frozen?_alloc_new w _ _ _)).mono ?_
  rintro e w1 ⟨rfl, hm1, hc1, hz1, hb1⟩
  have hsz : (w.alloc (.cells #[.int .i32 0, .int .u32 0, .map none, .int .i64 0, .map none, .slice none 0 0, .int .i64 0, .int .i8 0, .nilIface, .bool false, .nilIface] 51)).heap.size = w.heap.size + 1 := by simp
  have HB1 : Hid (Below w.heap.size w w1) := hB0.trans hb1
  rw [hsz] at hm1 hc1 hz1
  clear hc0 hB0 hb1
  have hq : ∀ (w : World) (r : Option Nat), (binOp .eql 40 (.map r) (.map none)).run Try.prog w = .ok (.bool r.isNone) w := fun w r => run_eql_map_nil w _ _ _ r Try.underlying40
  have hl1 := fun ty => map_len w1 (w.heap.size + 1) 0 #[] ty hm1
  -- the store
  have hmg : (w1.alloc (.cells #[.string t] 9)).heap[w.heap.size + 1]? = some (.map #[] 0) := by rw [Below.heap_alloc _ _ _ (by omega)]; exact hm1
  obtain ⟨w2, hup, htu⟩ := map_store (w1.alloc (.cells #[.string t] 9)) (w.heap.size + 1) 0 s (.slice (some ⟨w1.heap.size, 0, none⟩) 1 1) hmg
  have hc2 : w2.cell? ⟨w.heap.size, 2, none⟩ = some (.map (some (w.heap.size + 1))) := by
    rw [htu.cell (by omega), World.cell?_alloc_past _ _ _ (by omega)]; exact hc1
  have hg2 : w2.cell? ⟨w1.heap.size, 0, none⟩ = some (.string t) := by
    rw [htu.cell (by omega), World.cell?_alloc_new]; rfl
  have HB2 : Hid (Below w.heap.size w w2) := (HB1.out.alloc HB1.out.size _).trans (htu.below (by omega))
  have hm2 := htu.here
  have hl2 := fun ty => map_len w2 (w.heap.size + 1) _ _ ty hm2
  have hlook := map_look w2 (w.heap.size + 1) _ _ s _ hm2
  obtain ⟨w3, hdrop, htu3⟩ : ∃ w3, (∀ ty, (Builtin.delete_ #[40, 9] ty #[.map (some (w.heap.size + 1)), .string s]).run Try.prog w2 = .ok (.tuple #[]) w3) ∧ Turned w2 w3 (w.heap.size + 1) (.map #[] 1) :=
    ⟨_, fun ty => (map_drop_run w2 (w.heap.size + 1) _ _ s _ ty hm2), turned_mk hm2⟩
  have hl3 := fun ty => map_len w3 (w.heap.size + 1) _ _ ty htu3.here
  have HB3 : Hid (Below w.heap.size w w3) := HB2.out.trans (htu3.below (by omega))
  clear htu htu3 hm1 hc1 hm2 hmg HB1 HB2 hz1 hsz
  go_wp2_with fail
  refine (head_old w.heap.size (w.heap.size + 1) w2 hc2).mono ?_
  rintro e w' ⟨rfl, rfl⟩
  go_wp2_with fail
  refine (one_yes w1.heap.size t w2 hg2).mono ?_
  rintro e w' ⟨rfl, rfl⟩
  go_wp2
  go_ret
  exact ⟨rfl, HB3⟩
end Go.Proofs.Qxb6605793a.Head
