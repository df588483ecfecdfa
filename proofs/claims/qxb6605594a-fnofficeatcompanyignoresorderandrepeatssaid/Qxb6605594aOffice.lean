import Derived.Test.Qxb6605594aRows
import Derived.WalkKit
import Derived.ProofKit
import Derived.OpenShut
import Derived.ShutString
import Derived.ChangeOld
import Derived.Below
import Derived.WalkSpells
import Derived.WalkLawsBesides
namespace Go.Proofs.Qxb6605594a.Office
open Go.ChangeShapes Go.WideShapes Go.ChangeAt Go.RowKit
set_option linter.unusedVariables false

theorem info31 : (Try.prog.info? 31).map (fun i => (i.zero, i.size, i.bytes)) = some (some (.int .u8 0), 1, 1) := by kernel_rfl

theorem zz10_yes (a : Option Addr) (len cap : Nat) (o : Int) (w : World) (h : len ≤ 1048576) :
    Calls Try.prog 10 #[.slice a len cap, .int .u8 o] w fun e w' => e = .returned (.bool true) ∧ w = w' := by
  have h1 : ¬ (1048576 : Int) < (len : Int) := by omega
  go_enter Try.func10, Try.ntmps10
  go_wp2
  go_ret
  exact ⟨rfl, rfl⟩

theorem zz10_no (a : Option Addr) (len cap : Nat) (o : Int) (w : World) (h : 1048576 < len) :
    Calls Try.prog 10 #[.slice a len cap, .int .u8 o] w fun e w' => e = .returned (.bool false) ∧ w = w' := by
  have h1 : (1048576 : Int) < (len : Int) := by omega
  go_enter Try.func10, Try.ntmps10
  go_wp2
  go_ret
  exact ⟨rfl, rfl⟩

theorem ret_bool {a b : Bool} (h : a = b) : Ending.returned (.bool a) = .returned (.bool b) := by rw [h]

/-- does the list hold the number? -/
def hasB (l : List Int) (o : Int) : Bool := l.any (fun x => x == o)

theorem hasB_take_succ (l : List Int) (k : Nat) (o : Int) (hk : k < l.length) : hasB (l.take (k + 1)) o = (hasB (l.take k) o || (l.getD k 0 == o)) := by
  unfold hasB
  rw [List.take_succ_eq_append_getElem hk, List.any_append]
  simp [List.getElem?_eq_getElem hk]

theorem hasB_of_take (l : List Int) (k : Nat) (o : Int) (h : hasB (l.take k) o = true) : hasB l o = true := by
  unfold hasB at *
  rw [List.any_eq_true] at *
  obtain ⟨x, hx, he⟩ := h
  exact ⟨x, List.mem_of_mem_take hx, he⟩

set_option maxHeartbeats 400000 in
theorem has_row (g n c : Nat) (l : List Int) (o : Int) (w : World) (hl : l.length = n) (hn : n ≤ 1048576) (hc : ∀ i, i < n → w.cell? ⟨g, i, none⟩ = some (.int .u8 (l.getD i 0))) :
    Calls Try.prog 16 #[.slice (some ⟨g, 0, none⟩) n c, .int .u8 o] w fun e w' => e = .returned (.bool (hasB l o)) ∧ w = w' := by
  have HL : Hid (l.length = n) := hl
  have HC : Hid (∀ i, i < n → w.cell? ⟨g, i, none⟩ = some (.int .u8 (l.getD i 0))) := hc
  clear hl hc
  go_enter Try.func16, Try.ntmps16
  go_wp2
  go_loop [6, 9] (fun _ i => ∃ k : Nat, k ≤ n ∧ i = .int .i64 k ∧ hasB (l.take k) o = false) (fun _ i => n - (intOf i).toNat)
  case atStart => exact ⟨0, Nat.zero_le _, rfl, rfl⟩
  case round =>
    obtain ⟨k, hk, rfl, hno⟩ := hrel
    have HN : Hid (hasB (l.take k) o = false) := hno
    clear hno
    by_cases hlt : k < n
    · have h1 := hasB_take_succ l k o (by rw [HL.out]; exact hlt)
      have hcell := HC.out k hlt
      generalize l.getD k 0 = z at hcell h1
      by_cases he : z = o
      · have hb : (z == o) = true := by simpa using he
        have HE : Hid (hasB l o = true) := hasB_of_take l (k + 1) o (by rw [h1, hb]; simp)
        clear he h1
        go_wp2
        go_ret
        exact ⟨ret_bool HE.out.symm, rfl⟩
      · have hb : (z == o) = false := by simpa using he
        have HE : Hid (hasB (l.take (k + 1)) o = false) := by rw [h1, hb, HN.out]; rfl
        clear he h1
        go_wp2
        go_round
        case rel => exact ⟨k + 1, by omega, by go_num, HE.out⟩
        case measure => simp [intOf]; omega
    · go_wp2
      go_ret
      have h := HN.out
      rw [List.take_of_length_le (by rw [HL.out]; omega)] at h
      exact ⟨ret_bool h.symm, rfl⟩

theorem has_nil (o : Int) (w : World) : Calls Try.prog 16 #[.slice none 0 0, .int .u8 o] w fun e w' => e = .returned (.bool false) ∧ w = w' := by
  go_enter Try.func16, Try.ntmps16
  go_wp2
  refine wp_loop_rounds 1 ?_
  rw [rounds_succ]
  go_wp2
  go_ret
  exact ⟨rfl, rfl⟩

/-- 'officesOf' at nil. -/
theorem offices_nil (w : World) : Calls Try.prog 11 #[.slice none 0 0] w fun e w' => e = .returned (.slice none 0 0) ∧ w = w' := by
  have hn := fun w : World => Lib.run_eql_slice_nil (P := Try.prog) w 27 5 none 0 0 0 0 Try.underlying27
  go_enter Try.func11, Try.ntmps11
  go_wp2
  go_ret
  exact ⟨rfl, rfl⟩

/-- the first k of l, then zeros -/
def upTo (l : List Int) (k n : Nat) : List Value := (l.take k).map (Value.int .u8) ++ List.replicate (n - k) (.int .u8 0)

theorem upTo_step (l : List Int) (k n : Nat) (hk : k < n) (hl : l.length = n) : (upTo l k n).set k (.int .u8 (l.getD k 0)) = upTo l (k + 1) n := by
  unfold upTo
  apply List.ext_getElem?
  intro j
  have hkl : k < l.length := by omega
  by_cases hj : j = k
  · subst hj
    have h1 : (List.take j l).length = j := by simp; omega
    rw [List.getElem?_set_self (by simp; omega), List.getElem?_append_left (by simp; omega)]
    simp [List.getElem?_eq_getElem hkl]
  · rw [List.getElem?_set_ne (by omega)]
    by_cases hj2 : j < k
    · rw [List.getElem?_append_left (by simp; omega), List.getElem?_append_left (by simp; omega)]
      simp [hj2, (by omega : j < k + 1)]
    · rw [List.getElem?_append_right (by simp; omega), List.getElem?_append_right (by simp; omega)]
      simp only [List.length_map, List.length_take, List.getElem?_replicate]
      by_cases hjn : j < n
      · rw [if_pos (by omega), if_pos (by omega)]
      · rw [if_neg (by omega), if_neg (by omega)]

theorem upTo_all (l : List Int) (n : Nat) (hl : l.length = n) : upTo l n n = l.map (Value.int .u8) := by
  unfold upTo; rw [List.take_of_length_le (by omega)]; simp

set_option maxHeartbeats 400000 in
/-- 'officesOf' at a slice that is not nil: a new row of just its numbers. -/
theorem offices_row (x : Addr) (len cap : Nat) (l : List Int) (w : World) (hl : l.length = len) (hn : len ≤ 65536) (hlt : ∀ i, i < len → x.spot = none ∧ x.block < w.heap.size)
    (hc : ∀ i, i < len → w.cell? ⟨x.block, x.off + i, none⟩ = some (.int .u8 (l.getD i 0))) :
    Calls Try.prog 11 #[.slice (some x) len cap] w fun e w' => e = .returned (.slice (some ⟨w.heap.size, 0, none⟩) len len) ∧
      w'.ownsRow w.heap.size 31 1 (.slice (some ⟨w.heap.size, 0, none⟩) len len) len (l.map (Value.int .u8)) ∧ Below w.heap.size w w' := by
  have hnil := fun w : World => Lib.run_eql_slice_nil (P := Try.prog) w 27 5 (some x) len cap 0 0 Try.underlying27
  obtain ⟨i0, hi, hz0, hz1, hz2⟩ := info_parts info31
  have HL : Hid (l.length = len) := hl
  have HC : Hid (∀ i, i < len → w.cell? ⟨x.block, x.off + i, none⟩ = some (.int .u8 (l.getD i 0))) := hc
  have HT : Hid (∀ i, i < len → x.spot = none ∧ x.block < w.heap.size) := hlt
  clear hl hc hlt
  go_enter Try.func11, Try.ntmps11
  go_wp2_with (first | (at_make; refine wpList_make_full _ rfl _ _ 29 rfl w.heap.size 31 i0 (.int .u8 0) 1 Try.underlying29 hi hz0 hz1 .i64 .i64 _ _ len rfl rfl rfl rfl (by rw [hz2]; omega) (by unfold maxLen; omega) (Nat.le_refl _) ?_) | fail)
  intro w1 hown hgr
  have hown' : w1.ownsRow w.heap.size 31 1 (.slice (some ⟨w.heap.size, 0, none⟩) len len) len (upTo l 0 len) := by
    have e : (madeCells #[Value.int .u8 0] len).toList = upTo l 0 len := by rw [toList_madeCells_one]; simp [upTo]
    rw [← e]; simpa using hown
  have hb1 : Below w.heap.size w w1 := (Below.refl _ _).grown hgr (Nat.le_refl _) (by intro k hk; cases hk)
  clear hown hgr hi hz0 hz1 hz2 hnil
  go_wp2
  go_loopw [4] (fun i wr => ∃ k : Nat, k ≤ len ∧ i = .int .i64 k ∧ wr.ownsRow w.heap.size 31 1 (.slice (some ⟨w.heap.size, 0, none⟩) len len) len (upTo l k len) ∧ Below w.heap.size w wr) (fun i _ => len - (intOf i).toNat)
  case atStart => exact ⟨0, Nat.zero_le _, rfl, hown', hb1⟩
  case round =>
    clear hown' hb1
    obtain ⟨k, hk, rfl, hown, hbel⟩ := hrel
    by_cases hlt : k < len
    · obtain ⟨hs, hxb⟩ := HT.out k hlt
      obtain ⟨b, off, sp⟩ := x
      simp only at hs hxb
      subst hs
      have hcell : wr.cell? ⟨b, off + k, none⟩ = some (.int .u8 (l.getD k 0)) := (hbel.cell (p := ⟨b, off + k, none⟩) hxb).trans (HC.out k hlt)
      have hst := upTo_step l k len hlt HL.out
      generalize l.getD k 0 = z at hcell hst
      obtain ⟨old, hold⟩ : ∃ old, wr.cell? ⟨w.heap.size, k, none⟩ = some old := by
        rw [hown.cellAt k (by omega)]
        exact ⟨_, List.getElem?_eq_getElem (by rw [hown.1]; omega)⟩
      have hfr := hown.frozenAt k
      obtain ⟨R1, R2⟩ := hown.stored k (.int .u8 z)
      rw [hst] at R1
      have R3 : Below w.heap.size w (wr.setCell ⟨w.heap.size, k, none⟩ (.int .u8 z)) := hbel.setCell (Nat.le_refl _) _
      have HR1 : Hid _ := R1
      have HR3 : Hid _ := R3
      clear hst R1 R2 R3 hown hbel
      go_wp2
      go_roundw
      case rel => exact ⟨k + 1, by omega, by go_num, HR1, HR3⟩
      case measure => simp [intOf]; omega
    · have e : k = len := by omega
      have h := hown
      rw [e, upTo_all l len HL.out] at h
      have HR1 : Hid _ := h
      have HR3 : Hid _ := hbel
      clear e h hown hbel
      go_wp2
      go_ret
      exact ⟨rfl, HR1, HR3⟩
end Go.Proofs.Qxb6605594a.Office
