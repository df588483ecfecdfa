import Derived.Test.Qxb6605670aBase
namespace Go.Proofs.Qxb6605670a.Msg
open Go.ChangeShapes Go.WideShapes Go.ChangeAt Go.RowKit
set_option linter.unusedVariables false

/-- cell j of a row of pairs -/
def pc (N V : Nat → ByteArray) (j : Nat) : Value := if j % 2 = 0 then .string (N (j / 2)) else .string (V (j / 2))
/-- the first k pairs, then empty ones, n in all -/
def part (N V : Nat → ByteArray) (k n : Nat) : List Value := (List.range (2 * n)).map fun j => if j < 2 * k then pc N V j else .string ByteArray.empty
/-- n pairs -/
def flat (N V : Nat → ByteArray) (n : Nat) : List Value := (List.range (2 * n)).map (pc N V)

theorem part_len (N V : Nat → ByteArray) (k n : Nat) : (part N V k n).length = n * 2 := by simp [part]; omega
theorem flat_len (N V : Nat → ByteArray) (n : Nat) : (flat N V n).length = n * 2 := by simp [flat]; omega

theorem part_all (N V : Nat → ByteArray) (n : Nat) : part N V n n = flat N V n := by
  apply List.ext_getElem?
  intro j
  by_cases hj : j < 2 * n
  · simp [part, flat, hj]
  · simp [part, flat, hj]

theorem made_two (n : Nat) : (madeCells #[Value.string ByteArray.empty, Value.string ByteArray.empty] (n * 2)).toList = List.replicate (n * 2) (.string ByteArray.empty) := by
  apply List.ext_getElem?
  intro j
  by_cases hj : j < n * 2
  · rcases Nat.mod_two_eq_zero_or_one j with h | h <;> simp [madeCells, hj, h]
  · simp [madeCells, hj]

theorem part_start (N V : Nat → ByteArray) (n : Nat) : part N V 0 n = List.replicate (n * 2) (.string ByteArray.empty) := by
  apply List.ext_getElem?
  intro j
  by_cases hj : j < n * 2
  · simp [part, hj, (by omega : j < 2 * n)]
  · simp [part, hj]; omega

theorem part_step (N V : Nat → ByteArray) (k n : Nat) (hk : k < n) : ((part N V k n).set (k * 2) (.string (N k))).set (k * 2 + 1) (.string (V k)) = part N V (k + 1) n := by
  apply List.ext_getElem?
  intro j
  by_cases hj : j < 2 * n
  · by_cases h1 : j = k * 2 + 1
    · subst h1
      rw [List.getElem?_set_self (by simp [part]; omega)]
      have e : (k * 2 + 1) / 2 = k := by omega
      simp [part, hj, pc, e, (by omega : k * 2 + 1 < 2 * (k + 1))]
    · rw [List.getElem?_set_ne (by omega)]
      by_cases h2 : j = k * 2
      · subst h2
        rw [List.getElem?_set_self (by simp [part]; omega)]
        have e : (k * 2) / 2 = k := by omega
        simp [part, hj, pc, (by omega : k * 2 < 2 * (k + 1))]
      · rw [List.getElem?_set_ne (by omega)]
        by_cases h3 : j < 2 * k
        · simp [part, hj, h3, (by omega : j < 2 * (k + 1))]
        · have h4 : ¬ j < 2 * (k + 1) := by omega
          simp only [part, List.getElem?_map, List.getElem?_range hj, Option.map_some, if_neg h3, if_neg h4]
  · rw [List.getElem?_eq_none (by simp [part]; omega), List.getElem?_eq_none (by simp [part]; omega)]

set_option maxHeartbeats 400000 in
theorem fields_nil (w : World) : Calls Try.prog 20 #[.slice none 0 0] w fun e w' => e = .returned (.slice none 0 0) ∧ w = w' := by
  have hn := fun w : World => Lib.run_eql_slice_nil (P := Try.prog) w 31 42 none 0 0 0 0 Try.underlying31
  go_enter Try.func20, Try.ntmps20
  go_wp2
  go_ret
  exact ⟨rfl, rfl⟩

set_option maxHeartbeats 1000000 in
theorem fields_row (x : Addr) (len cap : Nat) (N V : Nat → ByteArray) (w : World) (hl : len ≤ 1048576) (hp : Pairs w (some x) len N V) :
    Calls Try.prog 20 #[.slice (some x) len cap] w fun e w' => e = .returned (.slice (some ⟨w.heap.size, 0, none⟩) len len) ∧
      w'.ownsRow w.heap.size 44 2 (.slice (some ⟨w.heap.size, 0, none⟩) len len) len (flat N V len) ∧ Below w.heap.size w w' := by
  have hn := fun w : World => Lib.run_eql_slice_nil (P := Try.prog) w 31 42 (some x) len cap 0 0 Try.underlying31
  obtain ⟨i0, hi, hz0, hz1, hz2⟩ := info_parts info44
  have HP : Hid (Pairs w (some x) len N V) := hp
  clear hp
  go_enter Try.func20, Try.ntmps20
  go_wp2_with (first | (at_make; refine wpList_make_full _ rfl _ _ 36 rfl w.heap.size 44 i0 (.agg #[.string ByteArray.empty, .string ByteArray.empty]) 2 Try.underlying36 hi hz0 hz1 .i64 .i64 _ _ len rfl rfl rfl rfl (by rw [hz2]; omega) (by unfold maxLen; omega) (Nat.le_refl _) ?_) | fail)
  intro w1 hown hgr
  have hown' : w1.ownsRow w.heap.size 44 2 (.slice (some ⟨w.heap.size, 0, none⟩) len len) len (part N V 0 len) := by
    rw [part_start, ← made_two]
    exact hown
  have hb1 : Below w.heap.size w w1 := (Below.refl _ _).grown hgr (Nat.le_refl _) (by intro k hk; cases hk)
  clear hown hgr hi hz0 hz1 hz2 hn
  go_wp2
  go_loopw [4] (fun i wr => ∃ k : Nat, k ≤ len ∧ i = .int .i64 k ∧ wr.ownsRow w.heap.size 44 2 (.slice (some ⟨w.heap.size, 0, none⟩) len len) len (part N V k len) ∧ Below w.heap.size w wr) (fun i _ => len - (intOf i).toNat)
  case atStart => exact ⟨0, Nat.zero_le _, rfl, hown', hb1⟩
  case round =>
    clear hown' hb1
    obtain ⟨k, hk, rfl, hown, hbel⟩ := hrel
    by_cases hlt : k < len
    · obtain ⟨b, off, hx, hxb, h1, h2, _, _⟩ := HP.out k hlt
      obtain rfl : x = ⟨b, off, none⟩ := by simpa using hx
      clear hx
      have hc1 : wr.cell? ⟨b, off + k * 2, none⟩ = some (.string (N k)) := (hbel.cell (p := ⟨b, _, none⟩) hxb).trans h1
      have hc2 : wr.cell? ⟨b, off + k * 2 + 1, none⟩ = some (.string (V k)) := (hbel.cell (p := ⟨b, _, none⟩) hxb).trans h2
      clear h1 h2
      have hst := part_step N V k len hlt
      generalize N k = nk at hc1 hst
      generalize V k = vk at hc2 hst
      obtain ⟨old1, hold1⟩ : ∃ old, wr.cell? ⟨w.heap.size, k * 2, none⟩ = some old := by
        rw [hown.cellAt (k * 2) (by omega)]
        exact ⟨_, List.getElem?_eq_getElem (by rw [hown.1]; omega)⟩
      obtain ⟨old2, hold2⟩ : ∃ old, wr.cell? ⟨w.heap.size, k * 2 + 1, none⟩ = some old := by
        rw [hown.cellAt (k * 2 + 1) (by omega)]
        exact ⟨_, List.getElem?_eq_getElem (by rw [hown.1]; omega)⟩
      have hf1 := hown.frozenAt (k * 2)
      have hf2 := hown.frozenAt (k * 2 + 1)
      have R1 := ((hown.stored (k * 2) (.string nk)).1.stored (k * 2 + 1) (.string vk)).1
      rw [hst] at R1
      have hlt' : (k : Int) < (len : Int) := by omega
      have HR1 : Hid (((wr.setCell ⟨w.heap.size, k * 2, none⟩ (.string nk)).setCell ⟨w.heap.size, k * 2 + 1, none⟩ (.string vk)).drew.ownsRow w.heap.size 44 2 (.slice (some ⟨w.heap.size, 0, none⟩) len len) len (part N V (k + 1) len)) := R1.drew
      have HR3 : Hid (Below w.heap.size w ((wr.setCell ⟨w.heap.size, k * 2, none⟩ (.string nk)).setCell ⟨w.heap.size, k * 2 + 1, none⟩ (.string vk)).drew) := ((hbel.setCell (Nat.le_refl _) _).setCell (Nat.le_refl _) _).drew
      clear hst R1 hown hbel
      go_wp2
      go_region
      go_wp2
      go_roundw
      case rel => exact ⟨k + 1, by omega, by go_num, HR1, HR3⟩
      case measure => simp [intOf]; omega
    · have e : k = len := by omega
      have h := hown
      rw [e, part_all] at h
      have HR1 : Hid _ := h
      have HR3 : Hid _ := hbel
      clear e h hown hbel
      go_wp2
      go_ret
      exact ⟨rfl, HR1, HR3⟩
end Go.Proofs.Qxb6605670a.Msg
