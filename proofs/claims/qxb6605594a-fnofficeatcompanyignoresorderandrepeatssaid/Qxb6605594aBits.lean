import Derived.Test.Qxb6605594aOffice
namespace Go.Proofs.Qxb6605594a.Office
open Go.ChangeShapes Go.WideShapes Go.ChangeAt Go.RowKit
set_option linter.unusedVariables false

theorem at_row (pb g n c : Nat) (l : List Int) (o : Int) (w : World) (hp : w.cell? ⟨pb, 2, none⟩ = some (.slice (some ⟨g, 0, none⟩) n c)) (hl : l.length = n) (hn : n ≤ 1048576) (hc : ∀ i, i < n → w.cell? ⟨g, i, none⟩ = some (.int .u8 (l.getD i 0))) :
    Calls Try.prog 13 #[.pointer (some ⟨pb, 0, none⟩), .int .u8 o] w fun e w' => e = .returned (.bool (hasB l o)) ∧ w = w' := by
  have HL : Hid (l.length = n) := hl
  have HC : Hid (∀ i, i < n → w.cell? ⟨g, i, none⟩ = some (.int .u8 (l.getD i 0))) := hc
  clear hl hc
  go_enter Try.func13, Try.ntmps13
  go_wp2_with (go_at_call 16; refine (has_row g n c l o _ HL.out hn HC.out).mono ?_; rintro e w' ⟨rfl, rfl⟩)
  go_ret
  exact ⟨rfl, rfl⟩

theorem at_nil (pb : Nat) (o : Int) (w : World) (hp : w.cell? ⟨pb, 2, none⟩ = some (.slice none 0 0)) :
    Calls Try.prog 13 #[.pointer (some ⟨pb, 0, none⟩), .int .u8 o] w fun e w' => e = .returned (.bool false) ∧ w = w' := by
  go_enter Try.func13, Try.ntmps13
  go_wp2_with (go_at_call 16; refine (has_nil o _).mono ?_; rintro e w' ⟨rfl, rfl⟩)
  go_ret
  exact ⟨rfl, rfl⟩

/-- 'ZZnewStateAssetsException': a new struct whose third cell is the list. -/
theorem new_any (a : Option Addr) (n c : Nat) (w : World) :
    Calls Try.prog 12 #[.slice a n c] w fun e w' => e = .returned (.pointer (some ⟨w.heap.size, 0, none⟩)) ∧ w'.cell? ⟨w.heap.size, 2, none⟩ = some (.slice a n c) ∧
      Hid (∀ b j, b < w.heap.size → w'.cell? ⟨b, j, none⟩ = w.cell? ⟨b, j, none⟩) ∧ w'.heap.size = w.heap.size + 1 ∧ Below w.heap.size w w' := by
  go_enter Try.func12, Try.ntmps12
  go_wp2
  go_ret
  exact ⟨rfl, by go_simp, fun b j hb => World.cell?_alloc_past _ _ _ hb, by simp, (Below.refl _ _).alloc (Nat.le_refl _) _⟩

/-- the bit set of the offices that are there -/
def mask3 (b1 b2 b3 : Bool) : Int := (if b1 then 2 else 0) + (if b2 then 4 else 0) + (if b3 then 8 else 0)
def maskOf (l : List Int) : Int := mask3 (hasB l 1) (hasB l 2) (hasB l 3)

theorem mask_step (l : List Int) (j : Nat) (z : Int) (hj : j < l.length) (hz : l.getD j 0 = z) (h1 : 1 ≤ z) (h3 : z ≤ 3) :
    bits BinOp.or IntKind.u8 (maskOf (l.take j)) (2 ^ z.toNat % 256) = maskOf (l.take (j + 1)) := by
  unfold maskOf
  rw [hasB_take_succ l j 1 hj, hasB_take_succ l j 2 hj, hasB_take_succ l j 3 hj, hz]
  generalize hasB (l.take j) 1 = b1
  generalize hasB (l.take j) 2 = b2
  generalize hasB (l.take j) 3 = b3
  rcases (by omega : z = 1 ∨ z = 2 ∨ z = 3) with rfl | rfl | rfl <;> cases b1 <;> cases b2 <;> cases b3 <;> decide

theorem mask_has (l : List Int) (o : Int) (h1 : 1 ≤ o) (h3 : o ≤ 3) : (bits BinOp.and IntKind.u8 (maskOf l) (2 ^ o.toNat % 256) != 0) = hasB l o := by
  unfold maskOf
  rcases (by omega : o = 1 ∨ o = 2 ∨ o = 3) with rfl | rfl | rfl <;> cases hasB l 1 <;> cases hasB l 2 <;> cases hasB l 3 <;> decide

theorem mask_zero (o : Int) (h1 : 1 ≤ o) (h3 : o ≤ 3) : bits BinOp.and IntKind.u8 0 (2 ^ o.toNat % 256) = 0 := by
  rcases (by omega : o = 1 ∨ o = 2 ∨ o = 3) with rfl | rfl | rfl <;> decide

theorem has_not (l : List Int) (n : Nat) (hl : l.length = n) (h : ∀ j, j < n → 1 ≤ l.getD j 0 ∧ l.getD j 0 ≤ 3) (o : Int) (ho : ¬ (1 ≤ o ∧ o ≤ 3)) : hasB l o = false := by
  unfold hasB
  rw [List.any_eq_false]
  intro x hx he
  obtain ⟨i, hi, rfl⟩ := List.getElem_of_mem hx
  have := h i (by omega)
  simp [List.getElem?_eq_getElem hi] at this
  simp at he
  omega

theorem row_cell {w1 : World} {B g n cap : Nat} {l : List Int} (hl : l.length = n) (h : w1.ownsRow B 31 1 (.slice (some ⟨g, 0, none⟩) n cap) n (l.map (Value.int .u8))) : ∀ j, j < n → w1.cell? ⟨g, j, none⟩ = some (.int .u8 (l.getD j 0)) := by
  intro j hj
  rw [h.cellAt j (by omega)]
  simp [List.getElem?_eq_getElem (show j < l.length by omega)]

set_option maxHeartbeats 400000 in
theorem main_row (x : Addr) (len cap : Nat) (l : List Int) (o : Int) (w : World) (hl : l.length = len) (hT : ∀ i, i < len → x.spot = none ∧ x.block < w.heap.size)
    (hc : ∀ i, i < len → w.cell? ⟨x.block, x.off + i, none⟩ = some (.int .u8 (l.getD i 0))) (h0 : 0 ≤ o) (h255 : o ≤ 255) :
    Calls Try.prog 5 #[.slice (some x) len cap, .int .u8 o] w fun e w' => e = .returned (.bool true) ∧ Below w.heap.size w w' := by
  have HL : Hid (l.length = len) := hl
  have HC : Hid (∀ i, i < len → w.cell? ⟨x.block, x.off + i, none⟩ = some (.int .u8 (l.getD i 0))) := hc
  have HT : Hid (∀ i, i < len → x.spot = none ∧ x.block < w.heap.size) := hT
  clear hl hc hT
  by_cases hbig : 1048576 < len
  · go_enter Try.func5, Try.ntmps5
    go_wp2_with (go_at_call 10; refine (zz10_no _ _ _ _ _ hbig).mono ?_; rintro e w' ⟨rfl, rfl⟩)
    go_ret
    exact ⟨rfl, Below.refl _ _⟩
  by_cases hbig2 : 65536 < len
  · have hi2 : (65536 : Int) < (len : Int) := by omega
    go_enter Try.func5, Try.ntmps5
    go_wp2_with (go_at_call 10; refine (zz10_yes _ _ _ _ _ (by omega)).mono ?_; rintro e w' ⟨rfl, rfl⟩)
    go_ret
    exact ⟨rfl, Below.refl _ _⟩
  have hi2 : ¬ (65536 : Int) < (len : Int) := by omega
  go_enter Try.func5, Try.ntmps5
  go_wp2_with (go_at_call 10; refine (zz10_yes _ _ _ _ _ (by omega)).mono ?_; rintro e w' ⟨rfl, rfl⟩)
  go_loop [5] (fun i => ∃ k : Nat, k ≤ len ∧ i = .int .i64 k ∧ ∀ j, j < k → 1 ≤ l.getD j 0 ∧ l.getD j 0 ≤ 3) (fun i => len - (intOf i).toNat)
  case atStart => exact ⟨0, Nat.zero_le _, rfl, fun j hj => by omega⟩
  case round =>
    obtain ⟨k, hk, rfl, hall⟩ := hrel
    have HA : Hid (∀ j, j < k → 1 ≤ l.getD j 0 ∧ l.getD j 0 ≤ 3) := hall
    clear hall
    by_cases hlt : k < len
    · obtain ⟨hs, hxb⟩ := HT.out k hlt
      have hcell := HC.out k hlt
      obtain ⟨b, off, sp⟩ := x
      simp only at hs hxb hcell
      subst hs
      have hz : Hid (1 ≤ l.getD k 0 ∧ l.getD k 0 ≤ 3 → ∀ j, j < k + 1 → 1 ≤ l.getD j 0 ∧ l.getD j 0 ≤ 3) := by
        intro h j hj
        by_cases e : j = k
        · subst e; exact h
        · exact HA.out j (by omega)
      generalize l.getD k 0 = z at hcell hz
      by_cases hz1 : z < 1
      · go_wp2
        go_ret
        exact ⟨rfl, Below.refl _ _⟩
      by_cases hz3 : 3 < z
      · go_wp2
        go_ret
        exact ⟨rfl, Below.refl _ _⟩
      go_wp2
      go_round
      case rel => exact ⟨k + 1, by omega, by go_num, hz.out ⟨by omega, by omega⟩⟩
      case measure => simp [intOf]; omega
    · have hke : k = len := by omega
      subst hke
      go_wp2_with (go_at_call 11; refine (offices_row x _ cap l w HL.out (by omega) HT.out HC.out).mono ?_; rintro e w1 ⟨rfl, hown, hbel⟩)
      have hrc := row_cell HL.out hown
      have hgl : w.heap.size < w1.heap.size := (hown.lt w.heap.size rfl).2
      have HB : Hid (Below w.heap.size w w1) := hbel
      have HR : Hid (∀ j, j < k → w1.cell? ⟨w.heap.size, j, none⟩ = some (.int .u8 (l.getD j 0))) := hrc
      clear hown hbel hrc
      go_loop [7, 8] (fun m i => ∃ j : Nat, j ≤ k ∧ i = .int .i64 j ∧ m = .int .u8 (maskOf (l.take j))) (fun _ i => k - (intOf i).toNat)
      case atStart => exact ⟨0, Nat.zero_le _, rfl, rfl⟩
      case round =>
        obtain ⟨j, hj, rfl, rfl⟩ := hrel
        by_cases hlt : j < k
        · have hcell := HR.out j hlt
          obtain ⟨hz1, hz2⟩ := HA.out j hlt
          have HM : Hid _ := mask_step l j (l.getD j 0) (by rw [HL.out]; exact hlt) rfl hz1 hz2
          generalize l.getD j 0 = z at hcell hz1 hz2 HM
          go_wp2
          go_round
          case rel => exact ⟨j + 1, by omega, by go_num, congrArg (Value.int .u8) HM⟩
          case measure => simp [intOf]; omega
        · have e : l.take j = l := List.take_of_length_le (by rw [HL.out]; omega)
          rw [e]
          clear e
          by_cases ho : 1 ≤ o ∧ o ≤ 3
          · have hm := mask_has l o ho.1 ho.2
            obtain ⟨ho1, ho3⟩ := ho
            generalize maskOf l = m at hm
            go_wp2_with (go_at_call 12; refine (new_any _ _ _ _).mono ?_; rintro e w2 ⟨rfl, hp, hold, hsz, hbel⟩)
            have HR2 : Hid (∀ j, j < k → w2.cell? ⟨w.heap.size, j, none⟩ = some (.int .u8 (l.getD j 0))) := fun j hj => (hold.out _ _ hgl).trans (HR.out j hj)
            have HB2 : Hid (Below w.heap.size w w2) := HB.out.trans (hbel.mono (by omega))
            clear hold hsz hbel
            go_wp2_with (go_at_call 13; refine (at_row _ _ _ _ l o _ hp HL.out (by omega) HR2.out).mono ?_; rintro e w' ⟨rfl, rfl⟩)
            go_ret
            exact ⟨ret_bool (by simp), HB2⟩
          · have hm := has_not l k HL.out HA.out o ho
            rcases (by omega : o < 1 ∨ (1 ≤ o ∧ 3 < o)) with ho1 | ⟨ho1, ho3⟩
            all_goals
              clear ho
              go_wp2_with (go_at_call 12; refine (new_any _ _ _ _).mono ?_; rintro e w2 ⟨rfl, hp, hold, hsz, hbel⟩)
              have HR2 : Hid (∀ j, j < k → w2.cell? ⟨w.heap.size, j, none⟩ = some (.int .u8 (l.getD j 0))) := fun j hj => (hold.out _ _ hgl).trans (HR.out j hj)
              have HB2 : Hid (Below w.heap.size w w2) := HB.out.trans (hbel.mono (by omega))
              clear hold hsz hbel
              go_wp2_with (go_at_call 13; refine (at_row _ _ _ _ l o _ hp HL.out (by omega) HR2.out).mono ?_; rintro e w' ⟨rfl, rfl⟩)
              go_ret
              exact ⟨ret_bool (by simp), HB2⟩

set_option maxHeartbeats 400000 in
theorem main_nil (o : Int) (w : World) (h0 : 0 ≤ o) (h255 : o ≤ 255) :
    Calls Try.prog 5 #[.slice none 0 0, .int .u8 o] w fun e w' => e = .returned (.bool true) ∧ Below w.heap.size w w' := by
  rcases (by omega : o < 1 ∨ (1 ≤ o ∧ 3 < o) ∨ (1 ≤ o ∧ o ≤ 3)) with ho1 | ⟨ho1, ho3⟩ | ⟨ho1, ho3⟩
  all_goals
    go_enter Try.func5, Try.ntmps5
    go_wp2_with (go_at_call 10; refine (zz10_yes _ _ _ _ _ (by omega)).mono ?_; rintro e w' ⟨rfl, rfl⟩)
    refine wp_loop_rounds 1 ?_
    rw [rounds_succ]
    go_wp2_with (go_at_call 11; refine (offices_nil _).mono ?_; rintro e w' ⟨rfl, rfl⟩)
    refine wp_loop_rounds 1 ?_
    rw [rounds_succ]
    go_wp2_with (go_at_call 12; refine (new_any _ _ _ _).mono ?_; rintro e w2 ⟨rfl, hp, hold, hsz, hbel⟩)
    clear hold hsz
    go_wp2_with (go_at_call 13; refine (at_nil _ _ _ hp).mono ?_; rintro e w' ⟨rfl, rfl⟩)
    go_ret
    exact ⟨ret_bool (by first | (simp; done) | (simp; exact mask_zero o ho1 ho3)), hbel⟩
end Go.Proofs.Qxb6605594a.Office
