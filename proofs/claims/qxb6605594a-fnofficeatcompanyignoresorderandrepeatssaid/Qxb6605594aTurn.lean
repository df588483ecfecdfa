import Derived.Test.Qxb6605594aTwice
namespace Go.Proofs.Qxb6605594a.Office
open Go.ChangeShapes Go.WideShapes Go.ChangeAt Go.RowKit
set_option linter.unusedVariables false

set_option maxHeartbeats 1000000 in
set_option maxRecDepth 100000 in
theorem turn_row (x : Addr) (len cap : Nat) (l : List Int) (w : World) (hl : l.length = len) (hT : ∀ i, i < len → x.spot = none ∧ x.block < w.heap.size)
    (hc : ∀ i, i < len → w.cell? ⟨x.block, x.off + i, none⟩ = some (.int .u8 (l.getD i 0))) :
    Calls Try.prog 6 #[.slice (some x) len cap] w fun e w' => e = .returned (.bool true) ∧ Below w.heap.size w w' := by
  have HL : Hid (l.length = len) := hl
  have HC : Hid (∀ i, i < len → w.cell? ⟨x.block, x.off + i, none⟩ = some (.int .u8 (l.getD i 0))) := hc
  have HT : Hid (∀ i, i < len → x.spot = none ∧ x.block < w.heap.size) := hT
  clear hl hc hT
  by_cases hbig : 1048576 < len
  · go_enter Try.func6, Try.ntmps6
    go_wp2_with (go_at_call 14; refine (zz14_no _ _ _ _ hbig).mono ?_; rintro e w' ⟨rfl, rfl⟩)
    go_ret
    exact ⟨rfl, Below.refl _ _⟩
  by_cases hbig2 : 65536 < len
  · have hi2 : (65536 : Int) < (len : Int) := by omega
    go_enter Try.func6, Try.ntmps6
    go_wp2_with (go_at_call 14; refine (zz14_yes _ _ _ _ (by omega)).mono ?_; rintro e w' ⟨rfl, rfl⟩)
    go_ret
    exact ⟨rfl, Below.refl _ _⟩
  have hi2 : ¬ (65536 : Int) < (len : Int) := by omega
  go_enter Try.func6, Try.ntmps6
  go_wp2_with (go_at_call 14; refine (zz14_yes _ _ _ _ (by omega)).mono ?_; rintro e w' ⟨rfl, rfl⟩)
  go_loop [3] (fun i => ∃ k : Nat, k ≤ len ∧ i = .int .i64 k ∧ ∀ j, j < k → 1 ≤ l.getD j 0 ∧ l.getD j 0 ≤ 3) (fun i => len - (intOf i).toNat)
  case atStart => exact ⟨0, Nat.zero_le _, rfl, fun j hj => by omega⟩
  case round =>
    obtain ⟨k, hk, rfl, hall⟩ := hrel
    have HA : Hid (∀ j, j < k → 1 ≤ l.getD j 0 ∧ l.getD j 0 ≤ 3) := hall
    clear hall
    by_cases hlt : k < len
    · obtain ⟨hs, hxb⟩ := HT.out k hlt
      have hcell := HC.out k hlt
      obtain ⟨b, off, sp⟩ := x
      simp only at hs hxb hcell
      subst hs
      have hz : Hid (1 ≤ l.getD k 0 ∧ l.getD k 0 ≤ 3 → ∀ j, j < k + 1 → 1 ≤ l.getD j 0 ∧ l.getD j 0 ≤ 3) := by
        intro h j hj
        by_cases e : j = k
        · subst e; exact h
        · exact HA.out j (by omega)
      generalize l.getD k 0 = z at hcell hz
      by_cases hz1 : z < 1
      · go_wp2
        go_ret
        exact ⟨rfl, Below.refl _ _⟩
      by_cases hz3 : 3 < z
      · go_wp2
        go_ret
        exact ⟨rfl, Below.refl _ _⟩
      go_wp2
      go_round
      case rel => exact ⟨k + 1, by omega, by go_num, hz.out ⟨by omega, by omega⟩⟩
      case measure => simp [intOf]; omega
    · have hke : k = len := by omega
      subst hke
      have hne := fun (w : World) (a : Addr) (n c : Nat) => run_neq_slice_nil_any (P := Try.prog) w 29 31 (some a) n c 0 0 Try.underlying29
      obtain ⟨i0, hi, hz0, hz1, hz2⟩ := info_parts info31
      go_wp2_with (first | (go_at_call 11; refine (offices_row x _ cap l w HL.out (by omega) HT.out HC.out).mono ?_; rintro e w1 ⟨rfl, hown, hbel⟩) | (at_make; refine wpList_make_full _ rfl _ _ 29 rfl _ 31 i0 (.int .u8 0) 1 Try.underlying29 hi hz0 hz1 .i64 .i64 _ _ (2 * k) rfl rfl (by omega) (by omega) (by rw [hz2]; omega) (by unfold maxLen; omega) (Nat.le_refl _) ?_))
      intro w2 hown2 hgr2
      have hrc : RowAt w1 w.heap.size l := fun j hj => row_cell HL.out hown j (by rw [← HL.out]; exact hj)
      have hgl : w.heap.size < w1.heap.size := (hown.lt w.heap.size rfl).2
      have hown2' : w2.ownsRow w1.heap.size 31 1 (.slice (some ⟨w1.heap.size, 0, none⟩) (2 * k) (2 * k)) (2 * k) ((twice l 0).map (Value.int .u8)) := by
        have e : (madeCells #[Value.int .u8 0] (2 * k)).toList = (twice l 0).map (Value.int .u8) := by rw [toList_madeCells_one, twice_start, HL.out]
        rw [← e]; simpa using hown2
      have hb2 : Below w1.heap.size w1 w2 := (Below.refl _ _).grown hgr2 (Nat.le_refl _) (by intro k hk; cases hk)
      have HB : Hid (Below w.heap.size w w1) := hbel
      clear hown hbel hown2 hgr2 hi hz0 hz1 hz2 hne
      go_wp2
      go_loopw [7] (fun i wr => ∃ j : Nat, j ≤ k ∧ i = .int .i64 j ∧ wr.ownsRow w1.heap.size 31 1 (.slice (some ⟨w1.heap.size, 0, none⟩) (2 * k) (2 * k)) (2 * k) ((twice l j).map (Value.int .u8)) ∧ Below w1.heap.size w1 wr) (fun i _ => k - (intOf i).toNat)
      case atStart => exact ⟨0, Nat.zero_le _, rfl, hown2', hb2⟩
      case round =>
        clear hown2' hb2
        obtain ⟨j, hj, rfl, hown, hbel⟩ := hrel
        by_cases hlt : j < k
        · have hr := hrc.below hbel hgl
          have hc1 : wr.cell? ⟨w.heap.size, k - 1 - j, none⟩ = some (.int .u8 (l.getD (l.length - 1 - j) 0)) := by
            rw [← HL.out]
            exact hr (l.length - 1 - j) (by rw [HL.out]; omega)
          have hc2 := hr j (by rw [HL.out]; omega)
          have hst := twice_step l j (by rw [HL.out]; omega)
          generalize l.getD (l.length - 1 - j) 0 = z1 at hc1 hst
          generalize l.getD j 0 = z2 at hc2 hst
          obtain ⟨old1, hold1⟩ : ∃ old, wr.cell? ⟨w1.heap.size, j, none⟩ = some old := by
            rw [hown.cellAt j (by omega)]
            exact ⟨_, List.getElem?_eq_getElem (by rw [hown.1]; omega)⟩
          obtain ⟨old2, hold2⟩ : ∃ old, wr.cell? ⟨w1.heap.size, k + j, none⟩ = some old := by
            rw [hown.cellAt (k + j) (by omega)]
            exact ⟨_, List.getElem?_eq_getElem (by rw [hown.1]; omega)⟩
          have hf1 := hown.frozenAt j
          have hf2 := hown.frozenAt (k + j)
          have R1 := ((hown.stored j (.int .u8 z1)).1.stored (k + j) (.int .u8 z2)).1
          rw [← HL.out, hst, HL.out] at R1
          have R3 : Below w1.heap.size w1 ((wr.setCell ⟨w1.heap.size, j, none⟩ (.int .u8 z1)).setCell ⟨w1.heap.size, k + j, none⟩ (.int .u8 z2)) := (hbel.setCell (Nat.le_refl _) _).setCell (Nat.le_refl _) _
          have HR1 : Hid _ := R1
          have HR3 : Hid _ := R3
          have HRC : Hid _ := hrc
          have hj1 : (0 : Int) ≤ (k : Int) - 1 - (j : Int) := by omega
          have hj2 : (k : Int) - 1 - (j : Int) < (k : Int) := by omega
          have hj3 : (k : Int) + (j : Int) < 2 * (k : Int) := by omega
          clear hst R1 R3 hown hbel hr hrc
          go_wp2
          go_roundw
          case rel => exact ⟨j + 1, by omega, by go_num, HR1, HR3⟩
          case measure => simp [intOf]; omega
        · have e : k = j := by omega
          subst e
          have hr := hrc.below hbel hgl
          have hown' := hown
          rw [← HL.out] at hown'
          have hr2 : RowAt wr w1.heap.size (twice l l.length) := fun i hi => row_cell (twice_len l _) hown' i (by rwa [twice_len] at hi)
          have hsz2 : w1.heap.size < wr.heap.size := (hown.lt w1.heap.size rfl).2
          have HBB : Hid (Below w.heap.size w wr) := HB.out.trans (hbel.mono (by omega))
          clear hown hbel hown' hrc
          obtain ⟨w3, rfl⟩ : ∃ w3, w3 = wr := ⟨_, rfl⟩
          go_wp2
          go_loopw [9, 10] (fun d i wr => ∃ j : Nat, j ≤ k ∧ i = .int .i64 j ∧ d = .int .i64 (dist (l.take j)) ∧ SeenTo wr w3.heap.size l j ∧ Below w3.heap.size w3 wr ∧ w3.heap.size < wr.heap.size) (fun _ i _ => k - (intOf i).toNat)
          case atStart => exact ⟨0, Nat.zero_le _, rfl, rfl, Seen.start w3, (Below.refl _ _).alloc (Nat.le_refl _) _, by simp⟩
          case round =>
            obtain ⟨j, hj, rfl, rfl, hseen, hbel, hsz3⟩ := hrel
            have hdl := dist_le (l.take j)
            have hb1 : w.heap.size < w3.heap.size := by omega
            have hrr := hr.below hbel hb1
            have hrr2 := hr2.below hbel hsz2
            by_cases hlt : j < k
            · have hlt' : j < l.length := by rw [HL.out]; exact hlt
              have hcell := hrr j hlt'
              obtain ⟨hz1, hz2⟩ := HA.out j hlt
              obtain ⟨m, hm⟩ := Int.eq_ofNat_of_zero_le (show 0 ≤ l.getD j 0 by omega)
              rw [hm] at hz1 hz2 hcell
              have hm1 : 1 ≤ m := by omega
              have hm3 : m ≤ 3 := by omega
              obtain ⟨hmc, hmf⟩ := hseen.at m hm1 hm3
              have hm4 : (m : Int) < 4 := by omega
              by_cases hh : hasB (l.take j) m = true
              · have HS : Hid (SeenTo wr w3.heap.size l (j + 1)) := hseen.old m hlt' hm hm1 hm3 hh
                have HD : Hid (dist (l.take (j + 1)) = dist (l.take j)) := dist_old l j m hlt' hm hz1 hz2 hh
                rw [hh] at hmc
                have HB3 : Hid (Below w3.heap.size w3 wr) := hbel
                clear hm hh hseen hbel hrr hrr2 hr hr2
                go_wp2
                go_roundw
                case rel => exact ⟨j + 1, by omega, by go_num, by rw [HD.out], HS, HB3, hsz3⟩
                case measure => simp [intOf]; omega
              · have hh' : hasB (l.take j) m = false := by simpa using hh
                have HS : Hid (SeenTo (wr.setCell ⟨w3.heap.size, m, none⟩ (.bool true)) w3.heap.size l (j + 1)) := hseen.new m hlt' hm hm1 hm3
                have HD : Hid (dist (l.take (j + 1)) = dist (l.take j) + 1) := dist_new l j m hlt' hm hz1 hz2 hh'
                rw [hh'] at hmc
                have HB3 : Hid (Below w3.heap.size w3 (wr.setCell ⟨w3.heap.size, m, none⟩ (.bool true))) := hbel.setCell (Nat.le_refl _) _
                clear hm hh hh' hseen hbel hrr hrr2 hr hr2
                go_wp2
                go_roundw
                case rel => exact ⟨j + 1, by omega, by go_num, by rw [HD.out], HS, HB3, by simpa using hsz3⟩
                case measure => simp [intOf]; omega
            · have e : l.take j = l := List.take_of_length_le (by rw [HL.out]; omega)
              rw [e] at hdl ⊢
              clear e
              have HB4 : Hid (Below w.heap.size w wr) := HBB.out.trans (hbel.mono (by omega))
              clear hbel hseen hr hr2
              obtain ⟨w4, rfl⟩ : ∃ w4, w4 = wr := ⟨_, rfl⟩
              go_wp2_with fail
              refine (new_any _ _ _ _).mono ?_
              rintro e w5 ⟨rfl, hp1, hold1, hsz5, hbel5⟩
              have hs5 : w4.heap.size < w5.heap.size := by omega
              have hr5 := hrr.below hbel5 (by omega)
              have hr25 := hrr2.below hbel5 (by omega)
              have HB5 : Hid (Below w.heap.size w w5) := HB4.out.trans (hbel5.mono (by omega))
              clear hold1 hsz5 hbel5 hrr hrr2
              go_wp2_with fail
              refine (new_any _ _ _ _).mono ?_
              rintro e w6 ⟨rfl, hp2, hold2, hsz6, hbel6⟩
              have hp1' := (hold2.out _ 2 hs5).trans hp1
              have HR6 : Hid (RowAt w6 w.heap.size l) := hr5.below hbel6 (by omega)
              have HR26 : Hid (RowAt w6 w1.heap.size (twice l l.length)) := hr25.below hbel6 (by omega)
              have HB6 : Hid (Below w.heap.size w w6) := HB5.out.trans (hbel6.mono (by omega))
              clear hold2 hsz6 hbel6 hp1 hr5 hr25
              have HN : Hid (∀ o : Int, ¬ (1 ≤ o ∧ o ≤ 3) → hasB l o = false) := fun o ho => has_not l k HL.out HA.out o ho
              go_wp2_with fail
              go_loop [14, 15] (fun c i => ∃ q : Nat, q ≤ 256 ∧ i = .int .i64 q ∧ c = .int .i64 (cnt l q)) (fun _ i => 256 - (intOf i).toNat)
              case atStart => exact ⟨0, Nat.zero_le _, rfl, rfl⟩
              case round =>
                obtain ⟨q, hq, rfl, rfl⟩ := hrel
                have hcl := cnt_le l q
                by_cases hq2 : q < 256
                · have hst := cnt_step l q HN.out
                  have C1 : Hid (Calls Try.prog 13 #[.pointer (some ⟨w4.heap.size, 0, none⟩), .int .u8 (q : Int)] w6 fun e w' => e = .returned (.bool (hasB l q)) ∧ w6 = w') :=
                    at_row w4.heap.size w.heap.size k k l q w6 hp1' HL.out (by omega) (fun i hi => HR6.out i (by rw [HL.out]; exact hi))
                  have C2 : Hid (Calls Try.prog 13 #[.pointer (some ⟨w5.heap.size, 0, none⟩), .int .u8 (q : Int)] w6 fun e w' => e = .returned (.bool (hasB l q)) ∧ w6 = w') := by
                    have h := at_row w5.heap.size w1.heap.size (2 * k) (2 * k) (twice l l.length) q w6 hp2 (by rw [twice_len, HL.out]) (by omega) (fun i hi => HR26.out i (by rw [twice_len, HL.out]; exact hi))
                    rw [hasB_twice] at h
                    exact h
                  clear hp1' hp2
                  generalize hasB l q = b at hst C1 C2
                  cases b
                  · have HD : Hid (cnt l (q + 1) = cnt l q) := hst.trans (by simp [b2i])
                    clear hst
                    go_wp2_with fail
                    refine C1.out.mono ?_
                    rintro e w' ⟨rfl, rfl⟩
                    go_wp2_with fail
                    refine C2.out.mono ?_
                    rintro e w' ⟨rfl, rfl⟩
                    go_wp2_with fail
                    go_round
                    case rel => exact ⟨q + 1, by omega, by go_num, by rw [HD.out]⟩
                    case measure => simp [intOf]; omega
                  · have HD : Hid (cnt l (q + 1) = cnt l q + 1) := hst.trans (by simp [b2i])
                    clear hst
                    go_wp2_with fail
                    refine C1.out.mono ?_
                    rintro e w' ⟨rfl, rfl⟩
                    go_wp2_with fail
                    refine C2.out.mono ?_
                    rintro e w' ⟨rfl, rfl⟩
                    go_wp2_with fail
                    go_round
                    case rel => exact ⟨q + 1, by omega, by go_num, by rw [HD.out]⟩
                    case measure => simp [intOf]; omega
                · have hq3 : q = 256 := by omega
                  subst hq3
                  have HE := cnt_end l
                  rw [HE]
                  clear HE
                  go_wp2
                  go_ret
                  exact ⟨ret_bool (by simp), HB6⟩
end Go.Proofs.Qxb6605594a.Office
