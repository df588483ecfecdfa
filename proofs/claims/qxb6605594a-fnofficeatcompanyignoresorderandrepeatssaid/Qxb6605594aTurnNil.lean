import Derived.Test.Qxb6605594aTurn
namespace Go.Proofs.Qxb6605594a.Office
open Go.ChangeShapes Go.WideShapes Go.ChangeAt Go.RowKit
set_option linter.unusedVariables false

set_option maxHeartbeats 1000000 in
set_option maxRecDepth 100000 in
theorem turn_nil (w : World) :
    Calls Try.prog 6 #[.slice none 0 0] w fun e w' => e = .returned (.bool true) ∧ Below w.heap.size w w' := by
  have hne := fun (w : World) => run_neq_slice_nil_any (P := Try.prog) w 29 31 none 0 0 0 0 Try.underlying29
  go_enter Try.func6, Try.ntmps6
  go_wp2_with (go_at_call 14; refine (zz14_yes _ _ _ _ (by omega)).mono ?_; rintro e w' ⟨rfl, rfl⟩)
  refine wp_loop_rounds 1 ?_
  rw [rounds_succ]
  go_wp2_with (go_at_call 11; refine (offices_nil _).mono ?_; rintro e w' ⟨rfl, rfl⟩)
  refine wp_loop_rounds 1 ?_
  rw [rounds_succ]
  go_wp2_with fail
  have hb0 : Below w.heap.size w (w.alloc (.cells #[.bool false, .bool false, .bool false, .bool false] 36)) := (Below.refl _ _).alloc (Nat.le_refl _) _
  refine (new_any _ _ _ _).mono ?_
  rintro e w5 ⟨rfl, hp1, hold1, hsz5, hbel5⟩
  have hs5 : w.heap.size + 1 < w5.heap.size := by rw [hsz5]; simp
  have HB5 : Hid (Below w.heap.size w w5) := hb0.trans (hbel5.mono (by simp))
  simp at hp1
  clear hold1 hsz5 hbel5 hb0
  go_wp2_with fail
  refine (new_any _ _ _ _).mono ?_
  rintro e w6 ⟨rfl, hp2, hold2, hsz6, hbel6⟩
  have hp1' := (hold2.out _ 2 hs5).trans hp1
  have HB6 : Hid (Below w.heap.size w w6) := HB5.out.trans (hbel6.mono (by omega))
  clear hold2 hsz6 hbel6 hp1
  go_wp2_with fail
  go_loop [14, 15] (fun c i => ∃ q : Nat, q ≤ 256 ∧ i = .int .i64 q ∧ c = .int .i64 0) (fun _ i => 256 - (intOf i).toNat)
  case atStart => exact ⟨0, Nat.zero_le _, rfl, rfl⟩
  case round =>
    obtain ⟨q, hq, rfl, rfl⟩ := hrel
    by_cases hq2 : q < 256
    · go_wp2_with fail
      refine (at_nil _ _ _ hp1').mono ?_
      rintro e w' ⟨rfl, rfl⟩
      go_wp2_with fail
      refine (at_nil _ _ _ hp2).mono ?_
      rintro e w' ⟨rfl, rfl⟩
      go_wp2_with fail
      go_round
      case rel => exact ⟨q + 1, by omega, by go_num, rfl⟩
      case measure => simp [intOf]; omega
    · go_wp2
      go_ret
      exact ⟨rfl, HB6⟩
end Go.Proofs.Qxb6605594a.Office
