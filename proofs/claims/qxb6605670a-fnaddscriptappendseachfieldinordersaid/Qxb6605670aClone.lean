import Derived.Test.Qxb6605670aBase
namespace Go.Proofs.Qxb6605670a.Msg
open Go.ChangeShapes Go.WideShapes Go.ChangeAt Go.RowKit
set_option linter.unusedVariables false

theorem info5 : (Try.prog.info? 5).map (fun i => (i.zero, i.size, i.bytes)) = some (some (.int .u8 0), 1, 1) := by kernel_rfl

/-- the slice at a holds len bytes -/
def Bytes (w : World) (a : Option Addr) (len : Nat) : Prop := ∀ i, i < len → ∃ b off z, a = some ⟨b, off, none⟩ ∧ b < w.heap.size ∧ w.cell? ⟨b, off + i, none⟩ = some (.int .u8 z)

/-- what 'cloneBytes' answers: nil or a slice at the head of a block -/
def IsC (w w' : World) (len : Nat) (e : Ending) : Prop :=
  ∃ vo vc, e = .returned (.slice vo len vc) ∧ (vo = none → len = 0) ∧ (∀ x, vo = some x → ∃ g, x = ⟨g, 0, none⟩) ∧ Below w.heap.size w w'

set_option maxHeartbeats 1000000 in
theorem clone_any (a : Option Addr) (len cap : Nat) (w : World) (hnil : a = none → len = 0 ∧ cap = 0) (hl : len ≤ 1048576) (hp : Bytes w a len) :
    Calls Try.prog 19 #[.slice a len cap] w fun e w' => IsC w w' len e := by
  rcases a with _ | x
  · obtain ⟨rfl, rfl⟩ := hnil rfl
    have hn := fun w : World => Lib.run_eql_slice_nil (P := Try.prog) w 32 5 none 0 0 0 0 Try.underlying32
    go_enter Try.func19, Try.ntmps19
    go_wp2
    go_ret
    exact ⟨none, 0, rfl, fun _ => rfl, fun x h => by simp at h, Below.refl _ _⟩
  · clear hnil
    have hn := fun w : World => Lib.run_eql_slice_nil (P := Try.prog) w 32 5 (some x) len cap 0 0 Try.underlying32
    obtain ⟨i0, hi, hz0, hz1, hz2⟩ := info_parts info5
    have HP : Hid (Bytes w (some x) len) := hp
    clear hp
    go_enter Try.func19, Try.ntmps19
    go_wp2_with (first | (at_make; refine wpList_make_full _ rfl _ _ 32 rfl w.heap.size 5 i0 (.int .u8 0) 1 Try.underlying32 hi hz0 hz1 .i64 .i64 _ _ len rfl rfl rfl rfl (by rw [hz2]; omega) (by unfold maxLen; omega) (Nat.le_refl _) ?_) | fail)
    intro w1 hown hgr
    have hb1 : Below w.heap.size w w1 := (Below.refl _ _).grown hgr (Nat.le_refl _) (by intro k hk; cases hk)
    clear hgr hi hz0 hz1 hz2 hn
    go_wp2
    go_loopw [4] (fun i wr => ∃ k : Nat, k ≤ len ∧ i = .int .i64 k ∧ (∃ xs, wr.ownsRow w.heap.size 5 1 (.slice (some ⟨w.heap.size, 0, none⟩) len len) len xs) ∧ Below w.heap.size w wr) (fun i _ => len - (intOf i).toNat)
    case atStart => exact ⟨0, Nat.zero_le _, rfl, ⟨_, hown⟩, hb1⟩
    case round =>
      clear hown hb1
      obtain ⟨k, hk, rfl, ⟨xs, hown⟩, hbel⟩ := hrel
      by_cases hlt : k < len
      · obtain ⟨b, off, z, hx, hxb, h1⟩ := HP.out k hlt
        obtain rfl : x = ⟨b, off, none⟩ := by simpa using hx
        clear hx
        have hc1 : wr.cell? ⟨b, off + k, none⟩ = some (.int .u8 z) := (hbel.cell (p := ⟨b, _, none⟩) hxb).trans h1
        clear h1
        obtain ⟨old1, hold1⟩ : ∃ old, wr.cell? ⟨w.heap.size, k, none⟩ = some old := by
          rw [hown.cellAt k (by omega)]
          exact ⟨_, List.getElem?_eq_getElem (by rw [hown.1]; omega)⟩
        have hf1 := hown.frozenAt k
        have HR1 : Hid _ := (hown.stored k (.int .u8 z)).1
        have HR3 : Hid (Below w.heap.size w (wr.setCell ⟨w.heap.size, k, none⟩ (.int .u8 z))) := hbel.setCell (Nat.le_refl _) _
        clear hown hbel
        go_wp2
        go_roundw
        case rel => exact ⟨k + 1, by omega, by go_num, ⟨_, HR1⟩, HR3⟩
        case measure => simp [intOf]; omega
      · have HR3 : Hid _ := hbel
        clear hown hbel
        go_wp2
        go_ret
        exact ⟨some ⟨w.heap.size, 0, none⟩, len, rfl, fun h => by simp at h, fun x h => ⟨w.heap.size, by simpa using h.symm⟩, HR3⟩

set_option maxHeartbeats 4000000 in
set_option maxRecDepth 100000 in
theorem zz17_any (s0 s1 s3 : ByteArray) (st : Int) (a4 : Option Addr) (len4 cap4 : Nat) (N4 V4 : Nat → ByteArray) (a5 : Option Addr) (len5 cap5 : Nat) (a6 : Option Addr) (len6 cap6 : Nat) (N6 V6 : Nat → ByteArray) (w : World)
    (h0 : s0.size ≤ maxLen) (h1 : s1.size ≤ maxLen) (h3 : s3.size ≤ maxLen) (h4 : len4 ≤ maxLen) (h5 : len5 ≤ maxLen) (h6 : len6 ≤ maxLen) (hp4 : Pairs w a4 len4 N4 V4) (hp6 : Pairs w a6 len6 N6 V6) :
    Calls Try.prog 17 #[.string s0, .string s1, .int .i64 st, .string s3, .slice a4 len4 cap4, .slice a5 len5 cap5, .slice a6 len6 cap6] w fun e w' => IsB e ∧ w = w' := by
  unfold maxLen at h0 h1 h3 h4 h5 h6
  have HP4 : Hid (Pairs w a4 len4 N4 V4) := hp4
  have HP6 : Hid (Pairs w a6 len6 N6 V6) := hp6
  clear hp4 hp6
  go_enter Try.func17, Try.ntmps17
  go_wp2
  all_goals first
    | (go_ret; exact ⟨⟨_, rfl⟩, rfl⟩)
    | skip
  go_loop [15, 16] (fun z i => ∃ k : Nat, k ≤ len4 ∧ i = .int .i64 k ∧ ∃ q : Int, 0 ≤ q ∧ q ≤ 1048576 ∧ z = .int .i64 q) (fun _ i => len4 - (intOf i).toNat)
  case atStart => exact ⟨0, Nat.zero_le _, rfl, _, by omega, by omega, rfl⟩
  case round =>
    obtain ⟨k, hk, rfl, q, hq1, hq2, rfl⟩ := hrel
    by_cases hlt : k < len4
    · obtain ⟨b, off, ha, hb, g1, g2, g3, g4⟩ := HP4.out k hlt
      subst ha
      unfold maxLen at g3 g4
      generalize N4 k = nk at g1 g3
      generalize V4 k = vk at g2 g4
      go_wp2
      all_goals first
        | (go_ret; exact ⟨⟨_, rfl⟩, rfl⟩)
        | (go_round
           case rel => exact ⟨k + 1, by omega, by go_num, _, by omega, by omega, rfl⟩
           case measure => simp [intOf]; omega)
    · go_wp2
      all_goals first
        | (go_ret; exact ⟨⟨_, rfl⟩, rfl⟩)
        | skip
      go_loop [15, 17] (fun z i => ∃ k : Nat, k ≤ len6 ∧ i = .int .i64 k ∧ ∃ q : Int, 0 ≤ q ∧ q ≤ 1048576 ∧ z = .int .i64 q) (fun _ i => len6 - (intOf i).toNat)
      case atStart => exact ⟨0, Nat.zero_le _, rfl, _, by omega, by omega, rfl⟩
      case round =>
        obtain ⟨k, hk, rfl, q, hq1, hq2, rfl⟩ := hrel
        by_cases hlt : k < len6
        · obtain ⟨b, off, ha, hb, g1, g2, g3, g4⟩ := HP6.out k hlt
          subst ha
          unfold maxLen at g3 g4
          generalize N6 k = nk at g1 g3
          generalize V6 k = vk at g2 g4
          go_wp2
          all_goals first
            | (go_ret; exact ⟨⟨_, rfl⟩, rfl⟩)
            | (go_round
               case rel => exact ⟨k + 1, by omega, by go_num, _, by omega, by omega, rfl⟩
               case measure => simp [intOf]; omega)
        · go_wp2
          go_ret
          exact ⟨⟨_, rfl⟩, rfl⟩
end Go.Proofs.Qxb6605670a.Msg
