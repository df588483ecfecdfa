import Derived.Test.Qxb6605670aRows
import Derived.WalkKit
import Derived.ProofKit
import Derived.OpenShut
import Derived.ShutString
import Derived.ChangeOld
import Derived.Below
import Derived.WalkSpells
import Derived.WalkLawsBesides
import Derived.RegionTactic
import Derived.ChangeAlike
import Derived.Deep.QuietTactic
import Derived.BigQuiet
import Derived.Deep.SlicePairs
namespace Go.Proofs.Qxb6605670a.Msg
open Go.ChangeShapes Go.WideShapes Go.ChangeAt Go.RowKit
set_option linter.unusedVariables false

theorem info44 : (Try.prog.info? 44).map (fun i => (i.zero, i.size, i.bytes)) = some (some (.agg #[.string ByteArray.empty, .string ByteArray.empty]), 2, 32) := by kernel_rfl

/-- a call that answers a bool -/
def IsB (e : Ending) : Prop := ∃ b, e = .returned (.bool b)
/-- a call that answers a number from 0 to 1048577 -/
def IsN (e : Ending) : Prop := ∃ r : Int, 0 ≤ r ∧ r ≤ 1048577 ∧ e = .returned (.int .i64 r)

/-- the slice at a holds len pairs of strings -/
def Pairs (w : World) (a : Option Addr) (len : Nat) (N V : Nat → ByteArray) : Prop := ∀ i, i < len → ∃ b off, a = some ⟨b, off, none⟩ ∧ b < w.heap.size ∧
  w.cell? ⟨b, off + i * 2, none⟩ = some (.string (N i)) ∧ w.cell? ⟨b, off + i * 2 + 1, none⟩ = some (.string (V i)) ∧ (N i).size ≤ maxLen ∧ (V i).size ≤ maxLen

theorem Pairs.below {w w' : World} {a : Option Addr} {len B : Nat} {N V : Nat → ByteArray} (h : Pairs w a len N V) (hb : Below B w w') (hB : w.heap.size ≤ B) : Pairs w' a len N V := by
  intro i hi
  obtain ⟨b, off, e, h1, h2, h3, h4, h5⟩ := h i hi
  exact ⟨b, off, e, Nat.lt_of_lt_of_le h1 hb.size, (hb.cell (p := ⟨b, _, none⟩) (by simp; omega)).trans h2, (hb.cell (p := ⟨b, _, none⟩) (by simp; omega)).trans h3, h4, h5⟩

set_option maxHeartbeats 1000000 in
theorem zz22_any (a : Option Addr) (len cap : Nat) (N V : Nat → ByteArray) (s t : ByteArray) (w : World) (hl : len ≤ maxLen) (hs : s.size ≤ maxLen) (ht : t.size ≤ maxLen) (hp : Pairs w a len N V) :
    Calls Try.prog 22 #[.slice a len cap, .string s, .string t] w fun e w' => IsB e ∧ w = w' := by
  unfold maxLen at hl hs ht
  have HP : Hid (Pairs w a len N V) := hp
  clear hp
  by_cases hbig : 1048576 < len
  · have hi : (1048576 : Int) < (len : Int) := by omega
    go_enter Try.func22, Try.ntmps22
    go_wp2
    go_ret
    exact ⟨⟨_, rfl⟩, rfl⟩
  have hi : ¬ (1048576 : Int) < (len : Int) := by omega
  go_enter Try.func22, Try.ntmps22
  go_wp2
  go_loop [7, 8] (fun z i => ∃ k : Nat, k ≤ len ∧ i = .int .i64 k ∧ ∃ q : Int, 0 ≤ q ∧ q ≤ 1048576 ∧ z = .int .i64 q) (fun _ i => len - (intOf i).toNat)
  case atStart => exact ⟨0, Nat.zero_le _, rfl, len, by omega, by omega, rfl⟩
  case round =>
    obtain ⟨k, hk, rfl, q, hq1, hq2, rfl⟩ := hrel
    by_cases hlt : k < len
    · obtain ⟨b, off, ha, hb, h1, h2, h3, h4⟩ := HP.out k hlt
      subst ha
      unfold maxLen at h3 h4
      generalize N k = nk at h1 h3
      generalize V k = vk at h2 h4
      go_wp2
      all_goals first
        | (go_ret; exact ⟨⟨_, rfl⟩, rfl⟩)
        | (go_round
           case rel => exact ⟨k + 1, by omega, by go_num, _, by omega, by omega, rfl⟩
           case measure => simp [intOf]; omega)
    · go_wp2
      all_goals (go_ret; exact ⟨⟨_, rfl⟩, rfl⟩)

set_option maxHeartbeats 1000000 in
theorem bytes_any (a : Option Addr) (len cap : Nat) (N V : Nat → ByteArray) (w : World) (hl : len ≤ maxLen) (hp : Pairs w a len N V) :
    Calls Try.prog 18 #[.slice a len cap] w fun e w' => IsN e ∧ w = w' := by
  unfold maxLen at hl
  have HP : Hid (Pairs w a len N V) := hp
  clear hp
  go_enter Try.func18, Try.ntmps18
  go_wp2
  go_loop [3, 4] (fun z i => ∃ k : Nat, k ≤ len ∧ i = .int .i64 k ∧ ∃ q : Int, 0 ≤ q ∧ q ≤ 1048576 ∧ z = .int .i64 q) (fun _ i => len - (intOf i).toNat)
  case atStart => exact ⟨0, Nat.zero_le _, rfl, 0, by omega, by omega, rfl⟩
  case round =>
    obtain ⟨k, hk, rfl, q, hq1, hq2, rfl⟩ := hrel
    by_cases hlt : k < len
    · obtain ⟨b, off, ha, hb, h1, h2, h3, h4⟩ := HP.out k hlt
      subst ha
      unfold maxLen at h3 h4
      generalize N k = nk at h1 h3
      generalize V k = vk at h2 h4
      by_cases hn : 1048576 < (nk.size : Int)
      · go_wp2
        go_ret
        exact ⟨⟨_, by omega, by omega, rfl⟩, rfl⟩
      by_cases hv : 1048576 < (vk.size : Int)
      · go_wp2
        go_ret
        exact ⟨⟨_, by omega, by omega, rfl⟩, rfl⟩
      go_wp2
      all_goals first
        | (go_ret; exact ⟨⟨_, by omega, by omega, rfl⟩, rfl⟩)
        | (go_round
           case rel => exact ⟨k + 1, by omega, by go_num, _, by omega, by omega, rfl⟩
           case measure => simp [intOf]; omega)
    · go_wp2
      go_ret
      exact ⟨⟨_, by omega, by omega, rfl⟩, rfl⟩
end Go.Proofs.Qxb6605670a.Msg
