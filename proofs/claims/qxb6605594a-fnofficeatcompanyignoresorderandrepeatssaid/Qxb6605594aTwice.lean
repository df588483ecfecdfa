import Derived.Test.Qxb6605594aBits
namespace Go.Proofs.Qxb6605594a.Office
open Go.ChangeShapes Go.WideShapes Go.ChangeAt Go.RowKit
set_option linter.unusedVariables false

theorem zz14_yes (a : Option Addr) (len cap : Nat) (w : World) (h : len ≤ 1048576) :
    Calls Try.prog 14 #[.slice a len cap] w fun e w' => e = .returned (.bool true) ∧ w = w' := by
  have h1 : ¬ (1048576 : Int) < (len : Int) := by omega
  go_enter Try.func14, Try.ntmps14
  go_wp2
  go_ret
  exact ⟨rfl, rfl⟩

theorem zz14_no (a : Option Addr) (len cap : Nat) (w : World) (h : 1048576 < len) :
    Calls Try.prog 14 #[.slice a len cap] w fun e w' => e = .returned (.bool false) ∧ w = w' := by
  have h1 : (1048576 : Int) < (len : Int) := by omega
  go_enter Try.func14, Try.ntmps14
  go_wp2
  go_ret
  exact ⟨rfl, rfl⟩

/-- the row at block g holds the numbers l -/
def RowAt (w : World) (g : Nat) (l : List Int) : Prop := ∀ j, j < l.length → w.cell? ⟨g, j, none⟩ = some (.int .u8 (l.getD j 0))

theorem RowAt.below {w w' : World} {B g : Nat} {l : List Int} (h : RowAt w g l) (hb : Below B w w') (hg : g < B) : RowAt w' g l :=
  fun j hj => (hb.cell (p := ⟨g, j, none⟩) hg).trans (h j hj)

/-- the list turned round, then the list: after i rounds -/
def tw (l : List Int) (i : Nat) (j : Nat) : Int := if j < i then l.getD (l.length - 1 - j) 0 else if l.length ≤ j ∧ j < l.length + i then l.getD (j - l.length) 0 else 0
def twice (l : List Int) (i : Nat) : List Int := (List.range (2 * l.length)).map (tw l i)
theorem twice_len (l : List Int) (i : Nat) : (twice l i).length = 2 * l.length := by simp [twice]

theorem twice_start (l : List Int) : (twice l 0).map (Value.int .u8) = List.replicate (2 * l.length) (.int .u8 0) := by
  apply List.ext_getElem?
  intro j
  by_cases hj : j < 2 * l.length
  · have h2 : tw l 0 j = 0 := by unfold tw; rw [if_neg (by omega), if_neg (by omega)]
    simp [twice, hj, h2]
  · simp [twice, hj]

theorem twice_step (l : List Int) (i : Nat) (hi : i < l.length) :
    (((twice l i).map (Value.int .u8)).set i (.int .u8 (l.getD (l.length - 1 - i) 0))).set (l.length + i) (.int .u8 (l.getD i 0)) = (twice l (i + 1)).map (Value.int .u8) := by
  apply List.ext_getElem?
  intro j
  by_cases hj : j < 2 * l.length
  · by_cases h1 : j = l.length + i
    · subst h1
      rw [List.getElem?_set_self (by simp [twice]; omega)]
      have : tw l (i + 1) (l.length + i) = l.getD i 0 := by
        unfold tw
        rw [if_neg (by omega), if_pos (by omega), show l.length + i - l.length = i by omega]
      simp [twice, hj, this]
    · rw [List.getElem?_set_ne (by omega)]
      by_cases h2 : j = i
      · subst h2
        rw [List.getElem?_set_self (by simp [twice]; omega)]
        have : tw l (j + 1) j = l.getD (l.length - 1 - j) 0 := by
          unfold tw
          rw [if_pos (by omega)]
        simp [twice, hj, this]
      · rw [List.getElem?_set_ne (by omega)]
        have : tw l (i + 1) j = tw l i j := by
          unfold tw
          by_cases h3 : j < i
          · rw [if_pos (by omega), if_pos h3]
          · rw [if_neg (by omega), if_neg h3]
            by_cases h4 : l.length ≤ j ∧ j < l.length + i
            · rw [if_pos (by omega), if_pos h4]
            · rw [if_neg (by omega), if_neg h4]
        simp [twice, hj, this]
  · rw [List.getElem?_eq_none (by simp [twice]; omega), List.getElem?_eq_none (by simp [twice]; omega)]

theorem hasB_iff (l : List Int) (o : Int) : hasB l o = true ↔ ∃ j, j < l.length ∧ l.getD j 0 = o := by
  unfold hasB
  rw [List.any_eq_true]
  constructor
  · rintro ⟨x, hx, he⟩
    obtain ⟨i, hi, rfl⟩ := List.getElem_of_mem hx
    exact ⟨i, hi, by simpa [List.getElem?_eq_getElem hi] using he⟩
  · rintro ⟨j, hj, he⟩
    refine ⟨l[j], List.getElem_mem hj, ?_⟩
    simpa [List.getElem?_eq_getElem hj] using he

theorem twice_getD (l : List Int) (i j : Nat) (hj : j < 2 * l.length) : (twice l i).getD j 0 = tw l i j := by
  simp [twice, hj]

theorem hasB_twice (l : List Int) (o : Int) : hasB (twice l l.length) o = hasB l o := by
  rw [Bool.eq_iff_iff, hasB_iff, hasB_iff]
  constructor
  · rintro ⟨j, hj, he⟩
    rw [twice_len] at hj
    rw [twice_getD l _ j hj] at he
    unfold tw at he
    by_cases h : j < l.length
    · rw [if_pos h] at he; exact ⟨_, by omega, he⟩
    · rw [if_neg h, if_pos (by omega)] at he; exact ⟨_, by omega, he⟩
  · rintro ⟨j, hj, he⟩
    refine ⟨l.length + j, by rw [twice_len]; omega, ?_⟩
    rw [twice_getD l _ _ (by omega)]
    unfold tw
    rw [if_neg (by omega), if_pos (by omega), show l.length + j - l.length = j by omega]
    exact he

/-- one or none -/
def b2i (b : Bool) : Int := if b then 1 else 0
theorem b2i_le (b : Bool) : 0 ≤ b2i b ∧ b2i b ≤ 1 := by cases b <;> decide
/-- how many of the three offices are in the list -/
def dist (l : List Int) : Int := b2i (hasB l 1) + b2i (hasB l 2) + b2i (hasB l 3)
theorem dist_le (l : List Int) : 0 ≤ dist l ∧ dist l ≤ 3 := by
  have h1 := b2i_le (hasB l 1); have h2 := b2i_le (hasB l 2); have h3 := b2i_le (hasB l 3)
  unfold dist; omega
/-- how many numbers below k are in the list (of which all lie in 1 to 3) -/
def cnt (l : List Int) (k : Nat) : Int := (if 1 < k then b2i (hasB l 1) else 0) + (if 2 < k then b2i (hasB l 2) else 0) + (if 3 < k then b2i (hasB l 3) else 0)
theorem cnt_le (l : List Int) (k : Nat) : 0 ≤ cnt l k ∧ cnt l k ≤ 3 := by
  have h1 := b2i_le (hasB l 1); have h2 := b2i_le (hasB l 2); have h3 := b2i_le (hasB l 3)
  unfold cnt; split <;> split <;> split <;> omega
theorem cnt_end (l : List Int) : cnt l 256 = dist l := by simp [cnt, dist]
theorem cnt_step (l : List Int) (k : Nat) (h : ∀ o : Int, ¬ (1 ≤ o ∧ o ≤ 3) → hasB l o = false) : cnt l (k + 1) = cnt l k + b2i (hasB l k) := by
  by_cases h1 : k = 1
  · subst h1; simp [cnt]
  by_cases h2 : k = 2
  · subst h2; simp [cnt]
  by_cases h3 : k = 3
  · subst h3; simp [cnt]
  rw [h k (by omega)]
  have e1 : (1 < k + 1) = (1 < k) := by apply propext; omega
  have e2 : (2 < k + 1) = (2 < k) := by apply propext; omega
  have e3 : (3 < k + 1) = (3 < k) := by apply propext; omega
  simp only [cnt, e1, e2, e3]
  simp [b2i]

theorem dist_old (l : List Int) (j : Nat) (z : Int) (hj : j < l.length) (hz : l.getD j 0 = z) (h1 : 1 ≤ z) (h3 : z ≤ 3) (h : hasB (l.take j) z = true) : dist (l.take (j + 1)) = dist (l.take j) := by
  unfold dist
  rw [hasB_take_succ l j 1 hj, hasB_take_succ l j 2 hj, hasB_take_succ l j 3 hj, hz]
  rcases (by omega : z = 1 ∨ z = 2 ∨ z = 3) with rfl | rfl | rfl <;> simp [h]
theorem dist_new (l : List Int) (j : Nat) (z : Int) (hj : j < l.length) (hz : l.getD j 0 = z) (h1 : 1 ≤ z) (h3 : z ≤ 3) (h : hasB (l.take j) z = false) : dist (l.take (j + 1)) = dist (l.take j) + 1 := by
  unfold dist
  rw [hasB_take_succ l j 1 hj, hasB_take_succ l j 2 hj, hasB_take_succ l j 3 hj, hz]
  rcases (by omega : z = 1 ∨ z = 2 ∨ z = 3) with rfl | rfl | rfl <;> simp [h, b2i] <;> omega

/-- the array of marks at block S -/
structure Seen (w : World) (S : Nat) (b1 b2 b3 : Bool) : Prop where
  c1 : w.cell? ⟨S, 1, none⟩ = some (.bool b1)
  c2 : w.cell? ⟨S, 2, none⟩ = some (.bool b2)
  c3 : w.cell? ⟨S, 3, none⟩ = some (.bool b3)
  f1 : w.frozen? ⟨S, 1, none⟩ = false
  f2 : w.frozen? ⟨S, 2, none⟩ = false
  f3 : w.frozen? ⟨S, 3, none⟩ = false

theorem Seen.start (w : World) : Seen (w.alloc (.cells #[.bool false, .bool false, .bool false, .bool false] 36)) w.heap.size false false false := by
  constructor
  all_goals first | exact World.frozen?_alloc_new w _ _ _ | (rw [World.cell?_alloc_new]; rfl)

theorem Seen.set1 {w : World} {S : Nat} {b1 b2 b3 : Bool} (h : Seen w S b1 b2 b3) : Seen (w.setCell ⟨S, 1, none⟩ (.bool true)) S true b2 b3 :=
  ⟨World.cell?_setCell_same _ _ _ h.c1, (World.cell?_setCell_other _ _ _ _ (by simp)).trans h.c2, (World.cell?_setCell_other _ _ _ _ (by simp)).trans h.c3, by simpa using h.f1, by simpa using h.f2, by simpa using h.f3⟩
theorem Seen.set2 {w : World} {S : Nat} {b1 b2 b3 : Bool} (h : Seen w S b1 b2 b3) : Seen (w.setCell ⟨S, 2, none⟩ (.bool true)) S b1 true b3 :=
  ⟨(World.cell?_setCell_other _ _ _ _ (by simp)).trans h.c1, World.cell?_setCell_same _ _ _ h.c2, (World.cell?_setCell_other _ _ _ _ (by simp)).trans h.c3, by simpa using h.f1, by simpa using h.f2, by simpa using h.f3⟩
theorem Seen.set3 {w : World} {S : Nat} {b1 b2 b3 : Bool} (h : Seen w S b1 b2 b3) : Seen (w.setCell ⟨S, 3, none⟩ (.bool true)) S b1 b2 true :=
  ⟨(World.cell?_setCell_other _ _ _ _ (by simp)).trans h.c1, (World.cell?_setCell_other _ _ _ _ (by simp)).trans h.c2, World.cell?_setCell_same _ _ _ h.c3, by simpa using h.f1, by simpa using h.f2, by simpa using h.f3⟩

/-- what the marks say behind the first k of the list -/
def SeenTo (w : World) (S : Nat) (l : List Int) (k : Nat) : Prop := Seen w S (hasB (l.take k) 1) (hasB (l.take k) 2) (hasB (l.take k) 3)

/-- one mark read: what it says, and that it may be written -/
theorem SeenTo.at {w : World} {S : Nat} {l : List Int} {k : Nat} (h : SeenTo w S l k) (z : Nat) (h1 : 1 ≤ z) (h3 : z ≤ 3) : w.cell? ⟨S, z, none⟩ = some (.bool (hasB (l.take k) z)) ∧ w.frozen? ⟨S, z, none⟩ = false := by
  rcases (by omega : z = 1 ∨ z = 2 ∨ z = 3) with rfl | rfl | rfl
  · exact ⟨h.c1, h.f1⟩
  · exact ⟨h.c2, h.f2⟩
  · exact ⟨h.c3, h.f3⟩

theorem SeenTo.old {w : World} {S : Nat} {l : List Int} {k : Nat} (h : SeenTo w S l k) (z : Nat) (hk : k < l.length) (hz : l.getD k 0 = z) (h1 : 1 ≤ z) (h3 : z ≤ 3) (hh : hasB (l.take k) z = true) : SeenTo w S l (k + 1) := by
  unfold SeenTo at *
  rw [hasB_take_succ l k 1 hk, hasB_take_succ l k 2 hk, hasB_take_succ l k 3 hk, hz]
  rcases (by omega : z = 1 ∨ z = 2 ∨ z = 3) with rfl | rfl | rfl
  · have hh' : hasB (l.take k) 1 = true := hh
    simpa [hh'] using h
  · have hh' : hasB (l.take k) 2 = true := hh
    simpa [hh'] using h
  · have hh' : hasB (l.take k) 3 = true := hh
    simpa [hh'] using h

theorem SeenTo.new {w : World} {S : Nat} {l : List Int} {k : Nat} (h : SeenTo w S l k) (z : Nat) (hk : k < l.length) (hz : l.getD k 0 = z) (h1 : 1 ≤ z) (h3 : z ≤ 3) : SeenTo (w.setCell ⟨S, z, none⟩ (.bool true)) S l (k + 1) := by
  unfold SeenTo at *
  rw [hasB_take_succ l k 1 hk, hasB_take_succ l k 2 hk, hasB_take_succ l k 3 hk, hz]
  rcases (by omega : z = 1 ∨ z = 2 ∨ z = 3) with rfl | rfl | rfl
  · simpa using h.set1
  · simpa using h.set2
  · simpa using h.set3
end Go.Proofs.Qxb6605594a.Office
