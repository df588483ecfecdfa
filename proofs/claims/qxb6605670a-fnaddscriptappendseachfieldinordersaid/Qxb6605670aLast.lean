import Derived.Test.Qxb6605670aAdd
namespace Go.Proofs.Qxb6605670a.Msg
open Go.ChangeShapes Go.WideShapes Go.ChangeAt Go.RowKit
set_option linter.unusedVariables false

/-- what 'toFields' answers: nil or a row of its own -/
def IsF (w w' : World) (len : Nat) (N V : Nat → ByteArray) (e : Ending) : Prop :=
  ∃ vo vc, e = .returned (.slice vo len vc) ∧ w'.ownsRow w.heap.size 44 2 (.slice vo len vc) len (flat N V len) ∧ Below w.heap.size w w'

theorem fields_any (a : Option Addr) (len cap : Nat) (N V : Nat → ByteArray) (w : World) (hnil : a = none → len = 0 ∧ cap = 0) (hl : len ≤ 1048576) (hp : Pairs w a len N V) :
    Calls Try.prog 20 #[.slice a len cap] w fun e w' => IsF w w' len N V e := by
  rcases a with _ | x
  · obtain ⟨rfl, rfl⟩ := hnil rfl
    refine (fields_nil w).mono ?_
    rintro e w' ⟨rfl, rfl⟩
    exact ⟨none, 0, rfl, World.ownsRow_nil _ _ _ _, Below.refl _ _⟩
  · refine (fields_row x len cap N V w hl hp).mono ?_
    rintro e w' ⟨rfl, h1, h2⟩
    exact ⟨_, _, rfl, h1, h2⟩

/-- the list with one more -/
def ext (N : Nat → ByteArray) (n : Nat) (s : ByteArray) (i : Nat) : ByteArray := if i < n then N i else s

theorem ext_lt {N : Nat → ByteArray} {n : Nat} {s : ByteArray} {i : Nat} (h : i < n) : ext N n s i = N i := if_pos h
theorem ext_at {N : Nat → ByteArray} {n : Nat} {s : ByteArray} : ext N n s n = s := if_neg (by omega)

theorem flat_ext (N V : Nat → ByteArray) (n : Nat) (s t : ByteArray) : flat N V n ++ [.string s, .string t] = flat (ext N n s) (ext V n t) (n + 1) := by
  apply List.ext_getElem?
  intro j
  have hl := flat_len N V n
  by_cases h1 : j < 2 * n
  · rw [List.getElem?_append_left (by omega)]
    have h2 : j / 2 < n := by omega
    simp [flat, h1, (by omega : j < 2 * (n + 1)), pc, ext_lt h2]
  · rw [List.getElem?_append_right (by omega), hl]
    by_cases h2 : j = 2 * n
    · subst h2
      simp [flat, (by omega : 2 * n < 2 * (n + 1)), pc, ext_at, (by omega : 2 * n - n * 2 = 0)]
    · by_cases h3 : j = 2 * n + 1
      · subst h3
        have e : (2 * n + 1) / 2 = n := by omega
        simp [flat, (by omega : 2 * n + 1 < 2 * (n + 1)), pc, ext_at, (by omega : 2 * n + 1 - n * 2 = 1), e]
      · rw [List.getElem?_eq_none (by simp; omega), List.getElem?_eq_none (by simp [flat]; omega)]

/-- the row at block g holds n pairs -/
def RowP (w : World) (g n : Nat) (M W : Nat → ByteArray) : Prop := ∀ i, i < n → w.cell? ⟨g, i * 2, none⟩ = some (.string (M i)) ∧ w.cell? ⟨g, i * 2 + 1, none⟩ = some (.string (W i))

theorem rowP_of {w : World} {B g n cap : Nat} {M W : Nat → ByteArray} (h : w.ownsRow B 44 2 (.slice (some ⟨g, 0, none⟩) n cap) n (flat M W n)) : RowP w g n M W := by
  intro i hi
  have e1 : (i * 2 + 1) / 2 = i := by omega
  have e2 : (i * 2) / 2 = i := by omega
  have e3 : (i * 2 + 1) % 2 = 1 := by omega
  refine ⟨?_, ?_⟩
  · rw [h.cellAt (i * 2) (by omega)]
    simp [flat, (by omega : i * 2 < 2 * n), pc]
  · rw [h.cellAt (i * 2 + 1) (by omega)]
    simp [flat, (by omega : i * 2 + 1 < 2 * n), pc, e1, e3]

/-- how many of the first q are the key -/
def cntN (f : Nat → ByteArray) (key : ByteArray) : Nat → Int
  | 0 => 0
  | q + 1 => cntN f key q + if ((f q).toList == key.toList) = true then 1 else 0

theorem cntN_le (f : Nat → ByteArray) (key : ByteArray) : ∀ q, 0 ≤ cntN f key q ∧ cntN f key q ≤ q
  | 0 => by simp [cntN]
  | q + 1 => by
    have := cntN_le f key q
    simp only [cntN]
    split <;> omega

theorem cntN_yes {f : Nat → ByteArray} {key x : ByteArray} {q : Nat} (hx : f q = x) (h : (x.toList == key.toList) = true) : cntN f key (q + 1) = cntN f key q + 1 := by
  simp only [cntN, hx, h, if_true]
theorem cntN_no {f : Nat → ByteArray} {key x : ByteArray} {q : Nat} (hx : f q = x) (h : (x.toList == key.toList) = false) : cntN f key (q + 1) = cntN f key q := by
  simp [cntN, hx, h]

theorem cntN_congr (f g : Nat → ByteArray) (key : ByteArray) : ∀ q, (∀ i, i < q → f i = g i) → cntN f key q = cntN g key q
  | 0, _ => rfl
  | q + 1, h => by
    simp only [cntN]
    rw [cntN_congr f g key q (fun i hi => h i (by omega)), h q (by omega)]

theorem beq_turn (x y : ByteArray) : (x.toList == y.toList) = (y.toList == x.toList) := by
  rw [Bool.eq_iff_iff, beq_iff_eq, beq_iff_eq]; exact eq_comm

theorem cntN_ext_yes (N : Nat → ByteArray) (n : Nat) (s key : ByteArray) (h : (key.toList == s.toList) = true) : cntN (ext N n s) key (n + 1) = cntN N key n + 1 := by
  rw [cntN_yes ext_at (by rw [beq_turn]; exact h), cntN_congr (ext N n s) N key n (fun i hi => ext_lt hi)]
theorem cntN_ext_no (N : Nat → ByteArray) (n : Nat) (s key : ByteArray) (h : (key.toList == s.toList) = false) : cntN (ext N n s) key (n + 1) = cntN N key n := by
  rw [cntN_no ext_at (by rw [beq_turn]; exact h), cntN_congr (ext N n s) N key n (fun i hi => ext_lt hi)]

/-- v is the first index from k on (below n) at which f is the key, or -1 -/
def First (f : Nat → ByteArray) (key : ByteArray) (n k : Nat) (v : Int) : Prop :=
  (v = -1 ∧ ∀ i, k ≤ i → i < n → ((f i).toList == key.toList) = false) ∨
  ∃ m : Nat, v = m ∧ k ≤ m ∧ m < n ∧ ((f m).toList == key.toList) = true ∧ ∀ i, k ≤ i → i < m → ((f i).toList == key.toList) = false

theorem First.start (f : Nat → ByteArray) (key : ByteArray) (n : Nat) : First f key n n (-1) := .inl ⟨rfl, fun i h1 h2 => by omega⟩
theorem First.yes {f : Nat → ByteArray} {key x : ByteArray} {n k : Nat} (hk : k < n) (hx : f k = x) (h : (x.toList == key.toList) = true) : First f key n k k :=
  .inr ⟨k, rfl, Nat.le_refl _, hk, by rw [hx]; exact h, fun i h1 h2 => by omega⟩
theorem First.no {f : Nat → ByteArray} {key x : ByteArray} {n k : Nat} {v : Int} (hf : First f key n (k + 1) v) (hx : f k = x) (h : (x.toList == key.toList) = false) : First f key n k v := by
  have hk : ((f k).toList == key.toList) = false := by rw [hx]; exact h
  rcases hf with ⟨rfl, h1⟩ | ⟨m, rfl, h1, h2, h3, h4⟩
  · refine .inl ⟨rfl, fun i g1 g2 => ?_⟩
    by_cases e : i = k
    · subst e; exact hk
    · exact h1 i (by omega) g2
  · refine .inr ⟨m, rfl, by omega, h2, h3, fun i g1 g2 => ?_⟩
    by_cases e : i = k
    · subst e; exact hk
    · exact h4 i (by omega) g2

theorem First.fin {N : Nat → ByteArray} {n : Nat} {s : ByteArray} {v v' : Int} (h : First N s n 0 v) (h' : First (ext N n s) s (n + 1) 0 v') : (v = -1 ∧ v' = n) ∨ ∃ m : Nat, m < n ∧ v = m ∧ v' = m := by
  rcases h' with ⟨_, h1⟩ | ⟨m', rfl, _, g2, g3, g4⟩
  · have := h1 n (by omega) (by omega)
    rw [ext_at] at this
    simp at this
  · rcases h with ⟨rfl, h1⟩ | ⟨m, rfl, _, k2, k3, k4⟩
    · refine .inl ⟨rfl, ?_⟩
      by_cases e : m' < n
      · rw [ext_lt e, h1 m' (by omega) e] at g3
        simp at g3
      · omega
    · refine .inr ⟨m, k2, rfl, ?_⟩
      by_cases e : m < m'
      · have := g4 m (by omega) e
        rw [ext_lt k2, k3] at this
        simp at this
      · by_cases e2 : m' < m
        · have := k4 m' (by omega) e2
          rw [ext_lt (by omega), this] at g3
          simp at g3
        · omega

set_option maxHeartbeats 2000000 in
set_option maxRecDepth 100000 in
theorem last_any (a : Option Addr) (len cap : Nat) (N V : Nat → ByteArray) (s t : ByteArray) (w : World) (hnil : a = none → len = 0 ∧ cap = 0) (hl : len ≤ maxLen) (hs : s.size ≤ maxLen) (ht : t.size ≤ maxLen) (hp : Pairs w a len N V) :
    Calls Try.prog 8 #[.slice a len cap, .string s, .string t] w fun e w' => e = .returned (.bool true) ∧ Below w.heap.size w w' := by
  have HP : Hid (Pairs w a len N V) := hp
  have HNil : Hid (a = none → len = 0 ∧ cap = 0) := hnil
  have C22 : Hid _ := zz22_any a len cap N V s t w hl hs ht hp
  have C18 : Hid _ := bytes_any a len cap N V w hl hp
  clear hp hnil
  unfold maxLen at hl hs ht
  have C22' : Hid (Calls Try.prog 22 #[.slice a len cap, .string s, .string t] w fun e w' => IsB e ∧ w = w') := C22
  have C18' : Hid (Calls Try.prog 18 #[.slice a len cap] w fun e w' => IsN e ∧ w = w') := C18
  clear C22 C18
  by_cases hlen : 4096 < len
  · have hi : (4096 : Int) < (len : Int) := by omega
    go_enter Try.func8, Try.ntmps8
    go_wp2_with (go_at_call 22; refine C22'.out.mono ?_; rintro e w' ⟨⟨b, rfl⟩, rfl⟩)
    all_goals (go_ret; exact ⟨rfl, Below.refl _ _⟩)
  have hi : ¬ (4096 : Int) < (len : Int) := by omega
  by_cases hs2 : 1048576 < (s.size : Int)
  · go_enter Try.func8, Try.ntmps8
    go_wp2_with (go_at_call 22; refine C22'.out.mono ?_; rintro e w' ⟨⟨b, rfl⟩, rfl⟩)
    all_goals (go_ret; exact ⟨rfl, Below.refl _ _⟩)
  by_cases ht2 : 1048576 < (t.size : Int)
  · go_enter Try.func8, Try.ntmps8
    go_wp2_with (go_at_call 22; refine C22'.out.mono ?_; rintro e w' ⟨⟨b, rfl⟩, rfl⟩)
    all_goals (go_ret; exact ⟨rfl, Below.refl _ _⟩)
  go_enter Try.func8, Try.ntmps8
  go_wp2_with fail
  refine C22'.out.mono ?_
  rintro e w' ⟨⟨b, rfl⟩, rfl⟩
  cases b
  · go_wp2
    go_ret
    exact ⟨rfl, Below.refl _ _⟩
  · go_wp2_with fail
    refine C18'.out.mono ?_
    rintro e w' ⟨⟨r, hr0, hr1, rfl⟩, rfl⟩
    by_cases hr : 1048576 < r + (s.size : Int) + (t.size : Int)
    · go_wp2
      go_ret
      exact ⟨rfl, Below.refl _ _⟩
    go_wp2_with fail
    refine (fields_any a len cap N V w HNil.out (by omega) HP.out).mono ?_
    rintro e w1 ⟨vo, vc, rfl, hown, hbel⟩
    go_wp2_with fail
    refine (add_any w.heap.size w1.heap.size len _ _ _ _ _ _ (flat N V len) s t _ hbel.size ⟨heap_alloc_new w1 _, hown.alloc _⟩ (by omega)).mono ?_
    rintro e w2 ⟨rfl, g, cap2, ⟨hm, hown2⟩, hbel2⟩
    rw [flat_ext] at hown2
    have hmc : w2.cell? ⟨w1.heap.size, 4, none⟩ = some (.slice (some ⟨g, 0, none⟩) (len + 1) cap2) := by rw [cell_of_row w2 _ 4 _ 39 _ hm]; rfl
    have HR : Hid (RowP w2 g (len + 1) (ext N len s) (ext V len t)) := rowP_of hown2
    have hB : Below w.heap.size w w2 := (hbel.alloc hbel.size _).trans hbel2
    have HP2 : Hid (Pairs w2 a len N V) := HP.out.below hB (Nat.le_refl _)
    have HB : Hid (Below w.heap.size w w2) := hB
    clear hm hown2 hbel2 hB hown hbel HP C18' C22' hr hr0 hr1 hs2 ht2 hs ht hl
    go_wp2
    go_loop [9] (fun i => ∃ k : Nat, k ≤ len + 1 ∧ i = .int .i64 k) (fun i => len + 1 - (intOf i).toNat)
    case atStart => exact ⟨0, Nat.zero_le _, rfl⟩
    case round =>
      obtain ⟨k, hk, rfl⟩ := hrel
      by_cases hlt : k ≤ len
      · obtain ⟨hc1, hc2⟩ := HR.out k (by omega)
        clear hc2
        have hlt' : (k : Int) < (len : Int) + 1 := by omega
        generalize ext N len s k = key at hc1
        go_wp2
        go_loop [11, 12] (fun c i => ∃ q : Nat, q ≤ len ∧ i = .int .i64 q ∧ c = .int .i64 (cntN N key q)) (fun _ i => len - (intOf i).toNat)
        case atStart => exact ⟨0, Nat.zero_le _, rfl, rfl⟩
        case round =>
          obtain ⟨q, hq, rfl, rfl⟩ := hrel
          have hcl := cntN_le N key q
          by_cases hql : q < len
          · obtain ⟨b, off, rfl, hb, h1, h2, h3, h4⟩ := HP2.out q hql
            clear h2 h3 h4
            obtain ⟨nq, hnq⟩ : ∃ x, N q = x := ⟨_, rfl⟩
            rw [hnq] at h1
            cases he : (nq.toList == key.toList)
            · have HC : Hid (cntN N key (q + 1) = cntN N key q) := cntN_no hnq he
              clear hnq
              go_wp2
              go_round
              case rel => exact ⟨q + 1, by omega, by go_num, by rw [HC.out]⟩
              case measure => simp [intOf]; omega
            · have HC : Hid (cntN N key (q + 1) = cntN N key q + 1) := cntN_yes hnq he
              clear hnq
              go_wp2
              go_round
              case rel => exact ⟨q + 1, by omega, by go_num, by rw [HC.out]⟩
              case measure => simp [intOf]; omega
          · have e : len = q := by omega
            subst e
            go_wp2
            go_loop [13, 14] (fun c i => ∃ q : Nat, q ≤ len + 1 ∧ i = .int .i64 q ∧ c = .int .i64 (cntN (ext N len s) key q)) (fun _ i => len + 1 - (intOf i).toNat)
            case atStart => exact ⟨0, Nat.zero_le _, rfl, rfl⟩
            case round =>
              obtain ⟨q, hq, rfl, rfl⟩ := hrel
              have hcl2 := cntN_le (ext N len s) key q
              by_cases hql : q ≤ len
              · obtain ⟨h1, h2⟩ := HR.out q (by omega)
                clear h2
                have hql' : (q : Int) < (len : Int) + 1 := by omega
                obtain ⟨nq, hnq⟩ : ∃ x, ext N len s q = x := ⟨_, rfl⟩
                rw [hnq] at h1
                cases he : (nq.toList == key.toList)
                · have HC : Hid (cntN (ext N len s) key (q + 1) = cntN (ext N len s) key q) := cntN_no hnq he
                  clear hnq
                  go_wp2
                  go_round
                  case rel => exact ⟨q + 1, by omega, by go_num, by rw [HC.out]⟩
                  case measure => simp [intOf]; omega
                · have HC : Hid (cntN (ext N len s) key (q + 1) = cntN (ext N len s) key q + 1) := cntN_yes hnq he
                  clear hnq
                  go_wp2
                  go_round
                  case rel => exact ⟨q + 1, by omega, by go_num, by rw [HC.out]⟩
                  case measure => simp [intOf]; omega
              · have e : q = len + 1 := by omega
                subst e
                clear hcl2 hql hq
                cases he : (key.toList == s.toList)
                · rw [cntN_ext_no N len s key he]
                  generalize cntN N key len = c at hcl
                  go_wp2
                  go_round
                  case rel => exact ⟨k + 1, by omega, by go_num⟩
                  case measure => simp [intOf]; omega
                · rw [cntN_ext_yes N len s key he]
                  generalize cntN N key len = c at hcl
                  go_wp2
                  go_round
                  case rel => exact ⟨k + 1, by omega, by go_num⟩
                  case measure => simp [intOf]; omega
      · go_wp2
        clear hk hlt
        go_loop [16, 17] (fun v i => ∃ k : Nat, k ≤ len + 1 ∧ i = .int .i64 k ∧ ∃ q : Int, v = .int .i64 q ∧ (k = len + 1 → q = len)) (fun _ i => len + 1 - (intOf i).toNat)
        case atStart => exact ⟨0, Nat.zero_le _, rfl, -1, rfl, fun h => by omega⟩
        case round =>
          obtain ⟨k, hk, rfl, q, rfl, hq⟩ := hrel
          by_cases hlt : k ≤ len
          · obtain ⟨h1, h2⟩ := HR.out k (by omega)
            clear h2
            have hlt' : (k : Int) < (len : Int) + 1 := by omega
            obtain ⟨nq, hnq⟩ : ∃ x, ext N len s k = x := ⟨_, rfl⟩
            rw [hnq] at h1
            cases he : (nq.toList == s.toList)
            · have HQ : Hid (¬ k = len) := by
                intro e
                rw [e, ext_at] at hnq
                rw [← hnq] at he
                simp at he
              clear hnq hq
              go_wp2
              go_round
              case rel => exact ⟨k + 1, by omega, by go_num, q, rfl, fun h => absurd (by omega) HQ.out⟩
              case measure => simp [intOf]; omega
            · clear hnq hq
              go_wp2
              go_round
              case rel => exact ⟨k + 1, by omega, by go_num, k, rfl, fun h => by omega⟩
              case measure => simp [intOf]; omega
          · have hq' := hq (by omega)
            subst hq'
            obtain ⟨h1, h2⟩ := HR.out len (by omega)
            rw [ext_at] at h2
            clear h1 hq
            have hlt' : (len : Int) < (len : Int) + 1 := by omega
            go_wp2
            clear hk hlt h2 hlt'
            go_loop [18, 19] (fun v i => ∃ k : Nat, k ≤ len ∧ i = .int .i64 ((k : Int) - 1) ∧ ∃ q : Int, v = .int .i64 q ∧ First N s len k q) (fun _ i => (intOf i + 1).toNat)
            case atStart => exact ⟨len, Nat.le_refl _, rfl, -1, rfl, First.start _ _ _⟩
            case round =>
              obtain ⟨k, hk, rfl, q, rfl, hq⟩ := hrel
              have HQ : Hid (First N s len k q) := hq
              clear hq
              rcases k with _ | k
              · have e0 : (((0 : Nat) : Int) - 1) = -1 := by omega
                rw [e0]
                clear e0 hk
                go_wp2
                go_loop [20, 21] (fun v i => ∃ k : Nat, k ≤ len + 1 ∧ i = .int .i64 ((k : Int) - 1) ∧ ∃ q : Int, v = .int .i64 q ∧ First (ext N len s) s (len + 1) k q) (fun _ i => (intOf i + 1).toNat)
                case atStart => exact ⟨len + 1, Nat.le_refl _, by congr 1; omega, -1, rfl, First.start _ _ _⟩
                case round =>
                  obtain ⟨k, hk, rfl, q', rfl, hq'⟩ := hrel
                  rcases k with _ | k
                  · have e0 : (((0 : Nat) : Int) - 1) = -1 := by omega
                    rw [e0]
                    rcases First.fin HQ.out hq' with ⟨rfl, rfl⟩ | ⟨m, hm, rfl, rfl⟩
                    · clear e0 hk hq'
                      go_wp2
                      go_ret
                      exact ⟨rfl, HB⟩
                    · obtain ⟨g1, g2⟩ := HR.out m (by omega)
                      rw [ext_lt hm] at g2
                      obtain ⟨b, off, rfl, hb, h1, h2, h3, h4⟩ := HP2.out m hm
                      generalize V m = vm at g2 h2
                      have hm1 : (m : Int) < (len : Int) + 1 := by omega
                      have hm2 : (m : Int) < (len : Int) := by omega
                      have hm3 : (0 : Int) ≤ (m : Int) := by omega
                      clear e0 hk hq' g1 h1 h3 h4
                      go_wp2
                      go_quiet (fail)
                      go_wp2
                      go_ret
                      exact ⟨rfl, below_drewN HB.out _⟩
                  · have e0 : (((k + 1 : Nat) : Int) - 1) = (k : Int) := by omega
                    rw [e0]
                    have HQ' : Hid (First (ext N len s) s (len + 1) (k + 1) q') := hq'
                    obtain ⟨h1, h2⟩ := HR.out k (by omega)
                    have hlt' : (k : Int) < (len : Int) + 1 := by omega
                    obtain ⟨nq, hnq⟩ : ∃ x, ext N len s k = x := ⟨_, rfl⟩
                    rw [hnq] at h1
                    clear h2 hq'
                    cases he : (nq.toList == s.toList)
                    · have HF : Hid (First (ext N len s) s (len + 1) k q') := HQ'.out.no hnq he
                      clear hnq e0
                      go_wp2
                      go_round
                      case rel => exact ⟨k, by omega, rfl, q', rfl, HF⟩
                      case measure => simp [intOf]
                    · have HF : Hid (First (ext N len s) s (len + 1) k k) := First.yes (by omega) hnq he
                      clear hnq e0
                      go_wp2
                      go_round
                      case rel => exact ⟨k, by omega, rfl, k, rfl, HF⟩
                      case measure => simp [intOf]
              · have e0 : (((k + 1 : Nat) : Int) - 1) = (k : Int) := by omega
                rw [e0]
                obtain ⟨b, off, rfl, hb, h1, h2, h3, h4⟩ := HP2.out k (by omega)
                clear h2 h3 h4
                obtain ⟨nq, hnq⟩ : ∃ x, N k = x := ⟨_, rfl⟩
                rw [hnq] at h1
                cases he : (nq.toList == s.toList)
                · have HF : Hid (First N s len k q) := HQ.out.no hnq he
                  clear hnq e0
                  go_wp2
                  go_round
                  case rel => exact ⟨k, by omega, rfl, q, rfl, HF⟩
                  case measure => simp [intOf]
                · have HF : Hid (First N s len k k) := First.yes (by omega) hnq he
                  clear hnq e0
                  go_wp2
                  go_round
                  case rel => exact ⟨k, by omega, rfl, k, rfl, HF⟩
                  case measure => simp [intOf]
end Go.Proofs.Qxb6605670a.Msg
