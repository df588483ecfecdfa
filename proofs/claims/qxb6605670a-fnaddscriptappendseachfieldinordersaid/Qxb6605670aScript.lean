import Derived.Test.Qxb6605670aLast
import Derived.Test.Qxb6605670aClone
import Derived.Deep.RegionHeld3
import Derived.Lib.Builder
namespace Go.Proofs.Qxb6605670a.Msg
open Go.ChangeShapes Go.WideShapes Go.ChangeAt Go.RowKit
set_option linter.unusedVariables false

/-- the first n of N, then those of N' -/
def cat (N : Nat → ByteArray) (n : Nat) (N' : Nat → ByteArray) (i : Nat) : ByteArray := if i < n then N i else N' (i - n)
theorem cat_lt {N N' : Nat → ByteArray} {n i : Nat} (h : i < n) : cat N n N' i = N i := if_pos h
theorem cat_ge {N N' : Nat → ByteArray} {n i : Nat} : cat N n N' (n + i) = N' i := by
  unfold cat; rw [if_neg (by omega), show n + i - n = i by omega]

theorem flat_congr {M W M' W' : Nat → ByteArray} {n : Nat} (h : ∀ i, i < n → M i = M' i) (h' : ∀ i, i < n → W i = W' i) : flat M W n = flat M' W' n := by
  unfold flat
  refine List.map_congr_left fun j hj => ?_
  have : j / 2 < n := by have := List.mem_range.1 hj; omega
  unfold pc
  rw [h _ this, h' _ this]

theorem flat_snoc (M W : Nat → ByteArray) (n : Nat) : flat M W n ++ [.string (M n), .string (W n)] = flat M W (n + 1) := by
  rw [flat_ext]
  refine flat_congr (fun i hi => ?_) (fun i hi => ?_)
  · unfold ext; split
    · rfl
    · rw [show i = n by omega]
  · unfold ext; split
    · rfl
    · rw [show i = n by omega]

/-- a row of n pairs behind the slice vo -/
def RowO (w : World) (vo : Option Addr) (n : Nat) (M W : Nat → ByteArray) : Prop := ∀ i, i < n → ∃ g, vo = some ⟨g, 0, none⟩ ∧ g < w.heap.size ∧ w.cell? ⟨g, i * 2, none⟩ = some (.string (M i)) ∧ w.cell? ⟨g, i * 2 + 1, none⟩ = some (.string (W i))

theorem rowO_of {w : World} {B n vc : Nat} {vo : Option Addr} {M W : Nat → ByteArray} (h : w.ownsRow B 44 2 (.slice vo n vc) n (flat M W n)) : RowO w vo n M W := by
  intro i hi
  rcases h.2 with ⟨_, h0⟩ | ⟨g, cap, cur, hv, hg, hh, _⟩
  · omega
  · simp only [Value.slice.injEq] at hv
    obtain ⟨rfl, _, rfl⟩ := hv
    obtain ⟨h1, h2⟩ := rowP_of h i hi
    exact ⟨g, rfl, lt_of_block hh, h1, h2⟩

theorem RowO.below {w w' : World} {vo : Option Addr} {n B : Nat} {M W : Nat → ByteArray} (h : RowO w vo n M W) (hb : Below B w w') (hB : w.heap.size ≤ B) : RowO w' vo n M W := by
  intro i hi
  obtain ⟨g, e, h0, h1, h2⟩ := h i hi
  exact ⟨g, e, Nat.lt_of_lt_of_le h0 hb.size, (hb.cell (p := ⟨g, _, none⟩) (by simp; omega)).trans h1, (hb.cell (p := ⟨g, _, none⟩) (by simp; omega)).trans h2⟩

theorem added_cell {w w' : World} {B mb n b o : Nat} {c0 c1 c2 c3 c5 v : Value} {xs : List Value} {s t : ByteArray} (h : Added w.drew w' B mb c0 c1 c2 c3 c5 n xs s t) (hb : b < B) (hc : w.cell? ⟨b, o, none⟩ = some v) : w'.cell? ⟨b, o, none⟩ = some v := by
  obtain ⟨_, _, _, h2⟩ := h
  exact (h2.cell (p := ⟨b, o, none⟩) hb).trans hc

set_option maxHeartbeats 4000000 in
set_option maxRecDepth 100000 in
theorem script_any (s0 s1 s3 : ByteArray) (st : Int) (a4 : Option Addr) (len4 cap4 : Nat) (N4 V4 : Nat → ByteArray) (a5 : Option Addr) (len5 cap5 : Nat) (a6 : Option Addr) (len6 cap6 : Nat) (N6 V6 : Nat → ByteArray) (w : World)
    (h0 : s0.size ≤ maxLen) (h1 : s1.size ≤ maxLen) (h3 : s3.size ≤ maxLen) (h4 : len4 ≤ maxLen) (h5 : len5 ≤ maxLen) (h6 : len6 ≤ maxLen)
    (n4 : a4 = none → len4 = 0 ∧ cap4 = 0) (n5 : a5 = none → len5 = 0 ∧ cap5 = 0) (hp4 : Pairs w a4 len4 N4 V4) (hp5 : Bytes w a5 len5) (hp6 : Pairs w a6 len6 N6 V6) :
    Calls Try.prog 7 #[.string s0, .string s1, .int .i64 st, .string s3, .slice a4 len4 cap4, .slice a5 len5 cap5, .slice a6 len6 cap6] w fun e w' => e = .returned (.bool true) ∧ Below w.heap.size w w' := by
  have C17 : Hid (Calls Try.prog 17 #[.string s0, .string s1, .int .i64 st, .string s3, .slice a4 len4 cap4, .slice a5 len5 cap5, .slice a6 len6 cap6] w fun e w' => IsB e ∧ w = w') :=
    zz17_any s0 s1 s3 st a4 len4 cap4 N4 V4 a5 len5 cap5 a6 len6 cap6 N6 V6 w h0 h1 h3 h4 h5 h6 hp4 hp6
  have C184 : Hid (Calls Try.prog 18 #[.slice a4 len4 cap4] w fun e w' => IsN e ∧ w = w') := bytes_any a4 len4 cap4 N4 V4 w h4 hp4
  have C186 : Hid (Calls Try.prog 18 #[.slice a6 len6 cap6] w fun e w' => IsN e ∧ w = w') := bytes_any a6 len6 cap6 N6 V6 w h6 hp6
  have HP4 : Hid (Pairs w a4 len4 N4 V4) := hp4
  have HP5 : Hid (Bytes w a5 len5) := hp5
  have HP6 : Hid (Pairs w a6 len6 N6 V6) := hp6
  have HN4 : Hid (a4 = none → len4 = 0 ∧ cap4 = 0) := n4
  have HN5 : Hid (a5 = none → len5 = 0 ∧ cap5 = 0) := n5
  clear hp4 hp5 hp6 n4 n5
  unfold maxLen at h0 h1 h3 h4 h5 h6
  go_enter Try.func7, Try.ntmps7
  go_wp2_with fail
  refine C17.out.mono ?_
  rintro e w' ⟨⟨b, rfl⟩, rfl⟩
  cases b
  · go_wp2
    go_ret
    exact ⟨rfl, Below.refl _ _⟩
  go_wp2_with fail
  all_goals first
    | (go_ret; exact ⟨rfl, Below.refl _ _⟩)
    | skip
  refine C184.out.mono ?_
  rintro e w' ⟨⟨r4, hr40, hr41, rfl⟩, rfl⟩
  go_wp2_with fail
  refine C186.out.mono ?_
  rintro e w' ⟨⟨r6, hr60, hr61, rfl⟩, rfl⟩
  go_wp2_with fail
  all_goals first
    | (go_ret; exact ⟨rfl, Below.refl _ _⟩)
    | skip
  have hsz : len4 ≤ 65536 ∧ len5 ≤ 1048576 ∧ len6 ≤ 65536 := by omega
  refine (clone_any a5 len5 cap5 w HN5.out (by omega) HP5.out).mono ?_
  rintro e w1 ⟨vo5, vc5, rfl, hv5, hv5', hb1⟩
  have HV5 : Hid (vo5 = none → len5 = 0) := hv5
  have HV5' : Hid (∀ x, vo5 = some x → ∃ g, x = ⟨g, 0, none⟩) := hv5'
  have HB1 : Hid (Below w.heap.size w w1) := hb1
  have HP4' : Hid (Pairs w1 a4 len4 N4 V4) := HP4.out.below hb1 (Nat.le_refl _)
  have HP6' : Hid (Pairs w1 a6 len6 N6 V6) := HP6.out.below hb1 (Nat.le_refl _)
  clear hv5 hv5' hb1 HP4 HP6 HP5 C17 C184 C186
  go_wp2_with fail
  refine (fields_any a4 len4 cap4 N4 V4 w1 HN4.out (by omega) HP4'.out).mono ?_
  rintro e w2 ⟨vo4, vc4, rfl, hown, hbel⟩
  have hM0 : IsMsg (w2.alloc (.cells #[.string s0, .string s1, .int .i64 st, .string s3, .slice vo4 len4 vc4, .slice vo5 len5 vc5] 39)) w1.heap.size w2.heap.size (.string s0) (.string s1) (.int .i64 st) (.string s3) (.slice vo5 len5 vc5) (.slice vo4 len4 vc4) len4 (flat (cat N4 len4 N6) (cat V4 len4 V6) len4) := by
    rw [← flat_congr (M := N4) (W := V4) (fun i hi => (cat_lt hi).symm) (fun i hi => (cat_lt hi).symm)]
    exact ⟨heap_alloc_new w2 _, hown.alloc _⟩
  have hB0 : Below w1.heap.size w1 (w2.alloc (.cells #[.string s0, .string s1, .int .i64 st, .string s3, .slice vo4 len4 vc4, .slice vo5 len5 vc5] 39)) := hbel.alloc hbel.size _
  have HM0 : Hid _ := hM0
  have HB0 : Hid _ := hB0
  have hmb : w1.heap.size ≤ w2.heap.size := hbel.size
  clear hM0 hB0 hown hbel
  go_wp2_with fail
  go_loopw [16] (fun i wr => ∃ k : Nat, k ≤ len6 ∧ i = .int .i64 k ∧ (∃ vo vc, IsMsg wr w1.heap.size w2.heap.size (.string s0) (.string s1) (.int .i64 st) (.string s3) (.slice vo5 len5 vc5) (.slice vo (len4 + k) vc) (len4 + k) (flat (cat N4 len4 N6) (cat V4 len4 V6) (len4 + k))) ∧ Below w1.heap.size w1 wr) (fun i _ => len6 - (intOf i).toNat)
  case atStart => exact ⟨0, Nat.zero_le _, rfl, ⟨vo4, vc4, HM0⟩, HB0⟩
  case round =>
    clear HM0 HB0
    obtain ⟨k, hk, rfl, ⟨vo, vc, hM⟩, hbel⟩ := hrel
    by_cases hlt : k < len6
    · obtain ⟨b, off, rfl, hb, g1, g2, _, _⟩ := HP6'.out k hlt
      replace g1 := (hbel.cell (p := ⟨b, _, none⟩) hb).trans g1
      replace g2 := (hbel.cell (p := ⟨b, _, none⟩) hb).trans g2
      have hlt' : (k : Int) < (len6 : Int) := by omega
      have hk0 : (0 : Int) ≤ (k : Int) := by omega
      have HA : Hid (∀ w', Added wr.drew w' w1.heap.size w2.heap.size (.string s0) (.string s1) (.int .i64 st) (.string s3) (.slice vo5 len5 vc5) (len4 + k) (flat (cat N4 len4 N6) (cat V4 len4 V6) (len4 + k)) (N6 k) (V6 k) →
          (∃ vo vc, IsMsg w' w1.heap.size w2.heap.size (.string s0) (.string s1) (.int .i64 st) (.string s3) (.slice vo5 len5 vc5) (.slice vo (len4 + (k + 1)) vc) (len4 + (k + 1)) (flat (cat N4 len4 N6) (cat V4 len4 V6) (len4 + (k + 1)))) ∧ Below w1.heap.size w1 w') := by
        intro w' ⟨g, cap, h1, h2⟩
        refine ⟨⟨some ⟨g, 0, none⟩, cap, ?_⟩, (hbel.drew).trans h2⟩
        have e := flat_snoc (cat N4 len4 N6) (cat V4 len4 V6) (len4 + k)
        rw [cat_ge, cat_ge] at e
        rw [e] at h1
        exact h1
      have HMd : Hid (IsMsg wr.drew w1.heap.size w2.heap.size (.string s0) (.string s1) (.int .i64 st) (.string s3) (.slice vo5 len5 vc5) (.slice vo (len4 + k) vc) (len4 + k) (flat (cat N4 len4 N6) (cat V4 len4 V6) (len4 + k))) := hM
      generalize N6 k = nk at g1 HA
      generalize V6 k = vk at g2 HA
      clear hM hbel
      go_wp2
      go_region_held3 (fun w' => w'.cell? ⟨b, off + k * 2, none⟩ = some (.string nk) ∧ w'.cell? ⟨b, off + k * 2 + 1, none⟩ = some (.string vk)) (first | go_keep | (refine ⟨?_, ?_⟩ <;> assumption)) ((go_at_call 21; refine (add_any w1.heap.size w2.heap.size (len4 + k) _ _ _ _ _ _ _ nk vk _ hmb HMd.out (by omega)).mono ?_; rintro e w' ⟨rfl, hadd⟩; have hs1 := added_cell hadd hb g1; have hs2 := added_cell hadd hb g2))
      have HR : Hid _ := HA.out w' hadd
      clear hadd hs1 hs2 HA HMd g1 g2
      go_wp2
      go_roundw
      case rel => exact ⟨k + 1, by omega, by go_num, HR.1, HR.2⟩
      case measure => simp [intOf]; omega
    · have e : len6 = k := by omega
      subst e
      obtain ⟨hm, hown⟩ := hM
      have hm0 : wr.cell? ⟨w2.heap.size, 0, none⟩ = some (.string s0) := by rw [cell_of_row wr _ 0 _ 39 _ hm]; rfl
      have hm1 : wr.cell? ⟨w2.heap.size, 1, none⟩ = some (.string s1) := by rw [cell_of_row wr _ 1 _ 39 _ hm]; rfl
      have hm2 : wr.cell? ⟨w2.heap.size, 2, none⟩ = some (.int .i64 st) := by rw [cell_of_row wr _ 2 _ 39 _ hm]; rfl
      have hm3 : wr.cell? ⟨w2.heap.size, 3, none⟩ = some (.string s3) := by rw [cell_of_row wr _ 3 _ 39 _ hm]; rfl
      have hm4 : wr.cell? ⟨w2.heap.size, 4, none⟩ = some (.slice vo (len4 + len6) vc) := by rw [cell_of_row wr _ 4 _ 39 _ hm]; rfl
      have hm5 : wr.cell? ⟨w2.heap.size, 5, none⟩ = some (.slice vo5 len5 vc5) := by rw [cell_of_row wr _ 5 _ 39 _ hm]; rfl
      have hmlt := lt_of_block hm
      have HR : Hid (RowO wr vo (len4 + len6) (cat N4 len4 N6) (cat V4 len4 V6)) := rowO_of hown
      have HQ4 : Hid (Pairs wr a4 len4 N4 V4) := HP4'.out.below hbel (Nat.le_refl _)
      have HQ6 : Hid (Pairs wr a6 len6 N6 V6) := HP6'.out.below hbel (Nat.le_refl _)
      have HB : Hid (Below w.heap.size w wr) := HB1.out.trans (hbel.mono HB1.out.size)
      have hn5 := fun w : World => Lib.run_eql_slice_nil (P := Try.prog) w 32 5 vo5 len5 vc5 0 0 Try.underlying32
      clear hm hown hbel HP4' HP6' HB1 hmb hr40 hr41 hr60 hr61
      obtain ⟨w9, rfl⟩ : ∃ w9, w9 = wr := ⟨_, rfl⟩
      go_wp2
      have h17 : (decide (0 < len5) = false ∧ decide ((0 : Int) < (len5 : Int)) = false) ∨ ((0 < len5 ∧ (0 : Int) < (len5 : Int)) ∧ ∃ g5, vo5 = some ⟨g5, 0, none⟩) := by
        by_cases h : 0 < len5
        · right
          refine ⟨⟨h, by omega⟩, ?_⟩
          rcases vo5 with _ | x
          · have := HV5.out rfl; omega
          · obtain ⟨g, rfl⟩ := HV5'.out x rfl; exact ⟨g, rfl⟩
        · left; refine ⟨?_, ?_⟩ <;> simp <;> omega
      rcases h17 with ⟨hd, hd2⟩ | ⟨⟨hd, hd2⟩, g5, rfl⟩
      all_goals
        try simp only [Option.isNone_some]
        obtain ⟨i5, hi5, _, _, _⟩ := info_parts info5
        have hptr := fun (w : World) (x : Addr) => Lib.run_neq_ptr_same (P := Try.prog) w x Try.underlying43 hi5
        go_quiet (fail)
        clear hptr hi5 hn5 hm0 hm1 hm2 hm3 hm5
        go_wp2
        go_loopw [18] (fun i wr => ∃ k : Nat, k ≤ len4 ∧ i = .int .i64 k ∧ ∃ j, wr = w9.drewN j) (fun i _ => len4 - (intOf i).toNat)
        case atStart => exact ⟨0, Nat.zero_le _, rfl, _, rfl⟩
        case round =>
          obtain ⟨k, hk, rfl, j, rfl⟩ := hrel
          by_cases hlt : k < len4
          · obtain ⟨g, rfl, hg, g1, g2⟩ := HR.out k (by omega)
            obtain ⟨b, off, rfl, hb, f1, f2, _, _⟩ := HQ4.out k hlt
            rw [cat_lt hlt] at g1 g2
            have hlt1 : (k : Int) < (len4 : Int) := by omega
            have hlt2 : (k : Int) < (len4 : Int) + (len6 : Int) := by omega
            have hlt3 : (0 : Int) ≤ (k : Int) := by omega
            generalize N4 k = nk at g1 f1
            generalize V4 k = vk at g2 f2
            go_wp2
            go_quiet (fail)
            go_wp2
            go_roundw
            case rel => exact ⟨k + 1, by omega, by go_num, _, rfl⟩
            case measure => simp [intOf]; omega
          · go_wp2
            clear hk hlt
            go_loopw [19] (fun i wr => ∃ k : Nat, k ≤ len6 ∧ i = .int .i64 k ∧ Below w9.heap.size w9 wr) (fun i _ => len6 - (intOf i).toNat)
            case atStart => exact ⟨0, Nat.zero_le _, rfl, below_drewN (Below.refl _ _) _⟩
            case round =>
              obtain ⟨k, hk, rfl, hbel⟩ := hrel
              by_cases hlt : k < len6
              · obtain ⟨g, rfl, hg, g1, g2⟩ := HR.out (len4 + k) (by omega)
                obtain ⟨b, off, rfl, hb, f1, f2, _, _⟩ := HQ6.out k hlt
                rw [cat_ge] at g1 g2
                replace g1 := (hbel.cell (p := ⟨g, _, none⟩) hg).trans g1
                replace g2 := (hbel.cell (p := ⟨g, _, none⟩) hg).trans g2
                replace f1 := (hbel.cell (p := ⟨b, _, none⟩) hb).trans f1
                replace f2 := (hbel.cell (p := ⟨b, _, none⟩) hb).trans f2
                have hm4' := (hbel.cell (p := ⟨w2.heap.size, 4, none⟩) hmlt).trans hm4
                have hgr : g < wr.heap.size := Nat.lt_of_lt_of_le hg hbel.size
                have hbr : b < wr.heap.size := Nat.lt_of_lt_of_le hb hbel.size
                have hlt1 : (k : Int) < (len6 : Int) := by omega
                have hlt2 : (len4 : Int) + (k : Int) < (len4 : Int) + (len6 : Int) := by omega
                have hlt3 : (0 : Int) ≤ (k : Int) := by omega
                generalize N6 k = nk at g1 f1
                generalize V6 k = vk at g2 f2
                go_wp2
                go_quiet (fail)
                go_wp2
                go_roundw
                case rel => exact ⟨k + 1, by omega, by go_num, below_drewN (hbel.alloc hbel.size _) _⟩
                case measure => simp [intOf]; omega
              · go_wp2
                go_ret
                exact ⟨rfl, HB.out.trans (hbel.mono HB.out.size)⟩
end Go.Proofs.Qxb6605670a.Msg
