import Derived.Test.Qxb6605724aDiff
namespace Go.Proofs.Qxb6605724a.Path
open Go.ChangeShapes Go.WideShapes Go.ChangeAt Go.RowKit
set_option linter.unusedVariables false

theorem DiffE.drew {w : World} {B db n : Nat} {N : Nat → ByteArray} {I J : Nat → Int} (h : DiffE w B db n N I J) : DiffE w.drew B db n N I J := by
  obtain ⟨T1, O1, T2, O2, h⟩ := h
  exact ⟨T1, O1, T2, O2, h.drew⟩

set_option maxHeartbeats 4000000 in
set_option maxRecDepth 100000 in
theorem path_any (a : Option Addr) (len cap : Nat) (N : Nat → ByteArray) (I J : Nat → Int) (w : World) (hl : len ≤ maxLen) (hp : Steps w a len N I J) :
    Calls Try.prog 5 #[.slice a len cap] w fun e w' => e = .returned (.bool true) ∧ Below w.heap.size w w' := by
  have C11 : Hid (Calls Try.prog 11 #[.slice a len cap] w fun e w' => IsB e len N ∧ w = w') := zz11_any a len cap N I J w hl hp
  have HP : Hid (Steps w a len N I J) := hp
  clear hp
  unfold maxLen at hl
  go_enter Try.func5, Try.ntmps5
  go_wp2_with fail
  refine C11.out.mono ?_
  rintro e w' ⟨⟨b, rfl, hS⟩, rfl⟩
  cases b
  · go_wp2
    go_ret
    exact ⟨rfl, Below.refl _ _⟩
  have HS : Hid (∀ i, i < len → (N i).size ≤ 1048576) := hS rfl
  clear hS C11
  by_cases hbig : 65536 < len
  · have hi2 : (65536 : Int) < (len : Int) := by omega
    go_wp2
    go_ret
    exact ⟨rfl, Below.refl _ _⟩
  have hi2 : ¬ (65536 : Int) < (len : Int) := by omega
  go_wp2
  go_loop [3, 4] (fun z i => ∃ k : Nat, k ≤ len ∧ i = .int .i64 k ∧ ∃ q : Int, 0 ≤ q ∧ q ≤ 1048576 ∧ z = .int .i64 q) (fun _ i => len - (intOf i).toNat)
  case atStart => exact ⟨0, Nat.zero_le _, rfl, 0, by omega, by omega, rfl⟩
  case round =>
    obtain ⟨k, hk, rfl, q, hq1, hq2, rfl⟩ := hrel
    by_cases hlt : k < len
    · obtain ⟨b, off, rfl, hb, h1, h2, h3, h4⟩ := HP.out k hlt
      have hsz := HS.out k hlt
      clear h4 h2 h3
      generalize N k = nk at h1 hsz
      go_wp2
      all_goals first
        | (go_ret; exact ⟨rfl, Below.refl _ _⟩)
        | (go_round
           case rel => exact ⟨k + 1, by omega, by go_num, _, by omega, by omega, rfl⟩
           case measure => simp [intOf]; omega)
    · go_wp2_with (go_at_call 12; refine (zz_new _).mono ?_; rintro e w1 ⟨rfl, hD0, hb1, hs1⟩)
      have HD0 : Hid (DiffE w1 w.heap.size w.heap.size 0 N I J) := hD0 N I J
      have HB1 : Hid (Below w.heap.size w w1) := hb1
      clear hD0 hb1 hs1 hk hlt
      go_loopw [6] (fun i wr => ∃ k : Nat, k ≤ len ∧ i = .int .i64 k ∧ DiffE wr w.heap.size w.heap.size k N I J ∧ Below w.heap.size w wr) (fun i _ => len - (intOf i).toNat)
      case atStart => exact ⟨0, Nat.zero_le _, rfl, HD0, HB1⟩
      case round =>
        clear HD0 HB1
        obtain ⟨k, hk, rfl, hD, hbel⟩ := hrel
        by_cases hlt : k < len
        · obtain ⟨b, off, rfl, hb, g1, g2, g3, _⟩ := HP.out k hlt
          replace g1 := (hbel.cell (p := ⟨b, _, none⟩) hb).trans g1
          replace g2 := (hbel.cell (p := ⟨b, _, none⟩) hb).trans g2
          replace g3 := (hbel.cell (p := ⟨b, _, none⟩) hb).trans g3
          have hlt' : (k : Int) < (len : Int) := by omega
          have hk0 : (0 : Int) ≤ (k : Int) := by omega
          have C13 : Hid (Calls Try.prog 13 #[.pointer (some ⟨w.heap.size, 0, none⟩), .string (N k), .int .i64 (I k), .int .i64 (J k)] wr.drew fun e w' => e = .returned (.tuple #[]) ∧ DiffE w' w.heap.size w.heap.size (k + 1) N I J ∧ Below w.heap.size wr.drew w') :=
            zz_enter w.heap.size w.heap.size k N I J wr.drew (Nat.le_refl _) hD.drew (by omega)
          have HB : Hid (Below w.heap.size w wr.drew) := hbel.drew
          generalize N k = nk at g1 C13
          generalize I k = ik at g2 C13
          generalize J k = jk at g3 C13
          clear hD hbel
          go_wp2
          go_region_held3 (fun w' => w'.cell? ⟨b, off + k * 3, none⟩ = some (.string nk) ∧ w'.cell? ⟨b, off + k * 3 + 1, none⟩ = some (.int .i64 ik) ∧ w'.cell? ⟨b, off + k * 3 + 2, none⟩ = some (.int .i64 jk)) (first | go_keep | (refine ⟨?_, ?_, ?_⟩ <;> assumption)) ((go_at_call 13; refine C13.out.mono ?_; rintro e w' ⟨rfl, hD', hb'⟩; have hs1 := (hb'.cell (p := ⟨b, off + k * 3, none⟩) hb).trans g1; have hs2 := (hb'.cell (p := ⟨b, off + k * 3 + 1, none⟩) hb).trans g2; have hs3 := (hb'.cell (p := ⟨b, off + k * 3 + 2, none⟩) hb).trans g3))
          have HD' : Hid (DiffE w' w.heap.size w.heap.size (k + 1) N I J) := hD'
          have HB' : Hid (Below w.heap.size w w') := HB.out.trans hb'
          clear hD' hb' hs1 hs2 hs3 g1 g2 g3 C13 HB
          go_wp2
          go_roundw
          case rel => exact ⟨k + 1, by omega, by go_num, HD', HB'⟩
          case measure => simp [intOf]; omega
        · have e : len = k := by omega
          subst e
          obtain ⟨w9, rfl⟩ : ∃ w9, w9 = wr := ⟨_, rfl⟩
          have HP9 : Hid (Steps w9 a len N I J) := HP.out.below hbel (Nat.le_refl _)
          have HB9 : Hid (Below w.heap.size w w9) := hbel
          have HD : Hid (DiffE w9 w.heap.size w.heap.size len N I J) := hD
          clear hD hbel HP HS
          go_wp2_with fail
          refine (zz_path w.heap.size w.heap.size len N I J w9 HD.out).mono ?_
          rintro e w' ⟨⟨t1, c1, o1, d1, t2, c2, o2, d2, rfl, hrows⟩, j0, rfl⟩
          have HR : Hid (∀ i, i < len → ∃ g1 g2 g3 g4, t1 = some ⟨g1, 0, none⟩ ∧ o1 = some ⟨g2, 0, none⟩ ∧ t2 = some ⟨g3, 0, none⟩ ∧ o2 = some ⟨g4, 0, none⟩ ∧
            w9.cell? ⟨g1, i, none⟩ = some (.string (N i)) ∧ w9.cell? ⟨g2, i, none⟩ = some (.int .i64 (I i)) ∧ w9.cell? ⟨g3, i, none⟩ = some (.string (N i)) ∧ w9.cell? ⟨g4, i, none⟩ = some (.int .i64 (J i))) := hrows
          clear hrows HD
          go_wp2
          go_loopw [12] (fun i wr => ∃ k : Nat, k ≤ len ∧ i = .int .i64 k ∧ ∃ j, wr = w9.drewN j) (fun i _ => len - (intOf i).toNat)
          case atStart => exact ⟨0, Nat.zero_le _, rfl, _, rfl⟩
          case round =>
            obtain ⟨k, hk, rfl, j, rfl⟩ := hrel
            by_cases hlt : k < len
            · obtain ⟨g1, g2, g3, g4, rfl, rfl, rfl, rfl, f1, f2, f3, f4⟩ := HR.out k hlt
              obtain ⟨b, off, rfl, hb, e1, e2, e3, _⟩ := HP9.out k hlt
              have hlt1 : (k : Int) < (len : Int) := by omega
              have hlt3 : (0 : Int) ≤ (k : Int) := by omega
              generalize N k = nk at f1 f3 e1
              generalize I k = ik at f2 e2
              generalize J k = jk at f4 e3
              go_wp2
              go_quiet (fail)
              go_wp2
              go_quiet (fail)
              go_wp2
              go_roundw
              case rel => exact ⟨k + 1, by omega, by go_num, _, rfl⟩
              case measure => simp [intOf]; omega
            · go_wp2
              go_ret
              exact ⟨rfl, below_drewN HB9.out _⟩
end Go.Proofs.Qxb6605724a.Path
