import Derived.Test.Qxb6619931aMid
namespace Go.Proofs.Qxb6619931a
open Go.RowKit

set_option maxRecDepth 100000 in
set_option maxHeartbeats 4000000 in
theorem good_true (a0 a1 a6 a7 a8 : Option Addr) (n c0 c1 m c6 c7 c8 sp sl : Nat) (tk : Int) (b0 o0 b1 o1 b6 o6 b7 o7 b8 o8 : Nat) (I0 L0 N6 D7 V8 : Nat → Int) (w : World)
    (hn : n ≤ 16384) (hm : m ≤ 16384) (hsp : sp ≤ 4096) (hsl : sl ≤ 4096) (t0 : 0 ≤ tk) (t1 : tk ≤ 9223372036854775807)
    (i0 : Ints w a0 b0 o0 n I0) (i1 : Ints w a1 b1 o1 n L0) (i6 : Ints w a6 b6 o6 m N6) (i7 : Ints w a7 b7 o7 m D7) (i8 : Ints w a8 b8 o8 m V8) (hN : ∀ i, i < m → -9223372036854775808 ≤ N6 i ∧ N6 i ≤ 9223372036854775807) :
    Calls Try.prog 5 #[.slice a0 n c0, .slice a1 n c1, .int .i64 sp, .int .i64 sl, .int .i64 tk, .bool true, .slice a6 m c6, .slice a7 m c7, .slice a8 m c8] w fun e w' => e = .returned (.bool true) ∧ Below w.heap.size w w' := by
  have hnz : (n : Int) ≤ 16384 := by omega
  have hmz : (m : Int) ≤ 16384 := by omega
  have hspz : (sp : Int) ≤ 4096 := by omega
  have hslz : (sl : Int) ≤ 4096 := by omega
  have HN : Hid (∀ i, i < m → -9223372036854775808 ≤ N6 i ∧ N6 i ≤ 9223372036854775807) := hN
  clear hN
  have mk0 := make28 n (by omega)
  go_enter Try.func5, Try.ntmps5
  go_wp2_with fail
  refine (bytes_any _ _ _ _ _ _ _ _ _ _ _ _ _ _ _ _ _ _ _ _).mono ?_
  rintro e w1 ⟨⟨b, rfl⟩, rfl⟩
  cases b
  case false =>
    go_wp2
    go_ret
    exact ⟨rfl, Below.refl _ _⟩
  go_upto_if 105 with fail
  go_cut [0] from 33 to 112 (fun s0 wc => Copd wc s0 n I0 ∧ Below w.heap.size w wc)
  case first =>
    cases a0 with
    | none =>
      go_wp2
      go_meet
      exact ⟨⟨_, _, _, _, rfl, i0⟩, Below.refl _ _⟩
    | some x =>
      have cp := copy28 w I0 n c0 x b0 o0 i0
      go_wp2
      go_meet
      exact ⟨⟨_, _, _, _, rfl, (copied w I0 n).2⟩, (copied w I0 n).1⟩
  case rest =>
    obtain ⟨⟨a0', c0', B0, O0, rfl, j0⟩, bel0⟩ := hcut
    have j1 := i1.later bel0
    have j6 := i6.later bel0
    have j7 := i7.later bel0
    have j8 := i8.later bel0
    have HB0 : Hid (Below w.heap.size w wc) := bel0
    clear bel0 i0 i1 i6 i7 i8
    rename World => wa
    go_upto_if 114 with fail
    go_cut [1] from 33 to 121 (fun s1 wd => Copd wd s1 n L0 ∧ Below wa.heap.size wa wd)
    case first =>
      cases a1 with
      | none =>
        go_wp2
        go_meet
        exact ⟨⟨_, _, _, _, rfl, j1⟩, Below.refl _ _⟩
      | some x =>
        have cp := copy28 wa L0 n c1 x b1 o1 j1
        go_wp2
        go_meet
        exact ⟨⟨_, _, _, _, rfl, (copied wa L0 n).2⟩, (copied wa L0 n).1⟩
    case rest =>
      obtain ⟨⟨a1', c1', B1, O1, rfl, k1⟩, bel1⟩ := hcut
      have k0 := j0.later bel1
      have k6 := j6.later bel1
      have k7 := j7.later bel1
      have k8 := j8.later bel1
      have HB : Hid (Below w.heap.size w wc) := HB0.out.trans (bel1.mono HB0.out.size)
      clear bel1 HB0 j0 j1 j6 j7 j8
      rename World => wb
      go_wp2
      go_loopg [21, 22] m (fun gh s21 s22 wr => ∃ k : Nat, k ≤ m ∧ gh = m - k ∧ s21 = .int .i64 n ∧ s22 = .int .i64 k ∧ wb = wr)
      case atStart => exact ⟨0, Nat.zero_le _, rfl, rfl, rfl, rfl⟩
      case round =>
        obtain ⟨k, hk, rfl, rfl, rfl, rfl⟩ := hrel
        by_cases hlt : k < m
        · obtain rfl := k6.adr (by omega)
          have hlz : (k : Int) < (m : Int) := by omega
          have g6 := k6.cell k hlt
          obtain ⟨x0, x1⟩ := HN.out k hlt
          by_cases q1 : N6 k < 0
          · go_wp2
            go_ret
            exact ⟨rfl, HB.out⟩
          · by_cases q2 : (n : Int) < N6 k - tk
            · go_wp2
              go_ret
              exact ⟨rfl, HB.out⟩
            · go_wp2
              go_roundg (m - (k + 1))
              case measure => omega
              case rel => exact ⟨k + 1, by omega, rfl, rfl, by simp, rfl⟩
        · obtain rfl : m = k := by omega
          go_wp2
          go_loopg [25] n (fun gh s25 wr => ∃ j : Nat, j ≤ n ∧ gh = n - j ∧ s25 = .int .i64 j ∧ Fill2 wb wr n j I0 L0)
          case atStart => exact ⟨0, Nat.zero_le _, rfl, rfl, fill_start wb n I0 L0⟩
          case round =>
            obtain ⟨j, hj, rfl, rfl, hF⟩ := hrel
            by_cases hjn : j < n
            · obtain rfl := k0.adr (by omega)
              obtain rfl := k1.adr (by omega)
              have hjz : (j : Int) < (n : Int) := by omega
              have g0 := cell_later hF.below (k0.cell j hjn)
              have g1 := cell_later hF.below (k1.cell j hjn)
              have d0 := hF.r1.cell hjn
              have d1 := hF.r2.cell hjn
              have f0 := hF.r1.frozen j
              have f1 := hF.r2.frozen j
              have nb : B1 ≠ wb.heap.size := Nat.ne_of_lt (World.block_lt_of_cell? _ _ (k1.cell j hjn))
              go_wp2
              go_roundg (n - (j + 1))
              case measure => omega
              case rel => exact ⟨j + 1, by omega, rfl, by simp, fill_step hF⟩
            · obtain rfl : n = j := by omega
              go_wp2_with fail
              refine (new_any a0' B0 O0 n c0' I0 a1' B1 O1 c1' L0 sp sl tk true wr hn hsp hsl k0.adr (k0.later hF.below).cell k1.adr (k1.later hF.below).cell).mono ?_
              rintro e w2 ⟨rfl, bel2, _, hS⟩
              have hM := mid_start hF bel2 hS
              have hsz := hF.size
              obtain ⟨sb, hsb⟩ : ∃ sb, sb = wr.heap.size + 2 := ⟨_, rfl⟩
              rw [← hsb] at hM ⊢
              clear bel2 hS hF hsb mk0
              go_wp2
              go_loopg [23, 24, 27] m (fun gh s23 s24 s27 wr => ∃ k : Nat, k ≤ m ∧ gh = m - k ∧ s23 = .slice (some ⟨wb.heap.size, 0, none⟩) n n ∧ s24 = .slice (some ⟨wb.heap.size + 1, 0, none⟩) n n ∧ s27 = .int .i64 k ∧ Mid wb wr sb true tk n I0 L0 n wb.heap.size (wb.heap.size + 1) I0 L0)
              case atStart => exact ⟨0, Nat.zero_le _, rfl, rfl, rfl, rfl, hM⟩
              case round =>
                obtain ⟨k, hk, rfl, rfl, rfl, rfl, fl, QB, qc, SB, sc, hM⟩ := hrel
                by_cases hlt : k < m
                · obtain rfl := k6.adr (by omega)
                  obtain rfl := k7.adr (by omega)
                  obtain rfl := k8.adr (by omega)
                  have hlz : (k : Int) < (m : Int) := by omega
                  have g8 := cell_later hM.below (k8.cell k hlt)
                  go_wp2_with fail
                  refine (flow_any sb fl tk true QB qc n SB sc I0 L0 (V8 k) wr hM.scan).mono ?_
                  rintro e w3 ⟨rfl, hw3⟩
                  have hK : Kept (fun k => k = sb) wr w3 := by rw [hw3]; exact (Kept.refl (fun k => k = sb) _).setCell (p := ⟨sb, 4, none⟩) rfl _
                  have hS3 : Scan w3 sb (V8 k) tk true QB qc n SB sc I0 L0 := by rw [hw3]; exact scan_flow hM.scan _
                  have b3 : Below wb.heap.size wb w3 := hM.below.trans (hK.below hM.below.size (fun i e => by have := hM.f0.1; omega))
                  have g6 := cell_later b3 (k6.cell k hlt)
                  have g7 := cell_later b3 (k7.cell k hlt)
                  clear hw3 g8
                  go_upto_region 37 with fail
                  go_cut [] from 182 to 280 (fun wx => Mid wb wx sb true tk n I0 L0 n wb.heap.size (wb.heap.size + 1) I0 L0)
                  case first =>
                    go_region_with (go_at_call 16; refine (zz_skip sb (V8 k) tk QB qc n SB sc I0 L0 (N6 k) (D7 k) _ (by first | exact hS3.drew | exact hS3)).mono ?_; rintro e w4 ⟨rfl, hI⟩)
                    all_goals
                      go_wp2_with fail
                      go_meet
                      exact mid_step hM (by first | exact hK | exact hK.drew) hI
                  case rest =>
                    go_wp2
                    go_roundg (m - (k + 1))
                    case measure => omega
                    case rel => exact ⟨k + 1, by omega, rfl, rfl, rfl, by simp, hcut⟩
                · obtain rfl : m = k := by omega
                  go_wp2_with fail
                  refine (len_any sb fl tk true QB qc n SB sc I0 L0 wr hM.scan).mono ?_
                  rintro e w5 ⟨rfl, rfl⟩
                  go_wp2
                  go_loopg [32] n (fun gh s32 wx => ∃ j : Nat, j ≤ n ∧ gh = n - j ∧ s32 = .int .i64 j ∧ Mid0 wb wx sb fl true tk QB qc n SB sc I0 L0 n wb.heap.size (wb.heap.size + 1) I0 L0)
                  case atStart => exact ⟨0, Nat.zero_le _, rfl, rfl, hM⟩
                  case round =>
                    obtain ⟨j, hj, rfl, rfl, hX⟩ := hrel
                    by_cases hjn : j < n
                    · have hjz : (j : Int) < (n : Int) := by omega
                      have d0 := hX.r1.cell hjn
                      have d1 := hX.r2.cell hjn
                      have cg : (I0 j != I0 j) = false := by simp
                      have cl : (L0 j != L0 j) = false := by simp
                      go_wp2_with fail
                      go_quiet (first | (go_at_call 18; refine Calls.quiet_of_same ((id_any sb fl tk true QB qc n SB sc I0 L0 j _ (hX.scan.drewN _) hjn).mono fun _ _ h => ⟨h.1, h.2.symm⟩)) | (go_at_call 19; refine Calls.quiet_of_same ((level_any sb fl tk true QB qc n SB sc I0 L0 j _ (hX.scan.drewN _) hjn).mono fun _ _ h => ⟨h.1, h.2.symm⟩)))
                      go_wp2
                      go_roundg (n - (j + 1))
                      case measure => omega
                      case rel => exact ⟨j + 1, by omega, rfl, by simp, hX.drewN _⟩
                    · obtain rfl : n = j := by omega
                      go_wp2
                      go_ret
                      exact ⟨rfl, HB.out.trans (hX.below.mono HB.out.size)⟩
end Go.Proofs.Qxb6619931a
