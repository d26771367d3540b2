import Derived.Test.Qxb6619931aInsAt
namespace Go.Proofs.Qxb6619931a
open Go.RowKit

theorem ins_frame2 {w w1 W2 wz : World} {sb QB SB QB1 SB1 : Nat} {X Y : Obj} (hK : Kept (fun k => k = sb ∨ k = SB) (w.alloc X) w1) (hSB : SB1 = SB ∨ (w.alloc X).heap.size ≤ SB1) (hQB : QB1 = QB ∨ QB1 = SB1)
    (hP : Kept (fun k => k = sb ∨ k = QB1) (w1.alloc Y) W2) (hZ : Kept (fun k => k = sb ∨ k = QB1) W2.drew wz) : Kept (fun k => k = sb ∨ k = QB ∨ k = SB) w wz.drew ∧ (QB1 = QB ∨ QB1 = SB ∨ w.heap.size ≤ QB1) ∧ (SB1 = SB ∨ w.heap.size ≤ SB1) := by
  simp only [Go.Deep.nblk_alloc] at hSB
  refine ⟨?_, by omega, by omega⟩
  have h1 : Kept (fun k => k = sb ∨ k = QB ∨ k = SB) w w1 := ((Kept.refl _ w).alloc X).trans' hK (fun i hi e => by omega)
  have h2 : Kept (fun k => k = sb ∨ k = QB ∨ k = SB) w W2 := (h1.alloc Y).trans' hP (fun i hi e => by omega)
  exact (h2.drew.trans' hZ (fun i hi e => by omega)).drew

set_option maxRecDepth 100000 in
set_option maxHeartbeats 4000000 in
theorem insert_at (sb : Nat) (fl tk : Int) (QB qc n SB sc : Nat) (I L : Nat → Int) (i : Nat) (id : Int) (w : World) (h : Scan w sb fl tk false QB qc n SB sc I L) (hn : n ≤ 65536) (t0 : 0 ≤ tk) (t1 : tk + i ≤ 9223372036854775807) (hi : i ≤ n) :
    Calls Try.prog 26 #[.pointer (some ⟨sb, 0, none⟩), .int .i64 (tk + i), .agg (tok id 0)] w fun e w' => e = .returned (.tuple #[]) ∧ Insd w w' sb fl tk false QB (n + 1) SB (insF I i id) (insF L i fl) := by
  obtain ⟨f, hr, h4, _, _, h14, h30⟩ := h.row
  have c4 := hr.cell (i := 4) (by omega)
  rw [h4] at c4
  have c14 := hr.cell (i := 14) (by omega)
  rw [h14] at c14
  have c30 := hr.cell (i := 30) (by omega)
  rw [h30] at c30
  have hl := hr.lt
  have hne : sb ≠ w.heap.size := by omega
  clear h4 h14 h30 hr
  unfold tok
  go_enter Try.func26, Try.ntmps26
  go_wp2_with fail
  have hB := box_row w id fl
  have hS0 : SB < w.heap.size := h.srow.elim fun _ x => x.lt
  refine (room_any sb fl tk false QB qc n SB sc I L _ (h.alloc _) hn).mono ?_
  rintro e w1 ⟨rfl, QB1, qc1, SB1, sc1, hS, hlt1, hK, hSB, hQB⟩
  have hB1 : w1.rowIs w.heap.size 50 14 (boxF id fl) := hK.row hB (by omega)
  have hsz1 : w.heap.size < w1.heap.size := hB1.lt
  obtain ⟨f1, hr1, _, k12, _⟩ := hS.row
  have m12 := hr1.cell (i := 12) (by omega)
  rw [k12] at m12
  have m12f := hr1.frozen 12
  have hl1 := hr1.lt
  clear k12 hB c4 c14 c30
  obtain ⟨i0, hi0, hz0, hz1, hz2⟩ := info_parts info50
  have HI : Hid (Try.prog.info? 50 = some i0) := hi0
  clear hi0 hz0 hz2
  have srcN : Hid (∀ j u, (tok 0 0).toList[j]? = some u → (w1.alloc (.cells (tok 0 0) 50)).cell? ((⟨w1.heap.size, 0, none⟩ : Addr).add j) = some u) := tok_src (box_row w1 0 0)
  obtain ⟨gq, hq1⟩ := hS.qrow
  have hQ1 : QB1 ≠ w.heap.size := by
    have h1 := h.qrow.elim fun _ x => x.lt
    simp only [Go.Deep.nblk_alloc] at hSB
    omega
  have spN : Hid (∀ j, j < (tok 0 0).toList.length → ((w1.alloc (.cells (tok 0 0) 50)).cell? ⟨QB1, 0 + n * 14 + j, none⟩).isSome = true ∧ (w1.alloc (.cells (tok 0 0) 50)).frozen? ⟨QB1, 0 + n * 14 + j, none⟩ = false) :=
    spare_cells (hq1.alloc _) (by omega) _ rfl
  obtain ⟨hP, hKP⟩ := scan_push (hS.alloc (.cells (tok 0 0) 50)) hlt1 0 0
  have e12 : ∀ X : Array Value, ((w1.alloc (.cells X 50)).setCells QB1 (n * 14) (tok 0 0).toList).cell? ⟨sb, 12, none⟩ = some (.slice (some ⟨QB1, 0, none⟩) n qc1) := fun X => by
    rw [World.cell?_setCells_out QB1 _ _ _ ⟨sb, 12, none⟩ (fun e => absurd e.symm hS.hq)]
    exact ((hr1.alloc (.cells X 50)).cell (i := 12) (by omega)).trans (by rw [← m12]; exact (hr1.cell (i := 12) (by omega)).symm)
  have ef : ∀ X : Array Value, ((w1.alloc (.cells X 50)).setCells QB1 (n * 14) (tok 0 0).toList).frozen? ⟨sb, 12, none⟩ = false := fun X => by
    rw [World.frozen?_setCells]
    exact (hr1.alloc (.cells X 50)).frozen 12
  clear hq1 hr1
  go_wp2_with (at_builtin; refine wpList_append_room _ rfl (.tmp 40) (.tmp 42) 47 rfl 50 i0 14 Try.underlying47 HI.out hz1 QB1 0 n qc1 rfl ⟨w1.heap.size, 0, none⟩ 1 1 (tok 0 0).toList rfl rfl srcN.out (tok_one _ _) (by omega) spN.out ?_)
  rw [show tk + (i : Int) - tk = (i : Int) from by omega]
  obtain ⟨W2, hW2⟩ : ∃ W2, W2 = ((w1.alloc (.cells #[.int .u8 0, .int .i64 0, .int .i64 0, .int .i64 0, .int .i64 0, .int .i64 0, .int .i64 0, .int .i64 0, .int .i64 0, .int .i64 0, .int .i64 0, .string ⟨#[]⟩, .int .i64 0, .int .i64 0] 50)).setCells QB1 (n * 14) (tok 0 0).toList).setCell ⟨sb, 12, none⟩ (.slice (some ⟨QB1, 0, none⟩) (n + 1) qc1) := ⟨_, rfl⟩
  rw [← hW2]
  rw [Nat.zero_add] at hP hKP
  have hP2 : Scan W2 sb fl tk false QB1 qc1 (n + 1) SB1 sc1 (insF I n 0) (insF L n 0) := by rw [hW2]; exact hP
  have hK2 : Kept (fun k => k = sb ∨ k = QB1) (w1.alloc (.cells (tok 0 0) 50)) W2 := by rw [hW2]; exact hKP
  have hB2 : W2.rowIs w.heap.size 50 14 (boxF id fl) := hK2.row (hB1.alloc _) (by omega)
  clear hW2 hP hKP e12 ef srcN spN m12 m12f hB1
  obtain ⟨od, s1, hod⟩ := slice47_next QB1 n qc1 i hi hlt1
  have HOD : Hid (i < n → od = (i + 1) * 14) := hod
  have s2 := fun w => slice47_back w QB1 (n + 1) qc1 i (by omega) (by omega) i rfl
  obtain ⟨f2, hr2, _, k12, _⟩ := hP2.row
  have n12 := hr2.cell (i := 12) (by omega)
  rw [k12] at n12
  obtain ⟨g2, hq2⟩ := hP2.qrow
  have hmul : (n - i) * 14 = n * 14 - i * 14 := by rw [Nat.sub_mul]
  have src : Hid (∀ j u, (tailC I L n i)[j]? = some u → W2.cell? ((⟨QB1, i * 14, none⟩ : Addr).add j) = some u) := tail_src hq2 (by omega)
  have dst : Hid (∀ j, j < (tailC I L n i).length → (W2.cell? ⟨QB1, od + j, none⟩).isSome = true ∧ W2.frozen? ⟨QB1, od + j, none⟩ = false) := fun j hj => by
    rw [tailC_len] at hj
    have e := hod (by omega)
    rw [hq2.cell (by omega), hq2.frozen]
    exact ⟨rfl, rfl⟩
  obtain ⟨hZ, hKZ⟩ := scan_ins hP2.drew i hi id fl od hod
  obtain ⟨W3, hW3⟩ : ∃ W3, W3 = W2.drew.setCells QB1 od (tailC I L n i) := ⟨_, rfl⟩
  have hZ3 := rowIs_setCells (tailC I L n i) od W2.drew _ hq2.drew
  rw [← hW3] at hZ3
  have hB3 : W3.rowIs w.heap.size 50 14 (boxF id fl) := by rw [hW3]; exact rowIs_setCells_other hQ1.symm (tailC I L n i) od W2.drew hB2.drew
  have a12 : W3.cell? ⟨sb, 12, none⟩ = some (.slice (some ⟨QB1, 0, none⟩) (n + 1) qc1) := by
    rw [hW3, World.cell?_setCells_out QB1 _ _ _ ⟨sb, 12, none⟩ (fun e => absurd e.symm hS.hq)]
    exact n12
  obtain ⟨t0', t1', t2, t3, t4, t5, t6, t7, t8, t9, t10, t11, t12, t13⟩ := box_cells hB3
  obtain ⟨x0, c0⟩ : ∃ x, W3.cell? ⟨QB1, i * 14, none⟩ = some x := ⟨_, hZ3.cell (i := i * 14) (by omega)⟩
  obtain ⟨x1, c1⟩ : ∃ x, W3.cell? ⟨QB1, i * 14 + 1, none⟩ = some x := ⟨_, hZ3.cell (i := i * 14 + 1) (by omega)⟩
  obtain ⟨x2, c2⟩ : ∃ x, W3.cell? ⟨QB1, i * 14 + 2, none⟩ = some x := ⟨_, hZ3.cell (i := i * 14 + 2) (by omega)⟩
  obtain ⟨x3, c3⟩ : ∃ x, W3.cell? ⟨QB1, i * 14 + 3, none⟩ = some x := ⟨_, hZ3.cell (i := i * 14 + 3) (by omega)⟩
  obtain ⟨x4, c4⟩ : ∃ x, W3.cell? ⟨QB1, i * 14 + 4, none⟩ = some x := ⟨_, hZ3.cell (i := i * 14 + 4) (by omega)⟩
  obtain ⟨x5, c5⟩ : ∃ x, W3.cell? ⟨QB1, i * 14 + 5, none⟩ = some x := ⟨_, hZ3.cell (i := i * 14 + 5) (by omega)⟩
  obtain ⟨x6, c6⟩ : ∃ x, W3.cell? ⟨QB1, i * 14 + 6, none⟩ = some x := ⟨_, hZ3.cell (i := i * 14 + 6) (by omega)⟩
  obtain ⟨x7, c7⟩ : ∃ x, W3.cell? ⟨QB1, i * 14 + 7, none⟩ = some x := ⟨_, hZ3.cell (i := i * 14 + 7) (by omega)⟩
  obtain ⟨x8, c8⟩ : ∃ x, W3.cell? ⟨QB1, i * 14 + 8, none⟩ = some x := ⟨_, hZ3.cell (i := i * 14 + 8) (by omega)⟩
  obtain ⟨x9, c9⟩ : ∃ x, W3.cell? ⟨QB1, i * 14 + 9, none⟩ = some x := ⟨_, hZ3.cell (i := i * 14 + 9) (by omega)⟩
  obtain ⟨x10, c10⟩ : ∃ x, W3.cell? ⟨QB1, i * 14 + 10, none⟩ = some x := ⟨_, hZ3.cell (i := i * 14 + 10) (by omega)⟩
  obtain ⟨x11, c11⟩ : ∃ x, W3.cell? ⟨QB1, i * 14 + 11, none⟩ = some x := ⟨_, hZ3.cell (i := i * 14 + 11) (by omega)⟩
  obtain ⟨x12, c12⟩ : ∃ x, W3.cell? ⟨QB1, i * 14 + 12, none⟩ = some x := ⟨_, hZ3.cell (i := i * 14 + 12) (by omega)⟩
  obtain ⟨x13, c13⟩ : ∃ x, W3.cell? ⟨QB1, i * 14 + 13, none⟩ = some x := ⟨_, hZ3.cell (i := i * 14 + 13) (by omega)⟩
  have cf := hZ3.frozen
  rw [← hW3] at hZ hKZ
  have HW3 : Hid (W3 = W2.drew.setCells QB1 od (tailC I L n i)) := hW3
  clear hW3 hZ3 hB3 hq2 hr2 hB2
  clear hod k12 hmul
  have hiz : (i : Int) < ((n : Int) + 1) := by omega
  have hwr : IntKind.i64.wrap ((i : Int) + 1) = (i : Int) + 1 := by rw [IntKind.wrap_i64]; omega
  go_region_law (refine step_copy_big rfl (.tmp 52) (.tmp 58) 47 rfl 50 i0 14 Try.underlying47 HI.out hz1 QB1 od (n - i) (qc1 - (i + 1)) (by simp [Act.eval, Act.put]) ⟨QB1, i * 14, none⟩ (n + 1 - i) (qc1 - i) (by simp [Act.eval, Act.put]) (n - i) (Nat.min_eq_right (by omega)) (tailC I L n i) (tailC_len _ _ _ _) src.out (tailC_one _ _ _ _) dst.out ?_)
  all_goals
    rw [← HW3.out]
    go_wp2
    go_region
    go_wp2
    go_end0
    go_light
    exact ⟨rfl, QB1, qc1, SB1, sc1, hZ.drew, ins_frame2 hK hSB hQB hK2 hKZ⟩
end Go.Proofs.Qxb6619931a
