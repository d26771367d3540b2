import Derived.Test.Qxb6619931aRoom
namespace Go.Proofs.Qxb6619931a
open Go.RowKit

/-- What makeRoom leaves. -/
def Roomy (w w' : World) (sb : Nat) (fl tk : Int) (dc : Bool) (QB n SB : Nat) (I L : Nat → Int) : Prop :=
  ∃ QB' qc' SB' sc', Scan w' sb fl tk dc QB' qc' n SB' sc' I L ∧ n < qc' ∧ Kept (fun k => k = sb ∨ k = SB) w w' ∧ (SB' = SB ∨ w.heap.size ≤ SB') ∧ (QB' = QB ∨ QB' = SB')

theorem slice47_front (w : World) (a : Option Addr) (t c k : Nat) (hk : k ≤ t) (hc : t ≤ c) :
    (Instr.slice 47 (.slice a t c) none (some (.int .i64 (k : Int))) none).run Try.prog w = .ok (.slice a k c) w := by
  have := run_slice_h (P := Try.prog) (w := w) 47 a t c (by rw [Try.underlying47]; rfl) .i64 (k : Int) (by omega) (by omega)
  rw [this]
  simp [go_sem]

theorem Scan.drew {w : World} {sb : Nat} {fl tk : Int} {dc : Bool} {QB qc n SB sc : Nat} {I L : Nat → Int} (h : Scan w sb fl tk dc QB qc n SB sc I L) : Scan w.drew sb fl tk dc QB qc n SB sc I L := ⟨h.row, h.hn, h.hq, h.hs, h.one, h.qrow, h.srow⟩
theorem Scan.drewN {w : World} {sb : Nat} {fl tk : Int} {dc : Bool} {QB qc n SB sc : Nat} {I L : Nat → Int} (h : Scan w sb fl tk dc QB qc n SB sc I L) (k : Nat) : Scan (w.drewN k) sb fl tk dc QB qc n SB sc I L := ⟨h.row, h.hn, h.hq, h.hs, h.one, h.qrow, h.srow⟩
theorem Kept.ofDrew {T : Nat → Prop} {a b : World} (h : Kept T a.drew b) : Kept T a b := ⟨h.os, h.tape, h.output, h.size, h.block⟩

/-- The queue moved into the store. -/
theorem room_move {w : World} {sb : Nat} {fl tk : Int} {dc : Bool} {QB qc n SB sc : Nat} {I L : Nat → Int} (h : Scan w sb fl tk dc QB qc n SB sc I L) (hsc : n < sc) :
    Scan ((w.setCells SB 0 (qcells I L n)).setCell ⟨sb, 12, none⟩ (.slice (some ⟨SB, 0, none⟩) n sc)) sb fl tk dc SB sc n SB sc I L ∧ Kept (fun k => k = sb ∨ k = SB) w ((w.setCells SB 0 (qcells I L n)).setCell ⟨sb, 12, none⟩ (.slice (some ⟨SB, 0, none⟩) n sc)) := by
  obtain ⟨f, hr, h4, h12, h13, h14, h30⟩ := h.row
  obtain ⟨g', hs⟩ := h.srow
  have hs2 : (w.setCells SB 0 (qcells I L n)).rowIs SB 50 (sc * 14) (qf I L n g') := (rowIs_setCells (qcells I L n) 0 w _ hs).congr (fun x _ => qf_spliced I L n g' x)
  have hs3 := hs2.setOther (a := ⟨sb, 12, none⟩) h.hs (.slice (some ⟨SB, 0, none⟩) n sc)
  have hr2 := (rowIs_setCells_other h.hs.symm (qcells I L n) 0 w hr).set 12 (.slice (some ⟨SB, 0, none⟩) n sc)
  refine ⟨⟨⟨_, hr2, by simpa using h4, by simp, by simpa using h13, by simpa using h14, by simpa using h30⟩, by omega, h.hs, h.hs, fun _ => rfl, ⟨g', hs3⟩, ⟨_, hs3⟩⟩, ?_⟩
  exact (Kept.setCells (T := fun k => k = sb ∨ k = SB) (g := SB) (.inr rfl) (qcells I L n) 0 w (Kept.refl _ _)).setCell (p := ⟨sb, 12, none⟩) (.inl rfl) _

/-- A new store. -/
theorem room_make {w : World} {sb : Nat} {fl tk : Int} {dc : Bool} {QB qc n SB sc : Nat} {I L : Nat → Int} (h : Scan w sb fl tk dc QB qc n SB sc I L) (m : Nat) :
    Scan ((w.setCell ⟨sb, 13, none⟩ (.slice (some ⟨w.heap.size, 0, none⟩) m m)).alloc (.cells (madeCells (tok 0 0) (m * 14)) 50)) sb fl tk dc QB qc n w.heap.size m I L ∧ QB ≠ w.heap.size ∧
      Kept (fun k => k = sb ∨ k = SB) w ((w.setCell ⟨sb, 13, none⟩ (.slice (some ⟨w.heap.size, 0, none⟩) m m)).alloc (.cells (madeCells (tok 0 0) (m * 14)) 50)) := by
  obtain ⟨f, hr, h4, h12, h13, h14, h30⟩ := h.row
  obtain ⟨g, hq⟩ := h.qrow
  have hm := World.rowIs_alloc (w.setCell ⟨sb, 13, none⟩ (.slice (some ⟨w.heap.size, 0, none⟩) m m)) (madeCells (tok 0 0) (m * 14)) 50 (fun j => ((madeCells (tok 0 0) (m * 14))[j]?).getD (.bool false)) (fun i hi => by simp [hi])
  have e : (w.setCell ⟨sb, 13, none⟩ (.slice (some ⟨w.heap.size, 0, none⟩) m m)).heap.size = w.heap.size := by simp [World.setCell]
  rw [size_madeCells, e] at hm
  have hql := hq.lt
  have hrl := hr.lt
  refine ⟨⟨⟨_, (hr.set 13 _).alloc _, by simpa using h4, by simpa using h12, by simp, by simpa using h14, by simpa using h30⟩, h.hn, h.hq, by omega, fun e => by omega, ⟨g, (hq.setOther (a := ⟨sb, 13, none⟩) h.hq _).alloc _⟩,
    ⟨_, hm⟩⟩, by omega, ((Kept.refl _ _).setCell (p := ⟨sb, 13, none⟩) (.inl rfl) _).alloc _⟩

set_option maxRecDepth 100000 in
set_option maxHeartbeats 2000000 in
theorem room_any (sb : Nat) (fl tk : Int) (dc : Bool) (QB qc n SB sc : Nat) (I L : Nat → Int) (w : World) (h : Scan w sb fl tk dc QB qc n SB sc I L) (hn : n ≤ 65536) :
    Calls Try.prog 30 #[.pointer (some ⟨sb, 0, none⟩)] w fun e w' => e = .returned (.tuple #[]) ∧ Roomy w w' sb fl tk dc QB n SB I L := by
  obtain ⟨f, hr, _, h12, h13, _⟩ := h.row
  have c12 := hr.cell (i := 12) (by omega)
  rw [h12] at c12
  have c13 := hr.cell (i := 13) (by omega)
  rw [h13] at c13
  have f12 := hr.frozen 12
  have f13 := hr.frozen 13
  clear h12 h13
  by_cases x1 : n < qc
  · have x1' : (n : Int) < (qc : Int) := by omega
    go_enter Try.func30, Try.ntmps30
    go_wp2
    refine bodyPost_ret (v := .tuple #[]) (results_none rfl _ _ _) rfl ?_
    exact ⟨rfl, QB, qc, SB, sc, h, x1, Kept.refl _ _, .inl rfl, .inl rfl⟩
  have x1' : ¬ (n : Int) < (qc : Int) := by omega
  obtain rfl : n = qc := by have := h.hn; omega
  obtain ⟨i0, hi, hz0, hz1, hz2⟩ := info_parts info50
  by_cases x2 : sc < 2 * n + 1
  · have x2' : (sc : Int) < 2 * (n : Int) + 1 := by omega
    have hmk : ∀ w, (Instr.makeSlice 47 (.int .i64 (2 * (n : Int) + 8)) (.int .i64 (2 * (n : Int) + 8))).run Try.prog w = .ok (.slice (some ⟨w.heap.size, 0, none⟩) (2 * n + 8) (2 * n + 8)) (w.alloc (.cells (madeCells (tok 0 0) ((2 * n + 8) * 14)) 50)) := fun w => by
      have hr := run_make (P := Try.prog) w 47 50 i0 _ Try.underlying47 hi hz0 .i64 .i64 (2 * (n : Int) + 8) (2 * (n : Int) + 8) (by omega) (by omega) (by rw [hz2]; omega) (by omega)
      have e : (2 * (n : Int) + 8).toNat = 2 * n + 8 := by omega
      rw [e] at hr
      simpa [hz1, Value.cells] using hr
    obtain ⟨hS, _, hK⟩ := room_make h (2 * n + 8)
    have s1 := fun w a => slice47_front w a (2 * n + 8) (2 * n + 8) n (by omega) (Nat.le_refl _)
    have hsb := hr.lt
    have HI : Hid (Try.prog.info? 50 = some i0) := hi
    clear hi hz0 hz2
    go_enter Try.func30, Try.ntmps30
    go_wp2
    obtain ⟨N, hN⟩ : ∃ N, N = w.heap.size := ⟨_, rfl⟩
    have hN' : w.heap.size = N := hN.symm
    obtain ⟨W1, hW1⟩ : ∃ W1, W1 = (w.setCell ⟨sb, 13, none⟩ (.slice (some ⟨w.heap.size, 0, none⟩) (2 * n + 8) (2 * n + 8))).alloc (.cells (madeCells (tok 0 0) ((2 * n + 8) * 14)) 50) := ⟨_, rfl⟩
    rw [← hW1] at hS hK ⊢
    rw [hN'] at hS ⊢
    have HN : Hid (w.heap.size = N) := hN'
    clear hN hN' hW1 hmk c12 c13 f12 f13 hr
    obtain ⟨f1, hr1, _, k12, k13, _⟩ := hS.row
    have m12 := hr1.cell (i := 12) (by omega)
    rw [k12] at m12
    have m13 := hr1.cell (i := 13) (by omega)
    rw [k13] at m13
    have m12f := hr1.frozen 12
    clear k12 k13 hr1
    obtain ⟨hS2, hK2⟩ := room_move hS.drew (by omega)
    obtain ⟨g, hq⟩ := hS.qrow
    obtain ⟨g', hs⟩ := hS.srow
    have SRC : Hid (∀ j v, (qcells I L n)[j]? = some v → W1.cell? ((⟨QB, 0, none⟩ : Addr).add j) = some v) := qcells_src hq (Nat.le_refl _)
    have dst : Hid (∀ j, j < (qcells I L n).length → (W1.cell? ⟨N, 0 + j, none⟩).isSome = true ∧ W1.frozen? ⟨N, 0 + j, none⟩ = false) := fun j hj => by
      rw [qcells_len] at hj
      rw [Nat.zero_add, hs.cell (by omega), hs.frozen j]
      exact ⟨rfl, rfl⟩
    have e12 : (W1.drew.setCells N 0 (qcells I L n)).cell? ⟨sb, 12, none⟩ = some (.slice (some ⟨QB, 0, none⟩) n n) := (World.cell?_setCells_out N (qcells I L n) 0 W1.drew ⟨sb, 12, none⟩ (fun e => absurd e.symm hS.hs)).trans m12
    have e13 : (W1.drew.setCells N 0 (qcells I L n)).cell? ⟨sb, 13, none⟩ = some (.slice (some ⟨N, 0, none⟩) (2 * n + 8) (2 * n + 8)) := (World.cell?_setCells_out N (qcells I L n) 0 W1.drew ⟨sb, 13, none⟩ (fun e => absurd e.symm hS.hs)).trans m13
    have ef : (W1.drew.setCells N 0 (qcells I L n)).frozen? ⟨sb, 12, none⟩ = false := (World.frozen?_setCells N (qcells I L n) 0 W1.drew ⟨sb, 12, none⟩).trans m12f
    clear hq hs
    go_region_law (refine step_copy_big rfl (.tmp 34) (.tmp 38) 47 rfl 50 i0 14 Try.underlying47 HI.out hz1 N 0 (2 * n + 8) (2 * n + 8) (by simp [Act.eval]) ⟨QB, 0, none⟩ n n (by simp [Act.eval]) n (Nat.min_eq_left (by omega)) (qcells I L n) (qcells_len _ _ _) SRC.out (qcells_one _ _ _) dst.out ?_)
    all_goals
      go_wp2
      go_end0
      exact ⟨rfl, N, (2 * n + 8), N, (2 * n + 8), hS2, by omega, (hK.trans' (Kept.ofDrew hK2) (fun i hi e => by have := HN.out; omega)), (.inr (by have := HN.out; omega)), .inr rfl⟩
  · have x2' : ¬ (sc : Int) < 2 * (n : Int) + 1 := by omega
    have s1 := fun w a => slice47_front w a sc sc n (by omega) (Nat.le_refl _)
    have HI : Hid (Try.prog.info? 50 = some i0) := hi
    clear hi hz0 hz2 hr
    obtain ⟨hS2, hK2⟩ := room_move h.drew (by omega)
    obtain ⟨g, hq⟩ := h.qrow
    obtain ⟨g', hs⟩ := h.srow
    have SRC : Hid (∀ j v, (qcells I L n)[j]? = some v → w.cell? ((⟨QB, 0, none⟩ : Addr).add j) = some v) := qcells_src hq (Nat.le_refl _)
    have dst : Hid (∀ j, j < (qcells I L n).length → (w.cell? ⟨SB, 0 + j, none⟩).isSome = true ∧ w.frozen? ⟨SB, 0 + j, none⟩ = false) := fun j hj => by
      rw [qcells_len] at hj
      rw [Nat.zero_add, hs.cell (by omega), hs.frozen j]
      exact ⟨rfl, rfl⟩
    have e12 : (w.drew.setCells SB 0 (qcells I L n)).cell? ⟨sb, 12, none⟩ = some (.slice (some ⟨QB, 0, none⟩) n n) := (World.cell?_setCells_out SB (qcells I L n) 0 w.drew ⟨sb, 12, none⟩ (fun e => absurd e.symm h.hs)).trans c12
    have e13 : (w.drew.setCells SB 0 (qcells I L n)).cell? ⟨sb, 13, none⟩ = some (.slice (some ⟨SB, 0, none⟩) sc sc) := (World.cell?_setCells_out SB (qcells I L n) 0 w.drew ⟨sb, 13, none⟩ (fun e => absurd e.symm h.hs)).trans c13
    have ef : (w.drew.setCells SB 0 (qcells I L n)).frozen? ⟨sb, 12, none⟩ = false := (World.frozen?_setCells SB (qcells I L n) 0 w.drew ⟨sb, 12, none⟩).trans f12
    clear hq hs
    go_enter Try.func30, Try.ntmps30
    go_wp2
    go_region_law (refine step_copy_big rfl (.tmp 34) (.tmp 38) 47 rfl 50 i0 14 Try.underlying47 HI.out hz1 SB 0 sc sc (by simp [Act.eval]) ⟨QB, 0, none⟩ n n (by simp [Act.eval]) n (Nat.min_eq_left (by omega)) (qcells I L n) (qcells_len _ _ _) SRC.out (qcells_one _ _ _) dst.out ?_)
    all_goals
      go_wp2
      go_end0
      exact ⟨rfl, SB, sc, SB, sc, hS2, by omega, (Kept.ofDrew hK2), (.inl rfl), .inr rfl⟩
end Go.Proofs.Qxb6619931a
