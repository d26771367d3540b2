import Derived.Test.Qxb6619931aBase
namespace Go.Proofs.Qxb6619931a
open Go.RowKit

/-- A row of tokens: the first n hold the ids I and the levels L; behind them whatever. -/
def qf (I L : Nat → Int) (n : Nat) (g : Nat → Value) : Nat → Value := fun x => if x < n * 14 then (tok (I (x / 14)) (L (x / 14))).getD (x % 14) (.bool false) else g x

theorem qf_at (I L : Nat → Int) (n : Nat) (g : Nat → Value) (i j : Nat) (hi : i < n) (hj : j < 14) : qf I L n g (i * 14 + j) = (tok (I i) (L i)).getD j (.bool false) := by
  unfold qf
  have h1 : (i * 14 + j) / 14 = i := by omega
  have h2 : (i * 14 + j) % 14 = j := by omega
  rw [if_pos (by omega), h1, h2]

/-- One token more. -/
theorem qf_push (I L : Nat → Int) (n : Nat) (g : Nat → Value) (x : Nat) :
    qf I L (n + 1) g x = if n * 14 ≤ x ∧ x < n * 14 + (tok (I n) (L n)).toList.length then (tok (I n) (L n)).toList.getD (x - n * 14) (.bool false) else qf I L n g x := by
  have hl : (tok (I n) (L n)).toList.length = 14 := rfl
  rw [hl]
  by_cases h : n * 14 ≤ x ∧ x < n * 14 + 14
  · rw [if_pos h]
    obtain ⟨j, rfl⟩ : ∃ j, x = n * 14 + j := ⟨x - n * 14, by omega⟩
    rw [qf_at I L (n + 1) g n j (by omega) (by omega)]
    have : n * 14 + j - n * 14 = j := by omega
    rw [this]
    simp
  · rw [if_neg h]
    unfold qf
    by_cases h2 : x < n * 14
    · rw [if_pos h2, if_pos (by omega)]
    · rw [if_neg h2, if_neg (by omega)]

structure NewQ (w wr : World) (c k : Nat) (I L : Nat → Int) (z : Nat → Value) : Prop where
  below : Below w.heap.size w wr
  size : wr.heap.size = w.heap.size + 1
  row : wr.rowIs w.heap.size 50 (c * 14) (qf I L k z)

theorem newq_step' {w wr : World} {c k : Nat} {I L : Nat → Int} {z : Nat → Value} (vs : List Value) (hvs : vs = (tok (I k) (L k)).toList) (h : NewQ w wr c k I L z) : NewQ w (wr.setCells w.heap.size (k * 14) vs).drew c (k + 1) I L z := by
  have h1 : Kept (fun i => i = w.heap.size) w (wr.setCells w.heap.size (k * 14) vs) := Kept.setCells (T := fun i => i = w.heap.size) (g := w.heap.size) rfl vs (k * 14) wr (Kept.ofBelow h.below _)
  have h2 : (wr.setCells w.heap.size (k * 14) vs).heap.size = wr.heap.size := heap_setCells w.heap.size vs (k * 14) wr
  have h3 := rowIs_setCells vs (k * 14) wr _ h.row
  have h4 : (wr.setCells w.heap.size (k * 14) vs).rowIs w.heap.size 50 (c * 14) (qf I L (k + 1) z) := h3.congr (fun x _ => by rw [hvs]; exact (qf_push I L k z x).symm)
  exact ⟨(h1.below (Nat.le_refl _) (fun i e => by omega)).drew, h2.trans h.size, h4.drew⟩
theorem newq_step {w wr : World} {c k : Nat} {I L : Nat → Int} {z : Nat → Value} (h : NewQ w wr c k I L z) : NewQ w (wr.setCells w.heap.size (k * 14) (tok (I k) (L k)).toList).drew c (k + 1) I L z := newq_step' _ rfl h

/-- THE SCANNER, AS IT LIES: its block, its queue (n tokens, room for qc), its store (sc tokens). -/
structure Scan (w : World) (sb : Nat) (fl tk : Int) (dc : Bool) (QB qc n SB sc : Nat) (I L : Nat → Int) : Prop where
  row : ∃ h : Nat → Value, w.rowIs sb 52 31 h ∧ h 4 = .int .i64 fl ∧ h 12 = .slice (some ⟨QB, 0, none⟩) n qc ∧ h 13 = .slice (some ⟨SB, 0, none⟩) sc sc ∧ h 14 = .int .i64 tk ∧ h 30 = .bool dc
  hn : n ≤ qc
  hq : QB ≠ sb
  hs : SB ≠ sb
  one : QB = SB → qc = sc
  qrow : ∃ g, w.rowIs QB 50 (qc * 14) (qf I L n g)
  srow : ∃ g, w.rowIs SB 50 (sc * 14) g

theorem new_scan {w wr : World} {c n sl : Nat} {tk : Int} {dc : Bool} {I L : Nat → Int} {z : Nat → Value} (hn : n ≤ c) (hQ : NewQ w wr c n I L z) (X : Array Value) (hX : X.size = 31) (h4 : X[4]? = some (.int .i64 0))
    (h12 : X[12]? = some (.slice (some ⟨w.heap.size, 0, none⟩) n c)) (h13 : X[13]? = some (.slice (some ⟨w.heap.size + 1, 0, none⟩) sl sl)) (h14 : X[14]? = some (.int .i64 tk)) (h30 : X[30]? = some (.bool dc)) :
    Below w.heap.size w ((wr.alloc (.cells (madeCells (tok 0 0) (sl * 14)) 50)).alloc (.cells X 52)) ∧ ((wr.alloc (.cells (madeCells (tok 0 0) (sl * 14)) 50)).alloc (.cells X 52)).heap.size = w.heap.size + 3 ∧
      Scan ((wr.alloc (.cells (madeCells (tok 0 0) (sl * 14)) 50)).alloc (.cells X 52)) (w.heap.size + 2) 0 tk dc w.heap.size c n (w.heap.size + 1) sl I L := by
  have hs := hQ.size
  have hr := World.rowIs_alloc (wr.alloc (.cells (madeCells (tok 0 0) (sl * 14)) 50)) X 52 (fun j => (X[j]?).getD (.bool false)) (fun i hi => by simp [hi])
  have e : (wr.alloc (.cells (madeCells (tok 0 0) (sl * 14)) 50)).heap.size = w.heap.size + 2 := by simp [hs]
  rw [e, hX] at hr
  have hm := World.rowIs_alloc wr (madeCells (tok 0 0) (sl * 14)) 50 (fun j => ((madeCells (tok 0 0) (sl * 14))[j]?).getD (.bool false)) (fun i hi => by simp [hi])
  rw [hs, size_madeCells] at hm
  refine ⟨(hQ.below.alloc (by omega) _).alloc (by simp; omega) _, by simp [hs], ⟨_, hr, by simp [h4], by simp [h12], by simp [h13], by simp [h14], by simp [h30]⟩, hn, by omega, by omega, by omega, ⟨_, (hQ.row.alloc _).alloc _⟩, ⟨_, hm.alloc _⟩⟩

set_option maxRecDepth 100000 in
set_option maxHeartbeats 2000000 in
theorem new_any (a1 : Option Addr) (b1 o1 n c1 : Nat) (I : Nat → Int) (a2 : Option Addr) (b2 o2 c2 : Nat) (L : Nat → Int) (sp sl : Nat) (tk : Int) (dc : Bool) (w : World)
    (hn : n ≤ 16384) (hsp : sp ≤ 4096) (hsl : sl ≤ 4096)
    (h1 : 0 < n → a1 = some ⟨b1, o1, none⟩) (h1' : ∀ i, i < n → w.cell? ⟨b1, o1 + i, none⟩ = some (.int .i64 (I i)))
    (h2 : 0 < n → a2 = some ⟨b2, o2, none⟩) (h2' : ∀ i, i < n → w.cell? ⟨b2, o2 + i, none⟩ = some (.int .i64 (L i))) :
    Calls Try.prog 14 #[.slice a1 n c1, .slice a2 n c2, .int .i64 sp, .int .i64 sl, .int .i64 tk, .bool dc] w fun e w' => e = .returned (.pointer (some ⟨w.heap.size + 2, 0, none⟩)) ∧ Below w.heap.size w w' ∧ w'.heap.size = w.heap.size + 3 ∧ Scan w' (w.heap.size + 2) 0 tk dc w.heap.size (n + sp) n (w.heap.size + 1) sl I L := by
  obtain ⟨i0, hi, hz0, hz1, hz2⟩ := info_parts info50
  have hmk : ∀ w, (Instr.makeSlice 47 (.int .i64 (n : Int)) (.int .i64 ((n : Int) + (sp : Int)))).run Try.prog w = .ok (.slice (some ⟨w.heap.size, 0, none⟩) n (n + sp)) (w.alloc (.cells (madeCells (tok 0 0) ((n + sp) * 14)) 50)) := fun w => by
    have hr := run_make (P := Try.prog) w 47 50 i0 _ Try.underlying47 hi hz0 .i64 .i64 n ((n : Int) + (sp : Int)) (by omega) (by omega) (by rw [hz2]; omega) (by omega)
    have e : ((n : Int) + (sp : Int)).toNat = n + sp := by omega
    rw [e] at hr
    simpa [hz1, Value.cells] using hr
  have hmk2 : ∀ w, (Instr.makeSlice 47 (.int .i64 (sl : Int)) (.int .i64 (sl : Int))).run Try.prog w = .ok (.slice (some ⟨w.heap.size, 0, none⟩) sl sl) (w.alloc (.cells (madeCells (tok 0 0) (sl * 14)) 50)) := fun w => by
    have hr := run_make (P := Try.prog) w 47 50 i0 _ Try.underlying47 hi hz0 .i64 .i64 sl sl (by omega) (by omega) (by rw [hz2]; omega) (by omega)
    simpa [hz1, Value.cells] using hr
  clear hi hz0 hz1 hz2
  go_enter Try.func14, Try.ntmps14
  go_wp2
  clear hmk
  go_loopg [14] n (fun gh i wr => ∃ k : Nat, k ≤ n ∧ gh = n - k ∧ i = .int .i64 k ∧ ∃ z, NewQ w wr (n + sp) k I L z)
  case atStart => exact ⟨0, Nat.zero_le _, rfl, rfl, _, (Below.refl _ _).alloc (Nat.le_refl _) _, by simp, ⟨_, Go.Deep.blk_alloc_new _ _, size_madeCells _ _, fun i hi => by simp [madeCells, hi, qf]; rfl⟩⟩
  case round =>
    obtain ⟨k, hk, rfl, rfl, z, hQ⟩ := hrel
    by_cases hlt : k < n
    · obtain rfl := h1 (by omega)
      obtain rfl := h2 (by omega)
      have hlz : (k : Int) < (n : Int) := by omega
      have g1 := cell_later hQ.below (h1' k hlt)
      have g2 := cell_later hQ.below (h2' k hlt)
      have cc : ∀ j, j < 14 → wr.cell? ⟨w.heap.size, k * 14 + j, none⟩ = some (qf I L k z (k * 14 + j)) := fun j hj => hQ.row.cell (by omega)
      have c0 : wr.cell? ⟨w.heap.size, k * 14, none⟩ = some (qf I L k z (k * 14)) := cc 0 (by omega)
      have c1 := cc 1 (by omega)
      have c2 := cc 2 (by omega)
      have c3 := cc 3 (by omega)
      have c4 := cc 4 (by omega)
      have c5 := cc 5 (by omega)
      have c6 := cc 6 (by omega)
      have c7 := cc 7 (by omega)
      have c8 := cc 8 (by omega)
      have c9 := cc 9 (by omega)
      have c10 := cc 10 (by omega)
      have c11 := cc 11 (by omega)
      have c12 := cc 12 (by omega)
      have c13 := cc 13 (by omega)
      clear cc
      have ff := hQ.row.frozen
      go_wp2
      go_region
      all_goals go_wp2
      all_goals
        go_roundg (n - (k + 1))
        case measure => omega
        case rel =>
          go_light
          refine ⟨k + 1, by omega, rfl, by simp, z, ?_⟩
          exact newq_step hQ
    · obtain rfl : n = k := by omega
      have hsz := hQ.size
      go_wp2
      go_ret
      exact ⟨rfl, new_scan (by omega) hQ _ rfl rfl rfl rfl rfl rfl⟩
end Go.Proofs.Qxb6619931a
