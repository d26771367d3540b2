import Derived.Test.Qxb6621652aParts
import Derived.Laws.MakeOwn
namespace Go.Proofs.Qxb6621652a
open Go.RowKit

/-! ### zzConserves -/
def sumh (h : Nat → Nat) : Nat → Nat
  | 0 => 0
  | k + 1 => sumh h k + h k
theorem sumh_succ (h : Nat → Nat) (k : Nat) : sumh h (k + 1) = sumh h k + h k := rfl
theorem sumh_mono (h : Nat → Nat) {k n : Nat} (hk : k ≤ n) : sumh h k ≤ sumh h n := by
  induction n with
  | zero => have : k = 0 := by omega
            subst this; exact Nat.le_refl _
  | succ n ih =>
    rcases Nat.lt_or_eq_of_le hk with h' | h'
    · have := ih (by omega); rw [sumh_succ]; omega
    · subst h'; exact Nat.le_refl _

set_option maxHeartbeats 1000000 in
theorem cons_any (hb n u t : Nat) (h : Nat → Nat) (w : World) (hn : n ≤ 1048576) (ht : t ≤ 1048577) (hr : w.rowIs hb 3 n (fun i => .int .i64 (h i : Nat))) (hs : u + sumh h n = t) :
    Calls Try.prog 11 #[.slice (some ⟨hb, 0, none⟩) n n, .int .i64 u, .int .i64 n, .int .i64 t] w fun e w' => e = .returned (.bool true) ∧ w = w' := by
  have hut : u ≤ t := by omega
  have HS : Hid (u + sumh h n = t) := hs
  clear hs
  have d1 : decide ((u : Int) < 0) = false := decide_eq_false (by omega)
  have d2 : decide ((t : Int) < (u : Int)) = false := decide_eq_false (by omega)
  have d3 : decide (t < u) = false := decide_eq_false (by omega)
  go_enter Try.func11, Try.ntmps11
  go_wp2
  go_loopg [9, 10] n (fun gh z i wr => ∃ k : Nat, k ≤ n ∧ gh = n - k ∧ i = .int .i64 k ∧ z = .int .i64 (u + sumh h k : Nat) ∧ w = wr)
  case atStart => exact ⟨0, Nat.zero_le _, rfl, rfl, rfl, rfl⟩
  case round =>
    obtain ⟨k, hk, rfl, rfl, rfl, rfl⟩ := hrel
    by_cases hlt : k < n
    · have hlz : (k : Int) < (n : Int) := by omega
      have g0 : w.cell? ⟨hb, k, none⟩ = some (.int .i64 (h k : Nat)) := hr.cell hlt
      have m1 : u + (sumh h k + h k) ≤ t := by
        have h1 := sumh_mono h (show k + 1 ≤ n from hlt)
        have h2 := HS.out
        rw [sumh_succ] at h1
        omega
      go_wp2
      go_roundg (n - (k + 1))
      case measure => omega
      case rel => exact ⟨k + 1, by omega, rfl, by simp, by simp [sumh]; omega, rfl⟩
    obtain rfl : n = k := by omega
    have e0 : ((u + sumh h n : Nat) : Int) = (t : Int) := by have := HS.out; omega
    go_wp2
    go_ret
    exact ⟨by simp, rfl⟩

/-! ### zzNodes: a slice of three-cell structs; only its length is told on -/
theorem info41 : (Try.prog.info? 41).map (fun i => (i.zero, i.size, i.bytes)) = some (some (.agg #[.string ByteArray.empty, .string ByteArray.empty, .float .f64 0]), 3, 40) := by kernel_rfl

theorem run_store_float {P : Program} (w : World) (a : Addr) (m : Mode) (k : FloatKind) (x : Nat) : (store a (.float k x) m).run P w = stored P w a (.float k x) m := run_store P w a _ m rfl
attribute [local go_sem] run_store_float

structure NodesIs (w wr : World) (n : Nat) : Prop where
  below : Below w.heap.size w wr
  row : ∃ f, wr.rowIs w.heap.size 41 (n * 3) f

set_option maxHeartbeats 1000000 in
theorem nodes_any (a1 : Option Addr) (b1 o1 n c1 : Nat) (S1 : Nat → ByteArray) (a2 : Option Addr) (b2 o2 c2 : Nat) (S2 : Nat → ByteArray) (a3 : Option Addr) (b3 o3 c3 : Nat) (Wt : Nat → Nat) (w : World) (hn : n ≤ 1048576)
    (h1 : Strs w a1 b1 o1 n S1) (h2 : Strs w a2 b2 o2 n S2) (h3 : 0 < n → a3 = some ⟨b3, o3, none⟩) (h3' : ∀ i, i < n → w.cell? ⟨b3, o3 + i, none⟩ = some (.float .f64 (Wt i))) :
    Calls Try.prog 9 #[.slice a1 n c1, .slice a2 n c2, .slice a3 n c3] w fun e w' => e = .returned (.slice (some ⟨w.heap.size, 0, none⟩) n n) ∧ Below w.heap.size w w' := by
  have hmk : ∀ w, (Instr.makeSlice 29 (.int .i64 (n : Int)) (.int .i64 (n : Int))).run Try.prog w = .ok (.slice (some ⟨w.heap.size, 0, none⟩) n n) (w.alloc (.cells (madeCells #[.string ByteArray.empty, .string ByteArray.empty, .float .f64 0] (n * 3)) 41)) := fun w => by
    obtain ⟨i, hi, hzz⟩ := Option.map_eq_some_iff.1 info41
    simp only [Prod.mk.injEq] at hzz
    obtain ⟨hz, hs, hb⟩ := hzz
    have hr := run_make (P := Try.prog) w 29 41 i _ Try.underlying29 hi hz .i64 .i64 n n (by omega) (Int.le_refl _) (by rw [hb]; omega) (by omega)
    simpa [hs, Value.cells] using hr
  go_enter Try.func9, Try.ntmps9
  go_wp2
  clear hmk
  go_loopg [8] n (fun gh i wr => ∃ k : Nat, k ≤ n ∧ gh = n - k ∧ i = .int .i64 k ∧ NodesIs w wr n)
  case atStart => exact ⟨0, Nat.zero_le _, rfl, rfl, (Below.refl _ _).alloc (Nat.le_refl _) _, _, ⟨_, Go.Deep.blk_alloc_new _ _, size_madeCells _ _, fun i hi => by simp [madeCells, hi]; rfl⟩⟩
  case round =>
    obtain ⟨k, hk, rfl, rfl, hb, f, hf⟩ := hrel
    by_cases hlt : k < n
    · have hlz : (k : Int) < (n : Int) := by omega
      obtain rfl := h1.at' (by omega)
      obtain rfl := h2.at' (by omega)
      obtain rfl := h3 (by omega)
      have g1 := cell_later hb (h1.cell k hlt)
      have g2 := cell_later hb (h2.cell k hlt)
      have g3 := cell_later hb (h3' k hlt)
      have k0 := hf.cell (i := k * 3) (by omega)
      have k1 := hf.cell (i := k * 3 + 1) (by omega)
      have k2 := hf.cell (i := k * 3 + 2) (by omega)
      have f0 := hf.frozen (k * 3)
      have f1 := hf.frozen (k * 3 + 1)
      have f2 := hf.frozen (k * 3 + 2)
      go_wp2
      go_region
      all_goals go_wp2
      all_goals
        go_roundg (n - (k + 1))
        case measure => omega
        case rel =>
          go_light
          exact ⟨k + 1, by omega, rfl, by simp, (((hb.setCell (Nat.le_refl _) _).setCell (Nat.le_refl _) _).setCell (Nat.le_refl _) _).drew, _, (((hf.set _ _).set _ _).set _ _).drew⟩
    · go_wp2
      go_ret
      exact ⟨rfl, hb⟩
end Go.Proofs.Qxb6621652a
