import Derived.Test.Qxb6621652aBase
namespace Go.Proofs.Qxb6621652a
open Go.RowKit

def FitsB (m t : Nat) (e : Ending) : Prop := ∃ b, e = .returned (.bool b) ∧ (b = true → m ≤ 1048576 ∧ t ≤ 1048576)
theorem fits_no (m t : Nat) : FitsB m t (.returned (.bool false)) := ⟨false, rfl, fun h => by cases h⟩
theorem fits_yes {m t : Nat} (h : m ≤ 1048576) (k : t ≤ 1048576) : FitsB m t (.returned (.bool true)) := ⟨true, rfl, fun _ => ⟨h, k⟩⟩

set_option maxHeartbeats 1000000 in
theorem fit_any (a1 : Option Addr) (b1 o1 n1 c1 : Nat) (S1 : Nat → ByteArray) (a2 : Option Addr) (b2 o2 n2 c2 : Nat) (S2 : Nat → ByteArray) (a3 : Option Addr) (n3 c3 : Nat) (a4 : Option Addr) (n4 c4 : Nat) (w : World)
    (h1 : Strs w a1 b1 o1 n1 S1) (h2 : Strs w a2 b2 o2 n2 S2) :
    Calls Try.prog 7 #[.slice a1 n1 c1, .slice a2 n2 c2, .slice a3 n3 c3, .slice a4 n4 c4] w fun e w' => FitsB n1 n4 e ∧ w = w' := by
  by_cases x1 : (1048576 : Int) < (n1 : Int)
  · go_enter Try.func7, Try.ntmps7
    go_wp2
    go_ret
    exact ⟨fits_no _ _, rfl⟩
  by_cases x2 : (1048576 : Int) < (n2 : Int)
  · go_enter Try.func7, Try.ntmps7
    go_wp2
    go_ret
    exact ⟨fits_no _ _, rfl⟩
  by_cases x3 : (1048576 : Int) < (n3 : Int)
  · go_enter Try.func7, Try.ntmps7
    go_wp2
    go_ret
    exact ⟨fits_no _ _, rfl⟩
  by_cases x4 : (1048576 : Int) < (n4 : Int)
  · go_enter Try.func7, Try.ntmps7
    go_wp2
    go_ret
    exact ⟨fits_no _ _, rfl⟩
  have y1 : n1 ≤ 1048576 := by omega
  have y4 : n4 ≤ 1048576 := by omega
  have y2 : n2 ≤ 1048576 := by omega
  have d1 : decide ((1048576 : Int) < (n1 : Int)) = false := decide_eq_false x1
  have d2 : decide ((1048576 : Int) < (n2 : Int)) = false := decide_eq_false x2
  have d3 : decide ((1048576 : Int) < (n3 : Int)) = false := decide_eq_false x3
  have d4 : decide ((1048576 : Int) < (n4 : Int)) = false := decide_eq_false x4
  go_enter Try.func7, Try.ntmps7
  go_wp2
  · go_ret
    exact ⟨fits_no _ _, rfl⟩
  clear d1 d2 d3 d4
  go_loopg [9, 10] n1 (fun gh t i wr => ∃ (z : Int) (k : Nat), t = .int .i64 z ∧ k ≤ n1 ∧ gh = n1 - k ∧ i = .int .i64 k ∧ w = wr)
  case atStart => exact ⟨_, 0, rfl, Nat.zero_le _, rfl, rfl, rfl⟩
  case round =>
    obtain ⟨z, k, rfl, hk, rfl, rfl, rfl⟩ := hrel
    by_cases hlt : k < n1
    · obtain rfl := h1.at' (by omega)
      have hlz : (k : Int) < (n1 : Int) := by omega
      have g0 := h1.cell k hlt
      go_wp2
      all_goals first | (go_ret; exact ⟨fits_no _ _, rfl⟩) | skip
      go_roundg (n1 - (k + 1))
      case measure => omega
      case rel =>
        go_light
        exact ⟨_, k + 1, rfl, by omega, rfl, by simp, rfl⟩
    go_wp2
    go_loopg [9, 11] n2 (fun gh t i wr => ∃ (z : Int) (k : Nat), t = .int .i64 z ∧ k ≤ n2 ∧ gh = n2 - k ∧ i = .int .i64 k ∧ w = wr)
    case atStart => exact ⟨_, 0, rfl, Nat.zero_le _, rfl, rfl, rfl⟩
    case round =>
      obtain ⟨z, k, rfl, hk, rfl, rfl, rfl⟩ := hrel
      by_cases hlt : k < n2
      · obtain rfl := h2.at' (by omega)
        have hlz : (k : Int) < (n2 : Int) := by omega
        have g0 := h2.cell k hlt
        go_wp2
        all_goals first | (go_ret; exact ⟨fits_no _ _, rfl⟩) | skip
        go_roundg (n2 - (k + 1))
        case measure => omega
        case rel =>
          go_light
          exact ⟨_, k + 1, rfl, by omega, rfl, by simp, rfl⟩
      go_wp2
      go_ret
      exact ⟨fits_yes y1 y4, rfl⟩

/-- The table, as it lies. -/
structure Tbl (w : World) (a : Option Addr) (b off t : Nat) (V : Nat → Int) : Prop where
  at' : 0 < t → a = some ⟨b, off, none⟩
  cell : ∀ i, i < t → w.cell? ⟨b, off + i, none⟩ = some (.int .u16 (V i))
  wf : ∀ i, i < t → 0 ≤ V i ∧ V i ≤ 65535

theorem Tbl.below {w w' : World} {a : Option Addr} {b off t : Nat} {V : Nat → Int} (h : Tbl w a b off t V) (k : Below w.heap.size w w') : Tbl w' a b off t V :=
  ⟨h.at', fun i hi => cell_later k (h.cell i hi), h.wf⟩

def Valid (n t : Nat) (V : Nat → Int) : Prop := ∀ i, i < t → V i = 65535 ∨ V i < n
def ValidB (n t : Nat) (V : Nat → Int) (e : Ending) : Prop := ∃ b, e = .returned (.bool b) ∧ (b = true → Valid n t V)
theorem valid_no (n t : Nat) (V : Nat → Int) : ValidB n t V (.returned (.bool false)) := ⟨false, rfl, fun h => by cases h⟩
theorem valid_yes {n t : Nat} {V : Nat → Int} (h : Valid n t V) : ValidB n t V (.returned (.bool true)) := ⟨true, rfl, fun _ => h⟩
theorem valid_step {n k : Nat} {V : Nat → Int} (h : Valid n k V) (hk : V k = 65535 ∨ V k < n) : Valid n (k + 1) V := fun i hi => by
  rcases Nat.lt_or_eq_of_le (Nat.le_of_lt_succ hi) with h' | h'
  · exact h i h'
  · subst h'; exact hk

set_option maxHeartbeats 1000000 in
theorem valid_any (a : Option Addr) (b off t c n : Nat) (V : Nat → Int) (w : World) (ht : t ≤ 1048576) (h : Tbl w a b off t V) :
    Calls Try.prog 8 #[.slice a t c, .int .i64 n] w fun e w' => ValidB n t V e ∧ w = w' := by
  go_enter Try.func8, Try.ntmps8
  go_wp2
  go_loopg [5] t (fun gh i wr => ∃ k : Nat, k ≤ t ∧ gh = t - k ∧ i = .int .i64 k ∧ Valid n k V ∧ w = wr)
  case atStart => exact ⟨0, Nat.zero_le _, rfl, rfl, fun i hi => absurd hi (Nat.not_lt_zero _), rfl⟩
  case round =>
    obtain ⟨k, hk, rfl, rfl, hV, rfl⟩ := hrel
    by_cases hlt : k < t
    · obtain rfl := h.at' (by omega)
      have hlz : (k : Int) < (t : Int) := by omega
      have g0 := h.cell k hlt
      obtain ⟨v0, v1⟩ := h.wf k hlt
      by_cases e1 : V k = 65535
      · have e1' : ((V k) != 65535) = false := by simp [e1]
        have E : Hid (V k = 65535) := e1
        clear e1
        go_wp2
        go_roundg (t - (k + 1))
        case measure => omega
        case rel => exact ⟨k + 1, by omega, rfl, by simp, valid_step hV (.inl E.out), rfl⟩
      · have e1' : ((V k) != 65535) = true := by simp [e1]
        by_cases e2 : (n : Int) ≤ V k
        · go_wp2
          go_ret
          exact ⟨valid_no _ _ _, rfl⟩
        · go_wp2
          go_roundg (t - (k + 1))
          case measure => omega
          case rel => exact ⟨k + 1, by omega, rfl, by simp, valid_step hV (.inr (by omega)), rfl⟩
    obtain rfl : t = k := by omega
    go_wp2
    go_ret
    exact ⟨valid_yes hV, rfl⟩

/-! ### The counts -/
def cnt (V : Nat → Int) (x : Int) : Nat → Nat
  | 0 => 0
  | k + 1 => cnt V x k + if V k = x then 1 else 0
theorem cnt_le (V : Nat → Int) (x : Int) : ∀ k, cnt V x k ≤ k
  | 0 => Nat.le_refl _
  | k + 1 => by have := cnt_le V x k; unfold cnt; split <;> omega
/-- What node i holds after k entries. -/
def hc (V : Nat → Int) (i k : Nat) : Nat := if i = 65535 then 0 else cnt V i k
theorem hc_le (V : Nat → Int) (i k : Nat) : hc V i k ≤ k := by unfold hc; split; exact Nat.zero_le _; exact cnt_le V i k

structure HeldIs (w wr : World) (n k : Nat) (V : Nat → Int) : Prop where
  below : Below w.heap.size w wr
  size : wr.heap.size = w.heap.size + 1
  row : wr.rowIs w.heap.size 3 n (fun i => .int .i64 (hc V i k))

theorem held_start (w : World) (n : Nat) (V : Nat → Int) : HeldIs w (w.alloc (.cells (madeCells #[.int .i64 0] n) 3)) n 0 V :=
  ⟨(Below.refl _ _).alloc (Nat.le_refl _) _, by simp, (World.rowIs_made w _ n 3).congr (fun j _ => by simp [hc, cnt])⟩
theorem held_un {w wr : World} {n k : Nat} {V : Nat → Int} (h : HeldIs w wr n k V) (hk : V k = 65535) : HeldIs w wr n (k + 1) V :=
  ⟨h.below, h.size, h.row.congr (fun j _ => by
    by_cases e : j = 65535
    · simp [hc, e]
    · have : ¬ V k = (j : Int) := by omega
      simp [hc, cnt, e, this])⟩
theorem held_hit {w wr : World} {n k i : Nat} {V : Nat → Int} (h : HeldIs w wr n k V) (hk : V k = i) (hu : V k ≠ 65535) : HeldIs w (wr.setCell ⟨w.heap.size, i, none⟩ (.int .i64 ((hc V i k : Nat) + 1))) n (k + 1) V :=
  ⟨h.below.setCell (Nat.le_refl _) _, by simp [h.size], (h.row.set i _).congr (fun j _ => by
    have hi : i ≠ 65535 := by omega
    by_cases e : j = i
    · subst e
      simp [hc, cnt, hk, hi]
    · rw [if_neg e]
      by_cases e' : j = 65535
      · simp [hc, e']
      · have : ¬ V k = (j : Int) := by omega
        simp [hc, cnt, e', this])⟩

set_option maxHeartbeats 1000000 in
theorem held_any (tb : Nat) (na : Option Addr) (n nc : Nat) (a : Option Addr) (b off t c : Nat) (V : Nat → Int) (w : World) (hn : n ≤ 1048576) (ht : t ≤ 1048577) (h : Tbl w a b off t V) (hv : Valid n t V)
    (c2 : w.cell? ⟨tb, 2, none⟩ = some (.slice na n nc)) (c3 : w.cell? ⟨tb, 3, none⟩ = some (.slice a t c)) :
    Calls Try.prog 10 #[.pointer (some ⟨tb, 0, none⟩)] w fun e w' => e = .returned (.tuple #[.slice (some ⟨w.heap.size, 0, none⟩) n n, .int .i64 (cnt V 65535 t : Nat)]) ∧ HeldIs w w' n t V := by
  have hmk := run_make_row' (P := Try.prog) 34 3 (.int .i64 0) 8 Try.underlying34 info3 rfl .i64 .i64 n (by omega) (by omega)
  have tlt : tb < w.heap.size := World.block_lt_of_cell? _ _ c3
  go_enter Try.func10, Try.ntmps10
  go_wp2
  clear hmk
  go_loopg [3, 17] t (fun gh u i wr => ∃ k : Nat, k ≤ t ∧ gh = t - k ∧ i = .int .i64 k ∧ u = .int .i64 (cnt V 65535 k : Nat) ∧ HeldIs w wr n k V)
  case atStart => exact ⟨0, Nat.zero_le _, rfl, rfl, rfl, held_start w n V⟩
  case round =>
    obtain ⟨k, hk, rfl, rfl, rfl, hH⟩ := hrel
    have hcl := cnt_le V 65535 k
    by_cases hlt : k < t
    · obtain rfl := h.at' (by omega)
      have hlz : (k : Int) < (t : Int) := by omega
      have g0 : wr.cell? ⟨b, off + k, none⟩ = some (.int .u16 (V k)) := cell_later hH.below (h.cell k hlt)
      obtain ⟨v0, v1⟩ := h.wf k hlt
      by_cases e1 : V k = 65535
      · have e1' : ((V k) == 65535) = true := by simp [e1]
        have E : Hid (V k = 65535) := e1
        clear e1
        go_wp2
        go_roundg (t - (k + 1))
        case measure => omega
        case rel => exact ⟨k + 1, by omega, rfl, by simp, by simp [cnt, E.out], held_un hH E.out⟩
      · have e1' : ((V k) == 65535) = false := by simp [e1]
        obtain ⟨i, hi⟩ : ∃ i : Nat, V k = i := ⟨(V k).toNat, by omega⟩
        have hin : i < n := by rcases hv k hlt with h' | h' <;> omega
        rw [hi] at g0 e1'
        have hiz : (i : Int) < (n : Int) := by omega
        have g1 : wr.cell? ⟨w.heap.size, i, none⟩ = some (.int .i64 (hc V i k : Nat)) := hH.row.cell hin
        have g2 : wr.frozen? ⟨w.heap.size, i, none⟩ = false := hH.row.frozen i
        have hl := hc_le V i k
        have HI : Hid (V k = i) := hi
        clear hi
        go_wp2
        go_roundg (t - (k + 1))
        case measure => omega
        case rel => exact ⟨k + 1, by omega, rfl, by simp, by simp [cnt, e1], held_hit hH HI.out e1⟩
    obtain rfl : t = k := by omega
    go_wp2
    go_ret2
    exact ⟨rfl, hH⟩
end Go.Proofs.Qxb6621652a
