import Derived.Test.Qxb6619410aRows
import Derived.WalkKit
import Derived.WalkSpells
import Derived.WalkLawsBesides
import Derived.Deep.OwnRows
import Derived.Deep.LoopGhost
import Derived.Deep.Draws
namespace Go.Proofs.Qxb6619410a
open Go.RowKit

/-- The bits that an operation on two float64s gives in a world: where it is invalid, a NaN off the tape. -/
def fres (op : BinOp) (x y : Nat) (w : World) : Nat :=
  match floatBits op .f64 x y with
  | some z => z
  | none => (Question.nanBits .f64 x y).cut (w.tape w.drawn (.nanBits .f64 x y))
/-- How many draws it makes. -/
def fcnt (op : BinOp) (x y : Nat) : Nat :=
  match floatBits op .f64 x y with
  | some _ => 0
  | none => 1

theorem run_float_op {P : Program} (op : BinOp) (hop : op = .add ∨ op = .sub ∨ op = .mul ∨ op = .quo) (t : TypeId) (x y : Nat) (w : World) :
    (binOp op t (.float .f64 x) (.float .f64 y)).run P w = .ok (.float .f64 (fres op x y w)) (w.drewN (fcnt op x y)) := by
  unfold fres fcnt
  cases h : floatBits op .f64 x y with
  | some z => exact run_float_arith w op t .f64 x y z h
  | none =>
    rcases hop with rfl | rfl | rfl | rfl
    all_goals
      have h1 := h
      simp only [floatBits] at h1
      simp [binOp, Op.floatArith, h1, Question.forced, World.drew_is_drewN]

theorem run_add {P : Program} (t : TypeId) (x y : Nat) (w : World) : (binOp .add t (.float .f64 x) (.float .f64 y)).run P w = .ok (.float .f64 (fres .add x y w)) (w.drewN (fcnt .add x y)) := run_float_op .add (.inl rfl) t x y w
theorem run_sub {P : Program} (t : TypeId) (x y : Nat) (w : World) : (binOp .sub t (.float .f64 x) (.float .f64 y)).run P w = .ok (.float .f64 (fres .sub x y w)) (w.drewN (fcnt .sub x y)) := run_float_op .sub (.inr (.inl rfl)) t x y w
theorem run_mul {P : Program} (t : TypeId) (x y : Nat) (w : World) : (binOp .mul t (.float .f64 x) (.float .f64 y)).run P w = .ok (.float .f64 (fres .mul x y w)) (w.drewN (fcnt .mul x y)) := run_float_op .mul (.inr (.inr (.inl rfl))) t x y w
theorem run_quo {P : Program} (t : TypeId) (x y : Nat) (w : World) : (binOp .quo t (.float .f64 x) (.float .f64 y)).run P w = .ok (.float .f64 (fres .quo x y w)) (w.drewN (fcnt .quo x y)) := run_float_op .quo (.inr (.inr (.inr rfl))) t x y w
theorem unary_negf (k : FloatKind) (x : Nat) : Op.unary .neg (.float k x) = pure (.float k (Op.negFloat k x)) := rfl

/-- WHAT A RESULT IS, without the world: the operation's bits, or some NaN. -/
def FOp (op : BinOp) (x y r : Nat) : Prop :=
  (∀ z, floatBits op .f64 x y = some z → r = z) ∧ (floatBits op .f64 x y = none → ∃ t : Nat, r = (t % 2) * 2 ^ 63 + 0x7ff0000000000000 + 1 + (t / 2) % (2 ^ 52 - 1))

theorem fres_is (op : BinOp) (x y : Nat) (w : World) : FOp op x y (fres op x y w) := by
  unfold FOp fres
  cases h : floatBits op .f64 x y with
  | some z => exact ⟨fun z' h' => by cases h'; rfl, fun h' => by cases h'⟩
  | none => exact ⟨fun z' h' => by (cases h'), fun _ => ⟨w.tape w.drawn (.nanBits .f64 x y), rfl⟩⟩

attribute [local go_sem] run_add run_sub run_mul run_quo unary_negf

theorem run_store_float {P : Program} (w : World) (a : Addr) (m : Mode) (k : FloatKind) (x : Nat) : (store a (.float k x) m).run P w = stored P w a (.float k x) m := run_store P w a _ m rfl
attribute [local go_sem] run_store_float

theorem info29 : (Try.prog.info? 29).map (fun i => (i.zero, i.size, i.bytes)) = some (some (.float .f64 0), 1, 8) := by kernel_rfl
theorem info3 : (Try.prog.info? 3).map (fun i => (i.zero, i.size, i.bytes)) = some (some (.int .i64 0), 1, 8) := by kernel_rfl
theorem info24 : (Try.prog.info? 24).map (fun i => (i.zero, i.size, i.bytes)) = some (some (.slice none 0 0), 1, 24) := by kernel_rfl

/-- The world while a new row is filled: k of n cells are written. -/
structure Fill (w wr : World) (t : TypeId) (n k : Nat) (f : Nat → Value) (z : Value) : Prop where
  below : Below w.heap.size w wr
  size : wr.heap.size = w.heap.size + 1
  row : wr.rowIs w.heap.size t n (fun i => if i < k then f i else z)

theorem fill_start (w : World) (t : TypeId) (n : Nat) (f : Nat → Value) (z : Value) : Fill w (w.alloc (.cells (madeCells #[z] n) t)) t n 0 f z :=
  ⟨(Below.refl _ _).alloc (Nat.le_refl _) _, by simp, (World.rowIs_made w z n t).congr (fun j _ => by simp)⟩

theorem fill_step {w wr : World} {t : TypeId} {n k : Nat} {f : Nat → Value} {z : Value} (h : Fill w wr t n k f z) : Fill w (wr.setCell ⟨w.heap.size, k, none⟩ (f k)) t n (k + 1) f z := by
  refine ⟨h.below.setCell (Nat.le_refl _) _, by simp [h.size], (h.row.set k _).congr (fun j _ => ?_)⟩
  by_cases e : j = k
  · subst e; simp
  · rw [if_neg e]
    by_cases hlt : j < k
    · rw [if_pos hlt, if_pos (by omega)]
    · rw [if_neg hlt, if_neg (by omega)]

theorem fill_done {w wr : World} {t : TypeId} {n : Nat} {f : Nat → Value} {z : Value} (h : Fill w wr t n n f z) : wr.rowIs w.heap.size t n f :=
  h.row.congr (fun j hj => by simp [hj])

set_option maxHeartbeats 400000 in
theorem copyF (b off n c : Nat) (f : Nat → Nat) (w : World) (hn : n ≤ 1048576) (hc : ∀ k, k < n → w.cell? ⟨b, off + k, none⟩ = some (.float .f64 (f k))) :
    Calls Try.prog 13 #[.slice (some ⟨b, off, none⟩) n c] w fun e w' => e = .returned (.slice (some ⟨w.heap.size, 0, none⟩) n n) ∧ Fill w w' 29 n n (fun k => .float .f64 (f k)) (.float .f64 0) := by
  have hmk := run_make_row' (P := Try.prog) 24 29 (.float .f64 0) 8 Try.underlying24 info29 rfl .i64 .i64 n (by omega) (by omega)
  have hnil := fun w a n c => Lib.run_eql_slice_nil (P := Try.prog) w 24 29 a n c 0 0 Try.underlying24
  go_enter Try.func13, Try.ntmps13
  go_wp2
  clear hmk
  go_loopg [4] n (fun g i wr => ∃ k : Nat, k ≤ n ∧ g = n - k ∧ i = .int .i64 k ∧ Fill w wr 29 n k (fun k => .float .f64 (f k)) (.float .f64 0))
  case atStart => exact ⟨0, Nat.zero_le _, rfl, rfl, fill_start w 29 n _ _⟩
  case round =>
    obtain ⟨k, hk, rfl, rfl, hF⟩ := hrel
    by_cases hlt : k < n
    · have hlz : (k : Int) < (n : Int) := by omega
      have hb : b < w.heap.size := World.block_lt_of_cell? _ _ (hc k hlt)
      have g0 : wr.cell? ⟨b, off + k, none⟩ = some (.float .f64 (f k)) := by rw [hF.below.cell (p := ⟨b, off + k, none⟩) hb]; exact hc k hlt
      have g1 : wr.cell? ⟨w.heap.size, k, none⟩ = some (.float .f64 0) := by simpa using hF.row.cell hlt
      have g2 : wr.frozen? ⟨w.heap.size, k, none⟩ = false := hF.row.frozen k
      go_wp2
      go_roundg (n - (k + 1))
      case measure => omega
      case rel => exact ⟨k + 1, by omega, rfl, by simp, fill_step hF⟩
    · go_wp2
      go_ret
      obtain rfl : k = n := by omega
      exact ⟨rfl, hF⟩

set_option maxHeartbeats 400000 in
theorem copyI (b off n c : Nat) (f : Nat → Int) (w : World) (hn : n ≤ 1048576) (hc : ∀ k, k < n → w.cell? ⟨b, off + k, none⟩ = some (.int .i64 (f k))) :
    Calls Try.prog 14 #[.slice (some ⟨b, off, none⟩) n c] w fun e w' => e = .returned (.slice (some ⟨w.heap.size, 0, none⟩) n n) ∧ Fill w w' 3 n n (fun k => .int .i64 (f k)) (.int .i64 0) := by
  have hmk := run_make_row' (P := Try.prog) 22 3 (.int .i64 0) 8 Try.underlying22 info3 rfl .i64 .i64 n (by omega) (by omega)
  have hnil := fun w a n c => Lib.run_eql_slice_nil (P := Try.prog) w 22 3 a n c 0 0 Try.underlying22
  go_enter Try.func14, Try.ntmps14
  go_wp2
  clear hmk
  go_loopg [4] n (fun g i wr => ∃ k : Nat, k ≤ n ∧ g = n - k ∧ i = .int .i64 k ∧ Fill w wr 3 n k (fun k => .int .i64 (f k)) (.int .i64 0))
  case atStart => exact ⟨0, Nat.zero_le _, rfl, rfl, fill_start w 3 n _ _⟩
  case round =>
    obtain ⟨k, hk, rfl, rfl, hF⟩ := hrel
    by_cases hlt : k < n
    · have hlz : (k : Int) < (n : Int) := by omega
      have hb : b < w.heap.size := World.block_lt_of_cell? _ _ (hc k hlt)
      have g0 : wr.cell? ⟨b, off + k, none⟩ = some (.int .i64 (f k)) := by rw [hF.below.cell (p := ⟨b, off + k, none⟩) hb]; exact hc k hlt
      have g1 : wr.cell? ⟨w.heap.size, k, none⟩ = some (.int .i64 0) := by simpa using hF.row.cell hlt
      have g2 : wr.frozen? ⟨w.heap.size, k, none⟩ = false := hF.row.frozen k
      go_wp2
      go_roundg (n - (k + 1))
      case measure => omega
      case rel => exact ⟨k + 1, by omega, rfl, by simp, fill_step hF⟩
    · go_wp2
      go_ret
      obtain rfl : k = n := by omega
      exact ⟨rfl, hF⟩

set_option maxHeartbeats 400000 in
theorem mul_any (x y : Nat) (w : World) :
    Calls Try.prog 21 #[.float .f64 x, .float .f64 y] w fun e w' => e = .returned (.float .f64 (fres .mul x y w)) ∧ w.drewN (fcnt .mul x y) = w' := by
  go_enter Try.func21, Try.ntmps21
  go_wp2
  go_ret
  exact ⟨rfl, rfl⟩

def feq (x y : Nat) : Bool := FloatKind.f64.format.order x y == some .eq

set_option maxHeartbeats 400000 in
theorem finite_any (x : Nat) (w : World) :
    Calls Try.prog 17 #[.float .f64 x] w fun e w' => e = .returned (.bool (feq (fres .sub x x w) 0)) ∧ w.drewN (fcnt .sub x x) = w' := by
  go_enter Try.func17, Try.ntmps17
  go_wp2
  go_ret
  exact ⟨rfl, rfl⟩

/-! ### The rows, copied -/
def topv (N n r : Nat) : Nat → Value := fun j => if j < r then .slice (some ⟨N + 1 + j, 0, none⟩) n n else .slice none 0 0

structure Rowed (w wr : World) (m n r : Nat) (F : Nat → Nat → Nat) : Prop where
  below : Below w.heap.size w wr
  size : wr.heap.size = w.heap.size + 1 + r
  top : wr.rowIs w.heap.size 24 m (topv w.heap.size n r)
  done : ∀ j, j < r → wr.rowIs (w.heap.size + 1 + j) 29 n (fun k => .float .f64 (F j k))

theorem rowed_start (w : World) (m n : Nat) (F : Nat → Nat → Nat) : Rowed w (w.alloc (.cells (madeCells #[.slice none 0 0] m) 24)) m n 0 F :=
  ⟨(Below.refl _ _).alloc (Nat.le_refl _) _, by simp, (World.rowIs_made w _ m 24).congr (fun j _ => by simp [topv]), fun j hj => absurd hj (Nat.not_lt_zero _)⟩

theorem rowIs_below {w w' : World} {B b : Nat} {t : TypeId} {n : Nat} {f : Nat → Value} (h : w.rowIs b t n f) (k : Below B w w') (hb : b < B) : w'.rowIs b t n f := h.of_block (k.block b hb)

theorem rowed_step {w wr wx : World} {m n r : Nat} {F : Nat → Nat → Nat} (h : Rowed w wr m n r F) (k : Fill wr wx 29 n n (fun k => .float .f64 (F r k)) (.float .f64 0)) :
    Rowed w (wx.setCell ⟨w.heap.size, r, none⟩ (.slice (some ⟨wr.heap.size, 0, none⟩) n n)) m n (r + 1) F := by
  have hs := h.size
  have hx := k.size
  refine ⟨(h.below.trans (k.below.mono (by omega))).setCell (Nat.le_refl _) _, by simp [hs, hx]; omega, ((rowIs_below h.top k.below (by omega)).set r _).congr (fun j _ => ?_), fun j hj => ?_⟩
  · simp only [topv]
    by_cases e : j = r
    · subst e; simp [hs]
    · rw [if_neg e]
      by_cases hlt : j < r
      · rw [if_pos hlt, if_pos (by omega)]
      · rw [if_neg hlt, if_neg (by omega)]
  · by_cases e : j = r
    · subst e
      have := fill_done k
      rw [hs] at this
      exact this.setOther (by show w.heap.size + 1 + j ≠ w.heap.size; omega) _
    · exact (rowIs_below (h.done j (by omega)) k.below (by omega)).setOther (by show w.heap.size + 1 + j ≠ w.heap.size; omega) _

set_option maxHeartbeats 1000000 in
theorem copyR (gb go m c n : Nat) (C RB RO : Nat → Nat) (F : Nat → Nat → Nat) (w : World) (hm : m ≤ 1048576) (hn : n ≤ 1048576)
    (hrow : ∀ s, s < m → w.cell? ⟨gb, go + s, none⟩ = some (.slice (some ⟨RB s, RO s, none⟩) n (C s)))
    (hc : ∀ s, s < m → ∀ k, k < n → w.cell? ⟨RB s, RO s + k, none⟩ = some (.float .f64 (F s k))) :
    Calls Try.prog 12 #[.slice (some ⟨gb, go, none⟩) m c] w fun e w' => e = .returned (.slice (some ⟨w.heap.size, 0, none⟩) m m) ∧ Rowed w w' m n m F := by
  have hmk := run_make_row' (P := Try.prog) 25 24 (.slice none 0 0) 24 Try.underlying25 info24 rfl .i64 .i64 m (by omega) (by omega)
  have hnil := fun w a n c => Lib.run_eql_slice_nil (P := Try.prog) w 25 24 a n c 0 0 Try.underlying25
  go_enter Try.func12, Try.ntmps12
  go_wp2
  clear hmk
  go_loopg [4] m (fun g i wr => ∃ k : Nat, k ≤ m ∧ g = m - k ∧ i = .int .i64 k ∧ Rowed w wr m n k F)
  case atStart => exact ⟨0, Nat.zero_le _, rfl, rfl, rowed_start w m n F⟩
  case round =>
    obtain ⟨k, hk, rfl, rfl, hF⟩ := hrel
    by_cases hlt : k < m
    · have hlz : (k : Int) < (m : Int) := by omega
      have hb : gb < w.heap.size := World.block_lt_of_cell? _ _ (hrow k hlt)
      have hs := hF.size
      have g0 : wr.cell? ⟨gb, go + k, none⟩ = some (.slice (some ⟨RB k, RO k, none⟩) n (C k)) := by rw [hF.below.cell (p := ⟨gb, go + k, none⟩) hb]; exact hrow k hlt
      have g1 := hF.top.cell hlt
      have g2 : wr.frozen? ⟨w.heap.size, k, none⟩ = false := hF.top.frozen k
      have cF := copyF (RB k) (RO k) n (C k) (F k) wr hn (fun j hj => by
        have hb : RB k < w.heap.size := World.block_lt_of_cell? _ _ (hc k hlt j hj)
        rw [hF.below.cell (p := ⟨RB k, RO k + j, none⟩) hb]; exact hc k hlt j hj)
      go_wp2_with (go_at_call 13; refine cF.mono ?_; rintro e wx ⟨rfl, hX⟩; have k1 := (hX.below.cell (p := ⟨w.heap.size, k, none⟩) (by show w.heap.size < wr.heap.size; omega)).trans g1; have k2 := (hX.below.frozen (p := ⟨w.heap.size, k, none⟩) (by show w.heap.size < wr.heap.size; omega)).trans g2)
      go_roundg (m - (k + 1))
      case measure => omega
      case rel => exact ⟨k + 1, by omega, rfl, by simp, by have := rowed_step hF hX; rw [hs] at this; exact this⟩
    · go_wp2
      go_ret
      obtain rfl : k = m := by omega
      exact ⟨rfl, hF⟩
end Go.Proofs.Qxb6619410a
