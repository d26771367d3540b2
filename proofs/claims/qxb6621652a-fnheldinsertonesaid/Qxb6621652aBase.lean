import Derived.Test.Qxb6621652aRows
import Derived.WalkKit
import Derived.WalkSpells
import Derived.WalkLawsBesides
import Derived.Deep.OwnRows
import Derived.Deep.LoopGhost
import Derived.Deep.Draws
import Derived.Deep.RegionWith
import Derived.Deep.Light
namespace Go.Proofs.Qxb6621652a
open Go.RowKit

theorem info3 : (Try.prog.info? 3).map (fun i => (i.zero, i.size, i.bytes)) = some (some (.int .i64 0), 1, 8) := by kernel_rfl
theorem info25 : (Try.prog.info? 25).map (fun i => (i.zero, i.size, i.bytes)) = some (some (.int .u16 0), 1, 2) := by kernel_rfl

theorem rowIs_below {w w' : World} {B b : Nat} {t : TypeId} {n : Nat} {f : Nat → Value} (h : w.rowIs b t n f) (k : Below B w w') (hb : b < B) : w'.rowIs b t n f := h.of_block (k.block b hb)

/-- The world while a new row is filled: k of n cells are written. -/
structure Fill (w wr : World) (t : TypeId) (n k : Nat) (f : Nat → Value) (z : Value) : Prop where
  below : Below w.heap.size w wr
  size : wr.heap.size = w.heap.size + 1
  row : wr.rowIs w.heap.size t n (fun i => if i < k then f i else z)

theorem fill_start (w : World) (t : TypeId) (n : Nat) (f : Nat → Value) (z : Value) : Fill w (w.alloc (.cells (madeCells #[z] n) t)) t n 0 f z :=
  ⟨(Below.refl _ _).alloc (Nat.le_refl _) _, by simp, (World.rowIs_made w z n t).congr (fun j _ => by simp)⟩

theorem fill_step {w wr : World} {t : TypeId} {n k : Nat} {f : Nat → Value} {z : Value} (h : Fill w wr t n k f z) : Fill w (wr.setCell ⟨w.heap.size, k, none⟩ (f k)) t n (k + 1) f z := by
  refine ⟨h.below.setCell (Nat.le_refl _) _, by simp [h.size], (h.row.set k _).congr (fun j _ => ?_)⟩
  by_cases e : j = k
  · subst e; simp
  · rw [if_neg e]
    by_cases hlt : j < k
    · rw [if_pos hlt, if_pos (by omega)]
    · rw [if_neg hlt, if_neg (by omega)]

theorem fill_done {w wr : World} {t : TypeId} {n : Nat} {f : Nat → Value} {z : Value} (h : Fill w wr t n n f z) : wr.rowIs w.heap.size t n f :=
  h.row.congr (fun j hj => by simp [hj])

def SomeB (e : Ending) : Prop := ∃ b, e = .returned (.bool b)
theorem someB (b : Bool) : SomeB (.returned (.bool b)) := ⟨b, rfl⟩

/-- A slice of strings, as it lies. -/
structure Strs (w : World) (a : Option Addr) (b off n : Nat) (S : Nat → ByteArray) : Prop where
  at' : 0 < n → a = some ⟨b, off, none⟩
  cell : ∀ i, i < n → w.cell? ⟨b, off + i, none⟩ = some (.string (S i))

set_option maxHeartbeats 1000000 in
theorem bytes6_any (p q : Int) (a1 : Option Addr) (b1 o1 n1 c1 : Nat) (S1 : Nat → ByteArray) (a2 : Option Addr) (b2 o2 n2 c2 : Nat) (S2 : Nat → ByteArray) (a3 : Option Addr) (n3 c3 : Nat) (a4 : Option Addr) (n4 c4 : Nat) (at' v : Int) (w : World)
    (hn1 : n1 ≤ maxLen) (hn2 : n2 ≤ maxLen) (h1 : Strs w a1 b1 o1 n1 S1) (h2 : Strs w a2 b2 o2 n2 S2) :
    Calls Try.prog 6 #[.int .i64 p, .int .i64 q, .slice a1 n1 c1, .slice a2 n2 c2, .slice a3 n3 c3, .slice a4 n4 c4, .int .i64 at', .int .u16 v] w fun e w' => SomeB e ∧ w = w' := by
  unfold maxLen at hn1 hn2
  go_enter Try.func6, Try.ntmps6
  go_wp2
  all_goals first | (go_ret; exact ⟨someB _, rfl⟩) | skip
  go_loopg [17, 18] n1 (fun gh t i wr => ∃ (z : Int) (k : Nat), t = .int .i64 z ∧ k ≤ n1 ∧ gh = n1 - k ∧ i = .int .i64 k ∧ w = wr)
  case atStart => exact ⟨_, 0, rfl, Nat.zero_le _, rfl, rfl, rfl⟩
  case round =>
    obtain ⟨z, k, rfl, hk, rfl, rfl, rfl⟩ := hrel
    by_cases hlt : k < n1
    · obtain rfl := h1.at' (by omega)
      have hlz : (k : Int) < (n1 : Int) := by omega
      have g0 := h1.cell k hlt
      go_wp2
      all_goals first | (go_ret; exact ⟨someB _, rfl⟩) | skip
      go_roundg (n1 - (k + 1))
      case measure => omega
      case rel =>
        go_light
        exact ⟨_, k + 1, rfl, by omega, rfl, by simp, rfl⟩
    go_wp2
    all_goals first | (go_ret; exact ⟨someB _, rfl⟩) | skip
    go_loopg [17, 19] n2 (fun gh t i wr => ∃ (z : Int) (k : Nat), t = .int .i64 z ∧ k ≤ n2 ∧ gh = n2 - k ∧ i = .int .i64 k ∧ w = wr)
    case atStart => exact ⟨_, 0, rfl, Nat.zero_le _, rfl, rfl, rfl⟩
    case round =>
      obtain ⟨z, k, rfl, hk, rfl, rfl, rfl⟩ := hrel
      by_cases hlt : k < n2
      · obtain rfl := h2.at' (by omega)
        have hlz : (k : Int) < (n2 : Int) := by omega
        have g0 := h2.cell k hlt
        go_wp2
        all_goals first | (go_ret; exact ⟨someB _, rfl⟩) | skip
        go_roundg (n2 - (k + 1))
        case measure => omega
        case rel =>
          go_light
          exact ⟨_, k + 1, rfl, by omega, rfl, by simp, rfl⟩
      go_wp2
      all_goals (go_ret; exact ⟨someB _, rfl⟩)

set_option maxHeartbeats 1000000 in
theorem bytes12_any (p q : Int) (a1 : Option Addr) (b1 o1 n1 c1 : Nat) (S1 : Nat → ByteArray) (a2 : Option Addr) (b2 o2 n2 c2 : Nat) (S2 : Nat → ByteArray) (a3 : Option Addr) (n3 c3 : Nat) (a4 : Option Addr) (n4 c4 : Nat) (at' : Int) (w : World)
    (hn1 : n1 ≤ maxLen) (hn2 : n2 ≤ maxLen) (h1 : Strs w a1 b1 o1 n1 S1) (h2 : Strs w a2 b2 o2 n2 S2) :
    Calls Try.prog 12 #[.int .i64 p, .int .i64 q, .slice a1 n1 c1, .slice a2 n2 c2, .slice a3 n3 c3, .slice a4 n4 c4, .int .i64 at'] w fun e w' => SomeB e ∧ w = w' := by
  unfold maxLen at hn1 hn2
  go_enter Try.func12, Try.ntmps12
  go_wp2
  all_goals first | (go_ret; exact ⟨someB _, rfl⟩) | skip
  go_loopg [15, 16] n1 (fun gh t i wr => ∃ (z : Int) (k : Nat), t = .int .i64 z ∧ k ≤ n1 ∧ gh = n1 - k ∧ i = .int .i64 k ∧ w = wr)
  case atStart => exact ⟨_, 0, rfl, Nat.zero_le _, rfl, rfl, rfl⟩
  case round =>
    obtain ⟨z, k, rfl, hk, rfl, rfl, rfl⟩ := hrel
    by_cases hlt : k < n1
    · obtain rfl := h1.at' (by omega)
      have hlz : (k : Int) < (n1 : Int) := by omega
      have g0 := h1.cell k hlt
      go_wp2
      all_goals first | (go_ret; exact ⟨someB _, rfl⟩) | skip
      go_roundg (n1 - (k + 1))
      case measure => omega
      case rel =>
        go_light
        exact ⟨_, k + 1, rfl, by omega, rfl, by simp, rfl⟩
    go_wp2
    all_goals first | (go_ret; exact ⟨someB _, rfl⟩) | skip
    go_loopg [15, 17] n2 (fun gh t i wr => ∃ (z : Int) (k : Nat), t = .int .i64 z ∧ k ≤ n2 ∧ gh = n2 - k ∧ i = .int .i64 k ∧ w = wr)
    case atStart => exact ⟨_, 0, rfl, Nat.zero_le _, rfl, rfl, rfl⟩
    case round =>
      obtain ⟨z, k, rfl, hk, rfl, rfl, rfl⟩ := hrel
      by_cases hlt : k < n2
      · obtain rfl := h2.at' (by omega)
        have hlz : (k : Int) < (n2 : Int) := by omega
        have g0 := h2.cell k hlt
        go_wp2
        all_goals first | (go_ret; exact ⟨someB _, rfl⟩) | skip
        go_roundg (n2 - (k + 1))
        case measure => omega
        case rel =>
          go_light
          exact ⟨_, k + 1, rfl, by omega, rfl, by simp, rfl⟩
      go_wp2
      all_goals (go_ret; exact ⟨someB _, rfl⟩)

set_option maxHeartbeats 1000000 in
theorem bytes13_any (p q : Int) (a1 : Option Addr) (b1 o1 n1 c1 : Nat) (S1 : Nat → ByteArray) (a2 : Option Addr) (b2 o2 n2 c2 : Nat) (S2 : Nat → ByteArray) (a3 : Option Addr) (n3 c3 : Nat) (a4 : Option Addr) (n4 c4 : Nat) (at' : Int) (w : World)
    (hn1 : n1 ≤ maxLen) (hn2 : n2 ≤ maxLen) (h1 : Strs w a1 b1 o1 n1 S1) (h2 : Strs w a2 b2 o2 n2 S2) :
    Calls Try.prog 13 #[.int .i64 p, .int .i64 q, .slice a1 n1 c1, .slice a2 n2 c2, .slice a3 n3 c3, .slice a4 n4 c4, .int .i64 at'] w fun e w' => SomeB e ∧ w = w' := by
  unfold maxLen at hn1 hn2
  go_enter Try.func13, Try.ntmps13
  go_wp2
  all_goals first | (go_ret; exact ⟨someB _, rfl⟩) | skip
  go_loopg [15, 16] n1 (fun gh t i wr => ∃ (z : Int) (k : Nat), t = .int .i64 z ∧ k ≤ n1 ∧ gh = n1 - k ∧ i = .int .i64 k ∧ w = wr)
  case atStart => exact ⟨_, 0, rfl, Nat.zero_le _, rfl, rfl, rfl⟩
  case round =>
    obtain ⟨z, k, rfl, hk, rfl, rfl, rfl⟩ := hrel
    by_cases hlt : k < n1
    · obtain rfl := h1.at' (by omega)
      have hlz : (k : Int) < (n1 : Int) := by omega
      have g0 := h1.cell k hlt
      go_wp2
      all_goals first | (go_ret; exact ⟨someB _, rfl⟩) | skip
      go_roundg (n1 - (k + 1))
      case measure => omega
      case rel =>
        go_light
        exact ⟨_, k + 1, rfl, by omega, rfl, by simp, rfl⟩
    go_wp2
    all_goals first | (go_ret; exact ⟨someB _, rfl⟩) | skip
    go_loopg [15, 17] n2 (fun gh t i wr => ∃ (z : Int) (k : Nat), t = .int .i64 z ∧ k ≤ n2 ∧ gh = n2 - k ∧ i = .int .i64 k ∧ w = wr)
    case atStart => exact ⟨_, 0, rfl, Nat.zero_le _, rfl, rfl, rfl⟩
    case round =>
      obtain ⟨z, k, rfl, hk, rfl, rfl, rfl⟩ := hrel
      by_cases hlt : k < n2
      · obtain rfl := h2.at' (by omega)
        have hlz : (k : Int) < (n2 : Int) := by omega
        have g0 := h2.cell k hlt
        go_wp2
        all_goals first | (go_ret; exact ⟨someB _, rfl⟩) | skip
        go_roundg (n2 - (k + 1))
        case measure => omega
        case rel =>
          go_light
          exact ⟨_, k + 1, rfl, by omega, rfl, by simp, rfl⟩
      go_wp2
      all_goals (go_ret; exact ⟨someB _, rfl⟩)

end Go.Proofs.Qxb6621652a
