import Derived.Test.Qxb6619931aEarly
import Derived.Deep.QuietTactic
import Derived.BigQuiet
namespace Go.Proofs.Qxb6619931a
open Go.RowKit

/-- A slice of integers that came in: no address where it is empty. -/
structure Ints (w : World) (a : Option Addr) (b o n : Nat) (V : Nat → Int) : Prop where
  adr : 0 < n → a = some ⟨b, o, none⟩
  cell : ∀ i, i < n → w.cell? ⟨b, o + i, none⟩ = some (.int .i64 (V i))

theorem Ints.later {w w' : World} {a : Option Addr} {b o n : Nat} {V : Nat → Int} (h : Ints w a b o n V) (hb : Below w.heap.size w w') : Ints w' a b o n V := ⟨h.adr, fun i hi => cell_later hb (h.cell i hi)⟩

def intsC (V : Nat → Int) (n : Nat) : List Value := (List.range n).map fun i => .int .i64 (V i)
theorem intsC_len (V : Nat → Int) (n : Nat) : (intsC V n).length = n := by simp [intsC]
theorem intsC_at (V : Nat → Int) (n j : Nat) (hj : j < n) : (intsC V n)[j]? = some (.int .i64 (V j)) := by simp [intsC, hj]
theorem intsC_one (V : Nat → Int) (n : Nat) : ∀ v ∈ intsC V n, v.oneCell' = true := by
  intro v hv
  obtain ⟨x, hx, rfl⟩ := List.mem_map.1 hv
  rfl

abbrev Zeros (n : Nat) : Obj := .cells (madeCells #[.int .i64 0] n) 3

theorem zeros_row (w : World) (n : Nat) : (w.alloc (Zeros n)).rowIs w.heap.size 3 n (fun _ => .int .i64 0) :=
  ⟨_, Go.Deep.blk_alloc_new _ _, size_madeCells _ _, fun i hi => by simp [madeCells, hi, Nat.mod_one]⟩

theorem make28 (n : Nat) (hn : n ≤ 65536) : ∀ w, (Instr.makeSlice 28 (.int .i64 (n : Int)) (.int .i64 (n : Int))).run Try.prog w = .ok (.slice (some ⟨w.heap.size, 0, none⟩) n n) (w.alloc (Zeros n)) := fun w => by
  obtain ⟨i0, hi, hz0, hz1, hz2⟩ := info_parts info3
  have hr := run_make (P := Try.prog) w 28 3 i0 _ Try.underlying28 hi hz0 .i64 .i64 n n (by omega) (by omega) (by rw [hz2]; omega) (by omega)
  simpa [hz1, Value.cells] using hr

theorem copy28 (w0 : World) (V : Nat → Int) (n c : Nat) (x : Addr) (b off : Nat) (hV : Ints w0 (some x) b off n V) :
    (Builtin.copy_ #[28, 28] 3 #[.slice (some ⟨w0.heap.size, 0, none⟩) n n, .slice (some x) n c]).run Try.prog (w0.alloc (Zeros n)) = .ok (.int .i64 n) ((w0.alloc (Zeros n)).setCells w0.heap.size 0 (intsC V n)) := by
  obtain ⟨i0, hi, hz0, hz1, hz2⟩ := info_parts info3
  have hz := zeros_row w0 n
  exact run_copy_big (P := Try.prog) (w0.alloc (Zeros n)) 28 28 3 3 i0 w0.heap.size 0 n n x n c n (intsC V n) Try.underlying28 hi (Nat.min_self n) (by rw [intsC_len, hz1, Nat.mul_one]) (fun j v hv => by
      have hj : j < n := by
        have := (List.getElem?_eq_some_iff.1 hv).1
        rwa [intsC_len] at this
      have e := hV.adr (by omega)
      cases e
      rw [intsC_at V n j hj] at hv
      rw [Addr.add_lit, ← hv]
      exact cell_later ((Below.refl _ _).alloc (Nat.le_refl _) _) (hV.cell j hj)) (fun j hj => by
      rw [intsC_len] at hj
      rw [Nat.zero_add, hz.cell hj]; rfl) (fun j hj => hz.frozen (0 + j)) (intsC_one V n)

theorem copied (w : World) (V : Nat → Int) (n : Nat) : Below w.heap.size w ((w.alloc (Zeros n)).setCells w.heap.size 0 (intsC V n)) ∧ Ints ((w.alloc (Zeros n)).setCells w.heap.size 0 (intsC V n)) (some ⟨w.heap.size, 0, none⟩) w.heap.size 0 n V := by
  have hK : Kept (fun k => k = w.heap.size) w ((w.alloc (Zeros n)).setCells w.heap.size 0 (intsC V n)) := Kept.setCells (T := fun k => k = w.heap.size) rfl _ _ _ ((Kept.refl _ w).alloc _)
  refine ⟨hK.below (Nat.le_refl _) (fun i e => by omega), fun _ => rfl, fun i hi => ?_⟩
  have h := World.cell?_setCells_in w.heap.size (intsC V n) 0 (w.alloc (Zeros n)) (fun j hj => by
    rw [intsC_len] at hj
    rw [Nat.zero_add, (zeros_row w n).cell hj]; rfl) i (by rw [intsC_len]; exact hi)
  rw [h]
  simp [intsC]

/-- What the copies leave. -/
def Copd (wc : World) (s : Value) (n : Nat) (V : Nat → Int) : Prop := ∃ a c b o, s = .slice a n c ∧ Ints wc a b o n V
end Go.Proofs.Qxb6619931a
