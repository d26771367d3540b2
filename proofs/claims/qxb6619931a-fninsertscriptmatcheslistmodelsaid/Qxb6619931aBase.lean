import Derived.Test.Qxb6619931aRows
import Derived.WalkKit
import Derived.WalkSpells
import Derived.WalkLawsBesides
import Derived.Deep.OwnRows
import Derived.Deep.LoopGhost
import Derived.Deep.Draws
import Derived.Deep.RegionLaw
import Derived.Deep.Light
import Derived.Laws.IdiomCopy
namespace Go.Proofs.Qxb6619931a
open Go.RowKit

theorem info3 : (Try.prog.info? 3).map (fun i => (i.zero, i.size, i.bytes)) = some (some (.int .i64 0), 1, 8) := by kernel_rfl

/-- A token's cells: the id stands in its start's offset, the level in its own place. -/
def tok (id lv : Int) : Array Value := #[.int .u8 0, .int .i64 id, .int .i64 0, .int .i64 0, .int .i64 0, .int .i64 0, .int .i64 0, .int .i64 lv, .int .i64 0, .int .i64 0, .int .i64 0, .string ⟨#[]⟩, .int .i64 0, .int .i64 0]
theorem info50 : (Try.prog.info? 50).map (fun i => (i.zero, i.size, i.bytes)) = some (some (.agg (tok 0 0)), 14, 120) := by kernel_rfl
theorem tok_size (id lv : Int) : (tok id lv).size = 14 := rfl
theorem tok_one (id lv : Int) : ∀ u ∈ (tok id lv).toList, u.oneCell' = true := by
  intro u hu
  simp [tok] at hu
  rcases hu with rfl | rfl | rfl | rfl | rfl | rfl | rfl <;> rfl

/-- Nothing that was there has turned, but for the blocks in T; blocks may have come. -/
structure Kept (T : Nat → Prop) (w w' : World) : Prop where
  os : w'.os = w.os
  tape : w'.tape = w.tape
  output : w'.output = w.output
  size : w.heap.size ≤ w'.heap.size
  block : ∀ k, k < w.heap.size → ¬ T k → w'.heap[k]? = w.heap[k]?

theorem Kept.refl (T : Nat → Prop) (w : World) : Kept T w w := ⟨rfl, rfl, rfl, Nat.le_refl _, fun _ _ _ => rfl⟩
theorem Kept.trans {T : Nat → Prop} {a b c : World} (h : Kept T a b) (k : Kept T b c) : Kept T a c :=
  ⟨k.os.trans h.os, k.tape.trans h.tape, k.output.trans h.output, Nat.le_trans h.size k.size, fun i hi ht => (k.block i (Nat.lt_of_lt_of_le hi h.size) ht).trans (h.block i hi ht)⟩
/-- The second step may also touch blocks that were not there at first. -/
theorem Kept.trans' {T T' : Nat → Prop} {a b c : World} (h : Kept T a b) (k : Kept T' b c) (hT : ∀ i, i < a.heap.size → T' i → T i) : Kept T a c :=
  ⟨k.os.trans h.os, k.tape.trans h.tape, k.output.trans h.output, Nat.le_trans h.size k.size, fun i hi ht => (k.block i (Nat.lt_of_lt_of_le hi h.size) (fun x => ht (hT i hi x))).trans (h.block i hi ht)⟩
theorem Kept.mono {T T' : Nat → Prop} {a b : World} (h : Kept T a b) (k : ∀ i, T i → T' i) : Kept T' a b := ⟨h.os, h.tape, h.output, h.size, fun i hi ht => h.block i hi (fun x => ht (k i x))⟩
theorem Kept.drew {T : Nat → Prop} {a b : World} (h : Kept T a b) : Kept T a b.drew := ⟨h.os, h.tape, h.output, h.size, h.block⟩
theorem Kept.drewN {T : Nat → Prop} {a b : World} (h : Kept T a b) (n : Nat) : Kept T a (b.drewN n) := ⟨h.os, h.tape, h.output, h.size, h.block⟩
theorem Kept.setCell {T : Nat → Prop} {a b : World} (h : Kept T a b) {p : Addr} (hp : T p.block) (v : Value) : Kept T a (b.setCell p v) :=
  h.trans ⟨rfl, rfl, rfl, by simp [World.setCell], fun k _ hk => Below.heap_setCell _ _ _ _ (fun e => hk (e ▸ hp))⟩
theorem Kept.setNew {T : Nat → Prop} {a b : World} (h : Kept T a b) {p : Addr} (hp : a.heap.size ≤ p.block) (v : Value) : Kept T a (b.setCell p v) :=
  ⟨h.os, h.tape, h.output, by simpa [World.setCell] using h.size, fun k hk ht => (Below.heap_setCell _ _ _ _ (by omega)).trans (h.block k hk ht)⟩
theorem Kept.alloc {T : Nat → Prop} {a b : World} (h : Kept T a b) (o : Obj) : Kept T a (b.alloc o) :=
  ⟨h.os, h.tape, h.output, by simp; have := h.size; omega, fun k hk ht => (Below.heap_alloc _ _ _ (Nat.lt_of_lt_of_le hk h.size)).trans (h.block k hk ht)⟩
theorem Kept.setCells {T : Nat → Prop} {a : World} {g : Nat} (hg : T g) : ∀ (vs : List Value) (o : Nat) (b : World), Kept T a b → Kept T a (b.setCells g o vs)
  | [], _, _, h => h
  | v :: r, o, _, h => Kept.setCells hg r (o + 1) _ (h.setCell (p := ⟨g, o, none⟩) hg v)
theorem Kept.setCellsNew {T : Nat → Prop} {a : World} {g : Nat} (hg : a.heap.size ≤ g) : ∀ (vs : List Value) (o : Nat) (b : World), Kept T a b → Kept T a (b.setCells g o vs)
  | [], _, _, h => h
  | v :: r, o, _, h => Kept.setCellsNew hg r (o + 1) _ (h.setNew (p := ⟨g, o, none⟩) hg v)
theorem Kept.row {T : Nat → Prop} {a b : World} (h : Kept T a b) {g : Nat} {t : TypeId} {n : Nat} {f : Nat → Value} (k : a.rowIs g t n f) (hg : ¬ T g) : b.rowIs g t n f := k.of_block (h.block g k.lt hg)
theorem Kept.below {T : Nat → Prop} {a b : World} (h : Kept T a b) {B : Nat} (hB : B ≤ a.heap.size) (k : ∀ i, T i → B ≤ i) : Below B a b :=
  ⟨h.os, h.tape, h.output, h.size, fun i hi => h.block i (by omega) (fun x => by have := k i x; omega)⟩
theorem Kept.ofBelow {a b : World} (h : Below a.heap.size a b) (T : Nat → Prop) : Kept T a b := ⟨h.os, h.tape, h.output, h.size, fun i hi _ => h.block i hi⟩

theorem rowIs_setCells {t : TypeId} {g n : Nat} : ∀ (vs : List Value) (o : Nat) (w : World) (f : Nat → Value), w.rowIs g t n f →
    (w.setCells g o vs).rowIs g t n (fun x => if o ≤ x ∧ x < o + vs.length then vs.getD (x - o) (.bool false) else f x)
  | [], o, w, f, h => h.congr (fun x _ => by rw [if_neg (by simp)])
  | v :: r, o, w, f, h => by
    refine (rowIs_setCells r (o + 1) _ _ (h.set o v)).congr (fun x _ => ?_)
    by_cases h1 : x = o
    · subst h1
      rw [if_neg (by omega), if_pos rfl, if_pos ⟨Nat.le_refl _, by simp⟩]
      simp
    · by_cases h2 : o + 1 ≤ x ∧ x < o + 1 + r.length
      · rw [if_pos h2, if_pos ⟨by omega, by simp; omega⟩]
        have : x - o = x - (o + 1) + 1 := by omega
        rw [this]; simp
      · rw [if_neg h2, if_neg h1, if_neg (by simp; omega)]

theorem rowIs_setCells_other {t : TypeId} {g b n : Nat} {f : Nat → Value} (hne : b ≠ g) : ∀ (vs : List Value) (o : Nat) (w : World), w.rowIs b t n f → (w.setCells g o vs).rowIs b t n f
  | [], _, _, h => h
  | v :: r, o, _, h => rowIs_setCells_other hne r (o + 1) _ (h.setOther (a := ⟨g, o, none⟩) hne v)

theorem heap_setCells (g : Nat) : ∀ (vs : List Value) (o : Nat) (w : World), (w.setCells g o vs).heap.size = w.heap.size
  | [], _, _ => rfl
  | v :: r, o, w => by rw [World.setCells, heap_setCells g r (o + 1)]; simp [World.setCell]

/-! ### copy of elements of several cells -/
theorem run_copy_big {P : Program} (w : World) (dT sT ty elem : TypeId) (i : TypeInfo) (b o dLen dCap : Nat) (a : Addr) (sLen sCap n : Nat) (cs : List Value)
    (hu : P.underlying dT = some (.slice elem)) (hi : P.info? elem = some i) (hnm : Nat.min sLen dLen = n) (hn : cs.length = n * i.size)
    (hsrc : ∀ j v, cs[j]? = some v → w.cell? (a.add j) = some v) (hc : ∀ j, j < cs.length → (w.cell? ⟨b, o + j, none⟩).isSome = true) (hf : ∀ j, j < cs.length → w.frozen? ⟨b, o + j, none⟩ = false) (h1 : ∀ v ∈ cs, v.oneCell' = true) :
    (Builtin.copy_ #[dT, sT] ty #[.slice (some ⟨b, o, none⟩) dLen dCap, .slice (some a) sLen sCap]).run P w = .ok (goInt n) (w.setCells b o cs) := by
  have hl := run_loadCells_list (P := P) w a cs hsrc
  rw [hn] at hl
  have hst := run_storeCells_cells (P := P) b o cs 0 w (by simpa using hc) (by simpa using hf) h1
  simp [Builtin.copy_, run_underlying hu, Builtin.lenOf, Builtin.firstCells, sizeOf, typeInfo, hi, hnm, hl, hst]

theorem run_copy_zero {P : Program} (w : World) (dT sT ty elem : TypeId) (i : TypeInfo) (d : Addr) (dLen dCap : Nat) (a : Addr) (sLen sCap : Nat)
    (hu : P.underlying dT = some (.slice elem)) (hi : P.info? elem = some i) (hnm : Nat.min sLen dLen = 0) :
    (Builtin.copy_ #[dT, sT] ty #[.slice (some d) dLen dCap, .slice (some a) sLen sCap]).run P w = .ok (goInt 0) w := by
  have hl := run_loadCells_list (P := P) w a [] (by simp)
  simp only [List.length_nil] at hl
  simp [Builtin.copy_, run_underlying hu, Builtin.lenOf, Builtin.firstCells, sizeOf, typeInfo, hi, hnm, hl, storeCells]
end Go.Proofs.Qxb6619931a
