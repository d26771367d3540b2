import Derived.Test.Qxb6619410aSmall
import Derived.Deep.RegionWith
import Derived.Deep.Light
namespace Go.Proofs.Qxb6619410a
open Go.RowKit
attribute [local go_sem] run_add run_sub run_mul run_quo unary_negf run_store_float

/-- Nothing but the blocks in T has turned; no block has come or gone. -/
structure Keep (T : Nat → Prop) (w w' : World) : Prop where
  os : w'.os = w.os
  tape : w'.tape = w.tape
  output : w'.output = w.output
  size : w'.heap.size = w.heap.size
  block : ∀ k, ¬ T k → w'.heap[k]? = w.heap[k]?

theorem Keep.refl (T : Nat → Prop) (w : World) : Keep T w w := ⟨rfl, rfl, rfl, rfl, fun _ _ => rfl⟩
theorem Keep.trans {T : Nat → Prop} {a b c : World} (h : Keep T a b) (k : Keep T b c) : Keep T a c :=
  ⟨k.os.trans h.os, k.tape.trans h.tape, k.output.trans h.output, k.size.trans h.size, fun i hi => (k.block i hi).trans (h.block i hi)⟩
theorem Keep.mono {T T' : Nat → Prop} {a b : World} (h : Keep T a b) (k : ∀ i, T i → T' i) : Keep T' a b :=
  ⟨h.os, h.tape, h.output, h.size, fun i hi => h.block i (fun x => hi (k i x))⟩
theorem Keep.drewN {T : Nat → Prop} {a b : World} (h : Keep T a b) (n : Nat) : Keep T a (b.drewN n) := ⟨h.os, h.tape, h.output, h.size, h.block⟩
theorem Keep.setCell {T : Nat → Prop} {a b : World} (h : Keep T a b) {p : Addr} (hp : T p.block) (v : Value) : Keep T a (b.setCell p v) :=
  h.trans ⟨rfl, rfl, rfl, by simp [World.setCell], fun k hk => Below.heap_setCell _ _ _ _ (fun e => hk (e ▸ hp))⟩
theorem Keep.row {T : Nat → Prop} {a b : World} (h : Keep T a b) {g : Nat} {t : TypeId} {n : Nat} {f : Nat → Value} (k : a.rowIs g t n f) (hg : ¬ T g) : b.rowIs g t n f := k.of_block (h.block g hg)
theorem Keep.cell {T : Nat → Prop} {a b : World} (h : Keep T a b) {p : Addr} (hg : ¬ T p.block) : b.cell? p = a.cell? p := World.cell?_of_block (w := a) (h.block _ hg)
theorem Keep.below {T : Nat → Prop} {a b : World} (h : Keep T a b) {B : Nat} (k : ∀ i, T i → B ≤ i) : Below B a b :=
  ⟨h.os, h.tape, h.output, Nat.le_of_eq h.size.symm, fun i hi => h.block i (fun x => by have := k i x; omega)⟩
theorem rowIs_drewN {w : World} {b : Nat} {t : TypeId} {n : Nat} {f : Nat → Value} (h : w.rowIs b t n f) (k : Nat) : (w.drewN k).rowIs b t n f := h

/-- dst[k] += s * src[k], for the first k places. -/
structure Adds (w wr : World) (db n k s : Nat) (g h g' : Nat → Nat) : Prop where
  keep : Keep (fun b => b = db) w wr
  row : wr.rowIs db 29 n (fun i => .float .f64 (g' i))
  done : ∀ i, i < k → ∃ p, FOp .mul s (h i) p ∧ FOp .add (g i) p (g' i)
  rest : ∀ i, k ≤ i → g' i = g i

theorem adds_step {w wr : World} {db n k s : Nat} {g h g' : Nat → Nat} (H : Adds w wr db n k s g h g') (p v q : Nat) (hp : FOp .mul s (h k) p) (hv : FOp .add (g' k) p v) :
    Adds w ((wr.drewN q).setCell ⟨db, k, none⟩ (.float .f64 v)) db n (k + 1) s g h (fun i => if i = k then v else g' i) := by
  refine ⟨(H.keep.drewN q).setCell (p := ⟨db, k, none⟩) rfl _, ((rowIs_drewN H.row q).set k _).congr (fun j _ => ?_), fun i hi => ?_, fun i hi => ?_⟩
  · split <;> rfl
  · by_cases e : i = k
    · subst e; simp only [if_true]; rw [H.rest i (Nat.le_refl _)] at hv; exact ⟨p, hp, hv⟩
    · simp only [if_neg e]; exact H.done i (by omega)
  · rw [if_neg (by omega)]; exact H.rest i (by omega)

set_option maxHeartbeats 1000000 in
theorem addScaled_any (db sb n s : Nat) (g h : Nat → Nat) (w : World) (hn : n ≤ 1048576) (hne : sb ≠ db)
    (hd : w.rowIs db 29 n (fun i => .float .f64 (g i))) (hs : w.rowIs sb 29 n (fun i => .float .f64 (h i))) :
    Calls Try.prog 20 #[.slice (some ⟨db, 0, none⟩) n n, .float .f64 s, .slice (some ⟨sb, 0, none⟩) n n] w fun e w' => e = .returned (.tuple #[]) ∧ ∃ g', Adds w w' db n n s g h g' := by
  go_enter Try.func20, Try.ntmps20
  go_wp2
  go_loopg [10] n (fun gh i wr => ∃ k : Nat, k ≤ n ∧ gh = n - k ∧ i = .int .i64 k ∧ ∃ g', Adds w wr db n k s g h g')
  case atStart => exact ⟨0, Nat.zero_le _, rfl, rfl, g, Keep.refl _ _, hd, fun i hi => absurd hi (Nat.not_lt_zero _), fun _ _ => rfl⟩
  case round =>
    obtain ⟨k, hk, rfl, rfl, g', hA⟩ := hrel
    by_cases hlt : k < n
    · have hlz : (k : Int) < (n : Int) := by omega
      have g0 : wr.cell? ⟨sb, k, none⟩ = some (.float .f64 (h k)) := (hA.keep.row hs hne).cell hlt
      have g1 : wr.cell? ⟨db, k, none⟩ = some (.float .f64 (g' k)) := hA.row.cell hlt
      have g2 : wr.frozen? ⟨db, k, none⟩ = false := hA.row.frozen k
      go_wp2
      go_region_with (go_at_call 21; refine (mul_any _ _ _).mono ?_; rintro e w' ⟨rfl, rfl⟩)
      all_goals go_wp2
      all_goals
        go_roundg (n - (k + 1))
        case measure => omega
        case rel =>
          go_light
          exact ⟨k + 1, by omega, rfl, by simp, _, adds_step hA _ _ _ (fres_is _ _ _ _) (fres_is _ _ _ _)⟩
    · go_wp2
      go_end0
      obtain rfl : k = n := by omega
      exact ⟨rfl, g', hA⟩

/-- What eliminate does to a row g, the pivot row being h, the column j. -/
def Elim (n j : Nat) (g h g' : Nat → Nat) : Prop :=
  (feq (g j) 0 = true ∧ ∀ k, k < n → g' k = g k) ∨
  (feq (g j) 0 = false ∧ g' j = 0 ∧ ∀ k, k < n → k ≠ j → ∃ p, FOp .mul (Op.negFloat .f64 (g j)) (h k) p ∧ FOp .add (g k) p (g' k))

set_option maxHeartbeats 1000000 in
theorem elim_any (db sb n j : Nat) (g h : Nat → Nat) (w : World) (hn : n ≤ 1048576) (hne : sb ≠ db) (hj : j < n)
    (hd : w.rowIs db 29 n (fun i => .float .f64 (g i))) (hs : w.rowIs sb 29 n (fun i => .float .f64 (h i))) :
    Calls Try.prog 19 #[.slice (some ⟨db, 0, none⟩) n n, .slice (some ⟨sb, 0, none⟩) n n, .int .i64 j] w fun e w' => e = .returned (.tuple #[]) ∧ ∃ g', Elim n j g h g' ∧ Keep (fun b => b = db) w w' ∧ w'.rowIs db 29 n (fun i => .float .f64 (g' i)) := by
  have hjz : (j : Int) < (n : Int) := by omega
  have g1 : w.cell? ⟨db, j, none⟩ = some (.float .f64 (g j)) := hd.cell hj
  have cA := addScaled_any db sb n (Op.negFloat .f64 (g j)) g h w hn hne hd hs
  cases hz : feq (g j) 0
  · have hz' : (FloatKind.f64.format.order (g j) 0 == some .eq) = false := hz
    go_enter Try.func19, Try.ntmps19
    go_wp2_with (go_at_call 20; refine cA.mono ?_; rintro e wx ⟨rfl, g', hA⟩; have k1 := hA.row.cell hj; have k2 := hA.row.frozen j)
    go_end0
    refine ⟨rfl, fun i => if i = j then 0 else g' i, .inr ⟨hz, by simp, fun k hk hkj => ?_⟩, hA.keep.setCell (p := ⟨db, j, none⟩) rfl _, (hA.row.set j _).congr (fun i _ => by by_cases e : i = j <;> simp [e])⟩
    simp only [if_neg hkj]
    exact hA.done k hk
  · have hz' : (FloatKind.f64.format.order (g j) 0 == some .eq) = true := hz
    go_enter Try.func19, Try.ntmps19
    go_wp2
    refine bodyPost_ret (v := .tuple #[]) (results_none rfl _ _ _) rfl ?_
    exact ⟨rfl, g, .inl ⟨hz, fun _ _ => rfl⟩, Keep.refl _ _, hd⟩
end Go.Proofs.Qxb6619410a
