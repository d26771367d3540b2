import Derived.Test.Qxb6619410aPivot
namespace Go.Proofs.Qxb6619410a
open Go.RowKit
attribute [local go_sem] run_add run_sub run_mul run_quo unary_negf run_store_float

theorem Tab.below {w w' : World} {RN OB BB m n : Nat} {F : Nat → Nat → Nat} {O : Nat → Nat} {B : Nat → Int} (h : Tab w RN OB BB m n F O B) (o1 : RN + m < OB) (o2 : OB < BB) (k : Below (BB + 1) w w') : Tab w' RN OB BB m n F O B :=
  ⟨rowIs_below h.top k (by omega), fun j hj => rowIs_below (h.row j hj) k (by omega), rowIs_below h.obj k (by omega), rowIs_below h.bas k (by omega)⟩

set_option maxHeartbeats 1000000 in
theorem zzPivot_any (RN OB BB m n r j : Nat) (F : Nat → Nat → Nat) (O : Nat → Nat) (B : Nat → Int) (w : World) (hn : n ≤ 1048576) (hm : m ≤ 1048576) (hr : r < m) (hj : j < n)
    (o1 : RN + m < OB) (o2 : OB < BB) (o3 : BB < w.heap.size) (hT : Tab w RN OB BB m n F O B) :
    Calls Try.prog 15 #[.slice (some ⟨RN, 0, none⟩) m m, .slice (some ⟨OB, 0, none⟩) n n, .slice (some ⟨BB, 0, none⟩) m m, .int .i64 r, .int .i64 j] w fun e w' => e = .returned (.tuple #[]) ∧ ∃ F' O', Pivoted m n r j F F' O O' ∧
      Below (RN + 1) w w' ∧ Tab w' RN OB BB m n F' O' (fun k => if k = r then (j : Int) else B k) := by
  go_enter Try.func15, Try.ntmps15
  go_wp2_with fail
  refine (pivot_any w.heap.size RN OB BB m n r j F O B _ hn hm hr hj o1 o2 o3 (hT.below o1 o2 ((Below.refl _ _).alloc (by omega) _)) ?_ ?_ ?_).mono ?_
  · simp
  · simp
  · simp
  rintro e wx ⟨rfl, F', O', hP, hK, hX⟩
  go_wp2
  go_end0
  exact ⟨rfl, F', O', hP, ((Below.refl _ _).alloc (by omega) _).trans (hK.below (fun i hi => by omega)), hX⟩

/-- A Bool comes back; where it is true the number is small. -/
def FitsB (m : Nat) (e : Ending) : Prop := ∃ b, e = .returned (.bool b) ∧ (b = true → m ≤ 1048576)
theorem fits_no (m : Nat) : FitsB m (.returned (.bool false)) := ⟨false, rfl, fun h => by cases h⟩
theorem fits_yes {m : Nat} (h : m ≤ 1048576) : FitsB m (.returned (.bool true)) := ⟨true, rfl, fun _ => h⟩
theorem fits_out {m : Nat} {e : Ending} (h : FitsB m e) : ∃ b, e = .returned (.bool b) ∧ (b = true → m ≤ 1048576) := h

set_option maxHeartbeats 1000000 in
theorem rowsFit_any (t : Int) (ga : Option Addr) (gb go m c : Nat) (A : Nat → Option Addr) (L C : Nat → Nat) (w : World) (hm : m ≤ maxLen)
    (hga : 0 < m → ga = some ⟨gb, go, none⟩) (hrow : ∀ s, s < m → w.cell? ⟨gb, go + s, none⟩ = some (.slice (A s) (L s) (C s))) :
    Calls Try.prog 6 #[.int .i64 t, .slice ga m c] w fun e w' => FitsB m e ∧ w' = w := by
  unfold maxLen at hm
  by_cases ht : 1048576 < t
  · go_enter Try.func6, Try.ntmps6
    go_wp2
    go_ret
    exact ⟨fits_no _, rfl⟩
  by_cases hm1 : 1048576 < m
  · have hmz : (1048576 : Int) < (m : Int) := by omega
    go_enter Try.func6, Try.ntmps6
    go_wp2
    go_ret
    exact ⟨fits_no _, rfl⟩
  have hmz : ¬ (1048576 : Int) < (m : Int) := by omega
  go_enter Try.func6, Try.ntmps6
  go_wp2
  · go_ret
    exact ⟨fits_no _, rfl⟩
  · go_loopg [0, 5] m (fun gh t i wr => ∃ (z : Int) (k : Nat), t = .int .i64 z ∧ k ≤ m ∧ gh = m - k ∧ i = .int .i64 k ∧ wr = w)
    case atStart => exact ⟨_, 0, rfl, Nat.zero_le _, rfl, rfl, rfl⟩
    case round =>
      obtain ⟨z, k, rfl, hk, rfl, rfl, rfl⟩ := hrel
      by_cases hlt : k < m
      · obtain rfl := hga (by omega)
        have hlz : (k : Int) < (m : Int) := by omega
        have g0 := hrow k hlt
        go_wp2
        · go_ret
          exact ⟨fits_no _, rfl⟩
        · go_ret
          exact ⟨fits_no _, rfl⟩
        · go_roundg (m - (k + 1))
          case measure => omega
          case rel =>
            go_light
            exact ⟨_, k + 1, rfl, by omega, rfl, by simp, rfl⟩
      · go_wp2
        go_ret
        exact ⟨fits_yes (by omega), rfl⟩

def SomeB (e : Ending) : Prop := ∃ b, e = .returned (.bool b)
theorem someB (b : Bool) : SomeB (.returned (.bool b)) := ⟨b, rfl⟩

set_option maxHeartbeats 1000000 in
theorem bytes_any (ga : Option Addr) (gb go m c : Nat) (A : Nat → Option Addr) (L C : Nat → Nat) (oa : Option Addr) (n oc : Nat) (ba : Option Addr) (nb bc : Nat) (r j : Int) (w : World) (hm : m ≤ maxLen)
    (hga : 0 < m → ga = some ⟨gb, go, none⟩) (hrow : ∀ s, s < m → w.cell? ⟨gb, go + s, none⟩ = some (.slice (A s) (L s) (C s))) :
    Calls Try.prog 9 #[.slice ga m c, .slice oa n oc, .slice ba nb bc, .int .i64 r, .int .i64 j] w fun e w' => SomeB e ∧ w' = w := by
  unfold maxLen at hm
  go_enter Try.func9, Try.ntmps9
  go_wp2
  · go_ret
    exact ⟨someB _, rfl⟩
  · go_loopg [11, 12] m (fun gh t i wr => ∃ (z : Int) (k : Nat), t = .int .i64 z ∧ k ≤ m ∧ gh = m - k ∧ i = .int .i64 k ∧ wr = w)
    case atStart => exact ⟨_, 0, rfl, Nat.zero_le _, rfl, rfl, rfl⟩
    case round =>
      obtain ⟨z, k, rfl, hk, rfl, rfl, rfl⟩ := hrel
      by_cases hlt : k < m
      · obtain rfl := hga (by omega)
        have hlz : (k : Int) < (m : Int) := by omega
        have g0 := hrow k hlt
        go_wp2
        · go_ret
          exact ⟨someB _, rfl⟩
        · go_ret
          exact ⟨someB _, rfl⟩
        · go_roundg (m - (k + 1))
          case measure => omega
          case rel =>
            go_light
            exact ⟨_, k + 1, rfl, by omega, rfl, by simp, rfl⟩
      · go_wp2
        all_goals go_ret
        all_goals exact ⟨someB _, rfl⟩
end Go.Proofs.Qxb6619410a
