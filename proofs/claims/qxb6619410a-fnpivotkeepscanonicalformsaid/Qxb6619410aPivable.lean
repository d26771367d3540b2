import Derived.Test.Qxb6619410aCanon
namespace Go.Proofs.Qxb6619410a
open Go.RowKit
attribute [local go_sem] run_add run_sub run_mul run_quo unary_negf run_store_float

/-- x - x == 0 was seen. -/
def Fin0 (x : Nat) : Prop := ∃ r, FOp .sub x x r ∧ feq r 0 = true

theorem finite_is (x : Nat) (w : World) :
    Calls Try.prog 17 #[.float .f64 x] w fun e w' => ∃ bb, e = .returned (.bool bb) ∧ Hid (bb = true → Fin0 x) ∧ ∃ q, w' = w.drewN q :=
  (finite_any x w).mono fun _ _ ⟨h1, h2⟩ => ⟨_, h1, fun h => ⟨_, fres_is _ _ _ _, h⟩, _, h2.symm⟩

def Piv (m n : Nat) (r j : Int) (F : Nat → Nat → Nat) (O : Nat → Nat) (B : Nat → Int) : Prop :=
  0 ≤ r ∧ r < m ∧ 0 ≤ j ∧ j < n ∧ (∀ s, s < m → B s ≠ j) ∧ (∀ s, s < m → Fin0 (F s j.toNat)) ∧ Fin0 (O j.toNat) ∧ feq (F r.toNat j.toNat) 0 = false

def PivE (m n : Nat) (r j : Int) (F : Nat → Nat → Nat) (O : Nat → Nat) (B : Nat → Int) (e : Ending) : Prop := ∃ b, e = .returned (.bool b) ∧ (b = true → Piv m n r j F O B)
theorem piv_no {m n : Nat} {r j : Int} {F : Nat → Nat → Nat} {O : Nat → Nat} {B : Nat → Int} : PivE m n r j F O B (.returned (.bool false)) := ⟨false, rfl, fun e => by cases e⟩
theorem piv_end {m n : Nat} {r j : Int} {F : Nat → Nat → Nat} {O : Nat → Nat} {B : Nat → Int} {b : Bool} (h : b = true → Piv m n r j F O B) : PivE m n r j F O B (.returned (.bool b)) := ⟨b, rfl, h⟩

set_option maxHeartbeats 2000000 in
theorem pivotable_any (ga : Option Addr) (gb go m gc : Nat) (A : Nat → Option Addr) (C RB RO : Nat → Nat) (F : Nat → Nat → Nat) (oa : Option Addr) (ob oo n oc : Nat) (O : Nat → Nat) (ba : Option Addr) (bb bo bc : Nat) (B : Nat → Int) (r j : Int) (w : World)
    (hm : m ≤ 1048576) (hn : n ≤ 1048576)
    (hga : 0 < m → ga = some ⟨gb, go, none⟩) (hrow : ∀ s, s < m → w.cell? ⟨gb, go + s, none⟩ = some (.slice (A s) n (C s)))
    (hA : ∀ s, s < m → ∀ k, k < n → A s = some ⟨RB s, RO s, none⟩ ∧ w.cell? ⟨RB s, RO s + k, none⟩ = some (.float .f64 (F s k)))
    (hoa : 0 < n → oa = some ⟨ob, oo, none⟩) (hO : ∀ k, k < n → w.cell? ⟨ob, oo + k, none⟩ = some (.float .f64 (O k)))
    (hba : 0 < m → ba = some ⟨bb, bo, none⟩) (hB : ∀ k, k < m → w.cell? ⟨bb, bo + k, none⟩ = some (.int .i64 (B k))) :
    Calls Try.prog 11 #[.slice ga m gc, .slice oa n oc, .slice ba m bc, .int .i64 r, .int .i64 j, .int .i64 n] w fun e w' => PivE m n r j F O B e ∧ ∃ q, w' = w.drewN q := by
  by_cases r0 : r < 0
  · go_enter Try.func11, Try.ntmps11
    go_wp2
    go_ret
    exact ⟨piv_no, 0, rfl⟩
  by_cases r1 : (m : Int) ≤ r
  · go_enter Try.func11, Try.ntmps11
    go_wp2
    go_ret
    exact ⟨piv_no, 0, rfl⟩
  by_cases j0 : j < 0
  · go_enter Try.func11, Try.ntmps11
    go_wp2
    go_ret
    exact ⟨piv_no, 0, rfl⟩
  by_cases j1 : (n : Int) ≤ j
  · go_enter Try.func11, Try.ntmps11
    go_wp2
    go_ret
    exact ⟨piv_no, 0, rfl⟩
  obtain ⟨r, rfl⟩ := Int.eq_ofNat_of_zero_le (show 0 ≤ r by omega)
  obtain ⟨j, rfl⟩ := Int.eq_ofNat_of_zero_le (show 0 ≤ j by omega)
  obtain rfl := hga (by omega)
  obtain rfl := hoa (by omega)
  obtain rfl := hba (by omega)
  have hrm : r < m := by omega
  have hjn : j < n := by omega
  have hrz : (r : Int) < (m : Int) := by omega
  have hjz : (j : Int) < (n : Int) := by omega
  have Hrow : Hid (∀ s, s < m → w.cell? ⟨gb, go + s, none⟩ = some (.slice (some ⟨RB s, RO s, none⟩) n (C s))) := fun s hs => by rw [hrow s hs, (hA s hs j hjn).1]
  have HA : Hid (∀ s, s < m → w.cell? ⟨RB s, RO s + j, none⟩ = some (.float .f64 (F s j))) := fun s hs => (hA s hs j hjn).2
  have HB : Hid (∀ k, k < m → w.cell? ⟨bb, bo + k, none⟩ = some (.int .i64 (B k))) := hB
  have o0 := hO j hjn
  have e1 : decide (m ≤ r) = false := decide_eq_false (by omega)
  have e2 : decide (n ≤ j) = false := decide_eq_false (by omega)
  have e3 : decide ((r : Int) < 0) = false := decide_eq_false (by omega)
  have e4 : decide ((j : Int) < 0) = false := decide_eq_false (by omega)
  clear hrow hA hO hB hga hoa hba r0 r1 j0 j1
  go_enter Try.func11, Try.ntmps11
  go_wp2
  go_loopg [13] m (fun g i wx => ∃ s : Nat, s ≤ m ∧ g = m - s ∧ i = .int .i64 s ∧ Hid (∀ t, t < s → B t ≠ j) ∧ w = wx)
  case atStart => exact ⟨0, Nat.zero_le _, rfl, rfl, fun t ht => absurd ht (Nat.not_lt_zero _), rfl⟩
  case round =>
    obtain ⟨s, hs, rfl, rfl, hN, rfl⟩ := hrel
    by_cases hlt : s < m
    · have hlz : (s : Int) < (m : Int) := by omega
      have b0 := HB.out s hlt
      by_cases he : B s = j
      · have he' : ((B s) == (j : Int)) = true := by simp [he]
        clear he
        go_wp2
        go_ret
        exact ⟨piv_no, 0, rfl⟩
      · have he' : ((B s) == (j : Int)) = false := by simp [he]
        go_wp2
        go_roundg (m - (s + 1))
        case measure => omega
        case rel =>
          refine ⟨s + 1, by omega, rfl, by simp, fun t ht => ?_, rfl⟩
          rcases Nat.lt_or_eq_of_le (Nat.le_of_lt_succ ht) with h' | h'
          · exact hN.out t h'
          · subst h'; exact he
    obtain rfl : m = s := by omega
    clear hlt hs
    go_wp2
    go_loopg [14] m (fun g i wx => ∃ s : Nat, s ≤ m ∧ g = m - s ∧ i = .int .i64 s ∧ Hid (∀ t, t < s → Fin0 (F t j)) ∧ ∃ q, wx = w.drewN q)
    case atStart => exact ⟨0, Nat.zero_le _, rfl, rfl, fun t ht => absurd ht (Nat.not_lt_zero _), 0, rfl⟩
    case round =>
      obtain ⟨s, hs, rfl, rfl, hG, q, rfl⟩ := hrel
      by_cases hlt : s < m
      · have hlz : (s : Int) < (m : Int) := by omega
        have b0 := Hrow.out s hlt
        have b1 := HA.out s hlt
        go_wp2_with (go_at_call 17; refine (finite_is _ _).mono ?_; rintro e w' ⟨bb, rfl, hbb, q2, rfl⟩)
        · go_ret
          exact ⟨piv_no, _, rfl⟩
        · go_roundg (m - (s + 1))
          case measure => omega
          case rel =>
            have hb : (!bb) = false := by assumption
            refine ⟨s + 1, by omega, rfl, by simp, fun t ht => ?_, _, rfl⟩
            rcases Nat.lt_or_eq_of_le (Nat.le_of_lt_succ ht) with h' | h'
            · exact hG.out t h'
            · subst h'; exact hbb.out (by simpa using hb)
      obtain rfl : m = s := by omega
      have b0 := Hrow.out r hrm
      have b1 := HA.out r hrm
      clear hlt hs
      go_wp2_with (go_at_call 17; refine (finite_is _ _).mono ?_; rintro e w' ⟨bb, rfl, hbb, q2, rfl⟩)
      · go_ret
        exact ⟨piv_no, _, rfl⟩
      · have hb : (!bb) = false := by assumption
        go_ret
        refine ⟨piv_end (fun h => ⟨by omega, by omega, by omega, by omega, hN.out, hG.out, hbb.out (by simpa using hb), ?_⟩), _, rfl⟩
        have h2 : (FloatKind.f64.format.order (F r j) 0 != some .eq) = true := h
        show (FloatKind.f64.format.order (F r j) 0 == some .eq) = false
        simpa [bne] using h2
end Go.Proofs.Qxb6619410a
