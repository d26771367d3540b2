import Derived.Test.Qxb6619410aFloat
import Derived.Test.Qxb6619410aCanonWalk
namespace Go.Proofs.Qxb6619410a
open Go.RowKit
attribute [local go_sem] run_add run_sub run_mul run_quo unary_negf run_store_float

/-! ### THE PLAIN LAW: a pivot keeps the canonical form -/
theorem elim_lead {n j : Nat} {g h g' : Nat → Nat} (H : Elim n j g h g') (hj : j < n) : feq (g' j) 0 = true := by
  rcases H with ⟨h1, h2⟩ | ⟨_, h2, _⟩
  · rw [h2 j hj]; exact h1
  · rw [h2]; decide

theorem elim_keep {n j k : Nat} {g h g' : Nat → Nat} (H : Elim n j g h g') (hk : k < n) (hkj : k ≠ j) (hf : Num (g j)) (hz : Zero (h k)) (c : Nat) (hc : c = 0 ∨ c = one) (hg : feq (g k) c = true) : feq (g' k) c = true := by
  rcases H with ⟨_, h2⟩ | ⟨_, _, h2⟩
  · rw [h2 k hk]; exact hg
  · obtain ⟨p, hp, ha⟩ := h2 k hk hkj
    have hp0 : Zero p := mul_zero (num_neg hf) hz hp
    rcases hc with rfl | rfl
    · exact feq_of_zero (add_zero_zero (zero_of_feq hg) hp0 ha)
    · rw [add_one_zero hg hp0 ha]; exact feq_one

theorem canon_after {m n r j : Nat} {L : Nat → Nat} {F F' : Nat → Nat → Nat} {O O' : Nat → Nat} {B : Nat → Int} (hC : Canon m n L F O B) (hP : Piv m n r j F O B) (hv : Pivoted m n r j F F' O O') :
    Canon m n (fun _ => n) F' O' (fun k => if k = r then (j : Int) else B k) := by
  obtain ⟨_, hr, _, hj, hN, hF, hO, hp⟩ := hP
  have hr : r < m := by omega
  have hj : j < n := by omega
  simp only [Int.toNat_natCast] at hF hO hp
  have col : ∀ t, t < m → (B t).toNat < n ∧ (B t).toNat ≠ j := fun t ht => by
    have h1 := hC.lo t ht
    have h2 := hC.hi t ht
    have h3 := hN t ht
    omega
  have zr : ∀ t, t < m → t ≠ r → Zero (F' r (B t).toNat) := fun t ht htr => by
    have h1 := hC.ent r t hr ht
    rw [if_neg htr] at h1
    exact quo_zero (zero_of_feq h1) (num_of_fin (hF r hr)) hp (hv.quo _ (col t ht).1 (col t ht).2)
  refine ⟨fun s hs => ?_, fun s hs => ?_, fun s t hs ht e => ?_, fun _ _ => rfl, fun s t hs ht => ?_, fun t ht => ?_⟩
  · by_cases e : s = r
    · rw [if_pos e]; omega
    · rw [if_neg e]; exact hC.lo s hs
  · by_cases e : s = r
    · rw [if_pos e]; omega
    · rw [if_neg e]; exact hC.hi s hs
  · by_cases e1 : s = r <;> by_cases e2 : t = r
    · omega
    · simp only [if_pos e1, if_neg e2] at e; exact absurd e.symm (hN t ht)
    · simp only [if_neg e1, if_pos e2] at e; exact absurd e (hN s hs)
    · simp only [if_neg e1, if_neg e2] at e; exact hC.inj s t hs ht e
  · by_cases e2 : t = r
    · simp only [if_pos e2, Int.toNat_natCast]
      by_cases e1 : s = r
      · rw [if_pos (by omega), e1, hv.lead]; exact feq_one
      · rw [if_neg (by omega)]; exact elim_lead (hv.rows s hs e1) hj
    · simp only [if_neg e2]
      have h1 := hC.ent s t hs ht
      by_cases e1 : s = r
      · subst e1
        rw [if_neg e2]
        exact feq_of_zero (zr t ht e2)
      · refine elim_keep (hv.rows s hs e1) (col t ht).1 (col t ht).2 (num_of_fin (hF s hs)) (zr t ht e2) _ ?_ h1
        split
        · exact .inr rfl
        · exact .inl rfl
  · by_cases e2 : t = r
    · simp only [if_pos e2, Int.toNat_natCast]; exact elim_lead hv.obj hj
    · simp only [if_neg e2]
      exact elim_keep hv.obj (col t ht).1 (col t ht).2 (num_of_fin hO) (zr t ht e2) 0 (.inl rfl) (hC.obj t ht)

/-! ### What the law's own steps hand on -/
theorem tab_made {w5 w6 w7 w8 : World} {m n : Nat} {F : Nat → Nat → Nat} {O : Nat → Nat} {B : Nat → Int} (h6 : Rowed w5 w6 m n m F) (h7 : Fill w6 w7 29 n n (fun k => .float .f64 (O k)) (.float .f64 0)) (h8 : Fill w7 w8 3 m m (fun k => .int .i64 (B k)) (.int .i64 0)) :
    Tab w8 w5.heap.size w6.heap.size w7.heap.size m n F O B := by
  have s6 := h6.size
  have s7 := h7.size
  have s8 := h8.size
  refine ⟨?_, fun j hj => ?_, ?_, fill_done h8⟩
  · exact rowIs_below (rowIs_below h6.top h7.below (by omega)) h8.below (by omega)
  · exact rowIs_below (rowIs_below (h6.done j hj) h7.below (by omega)) h8.below (by omega)
  · exact rowIs_below (fill_done h7) h8.below (by omega)

theorem canon_true (ga : Option Addr) (gb go m gc : Nat) (A : Nat → Option Addr) (L C RB RO : Nat → Nat) (F : Nat → Nat → Nat) (oa : Option Addr) (ob oo n oc : Nat) (O : Nat → Nat) (ba : Option Addr) (bb bo bc : Nat) (B : Nat → Int) (w : World)
    (hm : m ≤ 1048576) (hn : n ≤ 1048576)
    (hga : 0 < m → ga = some ⟨gb, go, none⟩) (hrow : ∀ s, s < m → w.cell? ⟨gb, go + s, none⟩ = some (.slice (A s) (L s) (C s)))
    (hA : ∀ s, s < m → ∀ k, k < L s → A s = some ⟨RB s, RO s, none⟩ ∧ w.cell? ⟨RB s, RO s + k, none⟩ = some (.float .f64 (F s k)))
    (hoa : 0 < n → oa = some ⟨ob, oo, none⟩) (hO : ∀ k, k < n → w.cell? ⟨ob, oo + k, none⟩ = some (.float .f64 (O k)))
    (hba : 0 < m → ba = some ⟨bb, bo, none⟩) (hB : ∀ k, k < m → w.cell? ⟨bb, bo + k, none⟩ = some (.int .i64 (B k))) (hC : Canon m n L F O B) :
    Calls Try.prog 10 #[.slice ga m gc, .slice oa n oc, .slice ba m bc, .int .i64 n, .int .i64 n] w fun e w' => e = .returned (.bool true) ∧ Below w.heap.size w w' := by
  refine (canon_full ga gb go m gc A L C RB RO F oa ob oo n oc O ba bb bo bc B w hm hn hga hrow hA hoa hO hba hB).mono ?_
  rintro e w' ⟨⟨b, rfl, hb⟩, hw⟩
  have : b = true := hb.2 ⟨rfl, hC⟩
  subst this
  exact ⟨rfl, hw⟩

theorem canon_false (ga : Option Addr) (gb go m gc : Nat) (A : Nat → Option Addr) (L C RB RO : Nat → Nat) (F : Nat → Nat → Nat) (oa : Option Addr) (ob oo n oc : Nat) (O : Nat → Nat) (ba : Option Addr) (bb bo nb bc : Nat) (B : Nat → Int) (w : World)
    (hm : m ≤ 1048576) (hn : n ≤ 1048576)
    (hga : 0 < m → ga = some ⟨gb, go, none⟩) (hrow : ∀ s, s < m → w.cell? ⟨gb, go + s, none⟩ = some (.slice (A s) (L s) (C s)))
    (hA : ∀ s, s < m → ∀ k, k < L s → A s = some ⟨RB s, RO s, none⟩ ∧ w.cell? ⟨RB s, RO s + k, none⟩ = some (.float .f64 (F s k)))
    (hoa : 0 < n → oa = some ⟨ob, oo, none⟩) (hO : ∀ k, k < n → w.cell? ⟨ob, oo + k, none⟩ = some (.float .f64 (O k)))
    (hba : 0 < nb → ba = some ⟨bb, bo, none⟩) (hB : ∀ k, k < nb → w.cell? ⟨bb, bo + k, none⟩ = some (.int .i64 (B k))) (hC : ¬ (nb = m ∧ Canon m n L F O B)) :
    Calls Try.prog 10 #[.slice ga m gc, .slice oa n oc, .slice ba nb bc, .int .i64 n, .int .i64 n] w fun e w' => e = .returned (.bool false) ∧ Below w.heap.size w w' := by
  have fin : ∀ (e : Ending) (w' : World), (CanonE m nb n L F O B e ∧ Below w.heap.size w w') → (e = .returned (.bool false) ∧ Below w.heap.size w w') := by
    rintro e w' ⟨⟨b, rfl, hb⟩, hw⟩
    cases b with
    | false => exact ⟨rfl, hw⟩
    | true => exact absurd (hb.1 rfl) hC
  by_cases h : nb = m
  · subst h
    exact (canon_full ga gb go nb gc A L C RB RO F oa ob oo n oc O ba bb bo bc B w hm hn hga hrow hA hoa hO hba hB).mono fin
  · exact (canon_short ga m gc oa n oc ba nb bc L F O B w h).mono fin
end Go.Proofs.Qxb6619410a
