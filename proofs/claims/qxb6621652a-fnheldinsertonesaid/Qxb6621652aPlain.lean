import Derived.Test.Qxb6621652aCons
namespace Go.Proofs.Qxb6621652a
open Go.RowKit

/-! ### THE PLAIN LAWS ON COUNTS -/
theorem cnt_succ (V : Nat → Int) (x : Int) (k : Nat) : cnt V x (k + 1) = cnt V x k + if V k = x then 1 else 0 := rfl

theorem sumh_congr {h h' : Nat → Nat} : ∀ {n : Nat}, (∀ i, i < n → h' i = h i) → sumh h' n = sumh h n
  | 0, _ => rfl
  | n + 1, e => by rw [sumh_succ, sumh_succ, sumh_congr (fun i hi => e i (by omega)), e n (by omega)]

theorem sumh_bump {h h' : Nat → Nat} {i0 : Nat} : ∀ {n : Nat}, i0 < n → (∀ i, i < n → i ≠ i0 → h' i = h i) → h' i0 = h i0 + 1 → sumh h' n = sumh h n + 1
  | 0, h0, _, _ => absurd h0 (Nat.not_lt_zero _)
  | n + 1, h0, e, e0 => by
    rw [sumh_succ, sumh_succ]
    by_cases hn : n = i0
    · subst hn
      rw [sumh_congr (h := h) (h' := h') (fun i hi => e i (by omega) (by omega)), e0]; omega
    · rw [sumh_bump (h := h) (i0 := i0) (by omega) (fun i hi => e i (by omega)) e0, e n (by omega) hn]; omega

theorem sumh_zero {h : Nat → Nat} : ∀ {n : Nat}, (∀ i, i < n → h i = 0) → sumh h n = 0
  | 0, _ => rfl
  | n + 1, e => by rw [sumh_succ, sumh_zero (fun i hi => e i (by omega)), e n (by omega)]

/-- The counts add up to the table's length. -/
theorem total {n : Nat} {V : Nat → Int} : ∀ {t : Nat}, Valid n t V → (∀ i, i < t → 0 ≤ V i) → cnt V 65535 t + sumh (fun i => hc V i t) n = t
  | 0, _, _ => by
    rw [sumh_zero (fun i _ => by simp [hc, cnt])]
    rfl
  | t + 1, hv, hw => by
    have ih := total (n := n) (V := V) (t := t) (fun i hi => hv i (by omega)) (fun i hi => hw i (by omega))
    rw [cnt_succ]
    by_cases e : V t = 65535
    · rw [if_pos e, sumh_congr (h := fun i => hc V i t)]
      · omega
      · intro i _
        by_cases e' : i = 65535
        · simp [hc, e']
        · have : ¬ V t = (i : Int) := by omega
          simp [hc, e', cnt_succ, this]
    · rw [if_neg e]
      obtain ⟨i0, hi0⟩ : ∃ i0 : Nat, V t = i0 := ⟨(V t).toNat, by have := hw t (by omega); omega⟩
      have hlt : i0 < n := by rcases hv t (by omega) with h | h <;> omega
      have hne : i0 ≠ 65535 := by omega
      rw [sumh_bump (h := fun i => hc V i t) (i0 := i0) hlt]
      · omega
      · intro i _ hi
        by_cases e' : i = 65535
        · simp [hc, e']
        · have : ¬ V t = (i : Int) := by omega
          simp [hc, e', cnt_succ, this]
      · simp [hc, hne, cnt_succ, hi0]

/-- The table cut in two. -/
theorem cnt_split (V : Nat → Int) (x : Int) (c : Nat) : ∀ d, cnt V x (c + d) = cnt V x c + cnt (fun k => V (c + k)) x d
  | 0 => rfl
  | d + 1 => by
    rw [← Nat.add_assoc, cnt_succ, cnt_succ, cnt_split V x c d]; omega
theorem hc_split (V : Nat → Int) (i c d : Nat) : hc V i (c + d) = hc V i c + hc (fun k => V (c + k)) i d := by
  unfold hc
  split
  · rfl
  · exact cnt_split V i c d

/-- One entry more. -/
def ins (V : Nat → Int) (a : Nat) (v : Int) : Nat → Int := fun k => if k < a then V k else if k = a then v else V (k - 1)
theorem cnt_ins_lo (V : Nat → Int) (a : Nat) (v x : Int) : ∀ k, k ≤ a → cnt (ins V a v) x k = cnt V x k
  | 0, _ => rfl
  | k + 1, h => by
    rw [cnt_succ, cnt_succ, cnt_ins_lo V a v x k (by omega)]
    have : ins V a v k = V k := by unfold ins; rw [if_pos (by omega)]
    rw [this]
theorem cnt_ins_hi (V : Nat → Int) (a : Nat) (v x : Int) : ∀ d, cnt (ins V a v) x (a + d + 1) = cnt V x (a + d) + if v = x then 1 else 0
  | 0 => by
    have : ins V a v a = v := by unfold ins; rw [if_neg (by omega), if_pos rfl]
    show cnt (ins V a v) x (a + 1) = cnt V x a + if v = x then 1 else 0
    rw [cnt_succ, cnt_ins_lo V a v x a (Nat.le_refl _), this]
  | d + 1 => by
    rw [cnt_succ, ← Nat.add_assoc, cnt_ins_hi V a v x d, cnt_succ]
    have : ins V a v (a + d + 1) = V (a + d) := by unfold ins; rw [if_neg (by omega), if_neg (by omega)]; congr 1
    rw [this]; omega
theorem cnt_ins (V : Nat → Int) (a t : Nat) (v x : Int) (h : a ≤ t) : cnt (ins V a v) x (t + 1) = cnt V x t + if v = x then 1 else 0 := by
  obtain ⟨d, rfl⟩ := Nat.exists_eq_add_of_le h
  exact cnt_ins_hi V a v x d
theorem hc_ins (V : Nat → Int) (i a t : Nat) (v : Int) (h : a ≤ t) : hc (ins V a v) i (t + 1) = hc V i t + if v ≠ 65535 ∧ v = i then 1 else 0 := by
  unfold hc
  by_cases e : i = 65535
  · rw [if_pos e, if_pos e, if_neg (by omega)]
  · rw [if_neg e, if_neg e, cnt_ins V a t v i h]
    by_cases e' : v = (i : Int)
    · rw [if_pos e', if_pos ⟨by omega, e'⟩]
    · rw [if_neg e', if_neg (fun h => e' h.2)]

/-- Every entry of node j marked. -/
def drop (V : Nat → Int) (j : Nat) : Nat → Int := fun k => if V k = j then 65535 else V k
theorem cnt_drop_un (V : Nat → Int) (j : Nat) : ∀ t, cnt (drop V j) 65535 t = cnt V 65535 t + hc V j t
  | 0 => by simp [cnt, hc]
  | t + 1 => by
    rw [cnt_succ, cnt_succ, cnt_drop_un V j t]
    unfold hc drop
    by_cases e : j = 65535
    · simp only [if_pos e]
      by_cases e' : V t = (j : Int)
      · rw [if_pos e', if_pos rfl, if_pos (by omega)]
      · rw [if_neg e']; omega
    · simp only [if_neg e, cnt_succ]
      by_cases e' : V t = (j : Int)
      · rw [if_pos e', if_pos rfl, if_neg (by omega)]
        simp only [if_pos e']; omega
      · rw [if_neg e']
        simp only [if_neg e']; omega
theorem hc_drop_j (V : Nat → Int) (j t : Nat) : hc (drop V j) j t = 0 := by
  unfold hc
  by_cases e : j = 65535
  · rw [if_pos e]
  · rw [if_neg e]
    induction t with
    | zero => rfl
    | succ t ih =>
      rw [cnt_succ, ih]
      have : ¬ drop V j t = (j : Int) := by
        unfold drop
        split <;> omega
      rw [if_neg this]
theorem hc_drop_i (V : Nat → Int) (i j t : Nat) (h : i ≠ j) : hc (drop V j) i t = hc V i t := by
  unfold hc
  by_cases e : i = 65535
  · rw [if_pos e, if_pos e]
  · rw [if_neg e, if_neg e]
    induction t with
    | zero => rfl
    | succ t ih =>
      rw [cnt_succ, cnt_succ, ih]
      congr 1
      have : (drop V j t = (i : Int)) ↔ (V t = (i : Int)) := by
        unfold drop
        split <;> omega
      simp only [this]

theorem valid_ins {n t a : Nat} {V : Nat → Int} {v : Int} (h : Valid n t V) (ha : a ≤ t) (hv : v = 65535 ∨ v < n) : Valid n (t + 1) (ins V a v) := fun i hi => by
  unfold ins
  split
  · exact h i (by omega)
  · split
    · exact hv
    · exact h (i - 1) (by omega)
theorem valid_drop {n t j : Nat} {V : Nat → Int} (h : Valid n t V) : Valid n t (drop V j) := fun i hi => by
  unfold drop
  split
  · exact .inl rfl
  · exact h i hi
end Go.Proofs.Qxb6621652a
