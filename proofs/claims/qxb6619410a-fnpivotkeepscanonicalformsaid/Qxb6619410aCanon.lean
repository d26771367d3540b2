import Derived.Test.Qxb6619410aRest
namespace Go.Proofs.Qxb6619410a
open Go.RowKit
attribute [local go_sem] run_add run_sub run_mul run_quo unary_negf run_store_float

/-- The canonical form, plainly: B the basis, n the width. -/
structure Canon (m n : Nat) (L : Nat → Nat) (F : Nat → Nat → Nat) (O : Nat → Nat) (B : Nat → Int) : Prop where
  lo : ∀ s, s < m → 0 ≤ B s
  hi : ∀ s, s < m → B s < n
  inj : ∀ s t, s < m → t < m → B s = B t → s = t
  len : ∀ s, s < m → L s = n
  ent : ∀ s t, s < m → t < m → feq (F s (B t).toNat) (if t = s then one else 0) = true
  obj : ∀ t, t < m → feq (O (B t).toNat) 0 = true

/-- The owner of column k after s basis entries. -/
def own (B : Nat → Int) : Nat → Nat → Int
  | 0, _ => -1
  | s + 1, k => if B s = (k : Int) then (s : Int) else own B s k

theorem own_pos (B : Nat → Int) : ∀ (s k : Nat), 0 ≤ own B s k → ∃ t, t < s ∧ B t = (k : Int) ∧ own B s k = t
  | 0, k, h => by simp [own] at h
  | s + 1, k, h => by
    unfold own at h ⊢
    by_cases e : B s = (k : Int)
    · rw [if_pos e]; exact ⟨s, by omega, e, rfl⟩
    · rw [if_neg e] at h ⊢
      obtain ⟨t, ht, h1, h2⟩ := own_pos B s k h
      exact ⟨t, by omega, h1, h2⟩

theorem own_some (B : Nat → Int) : ∀ (s k t : Nat), t < s → B t = (k : Int) → 0 ≤ own B s k
  | 0, k, t, h, _ => absurd h (Nat.not_lt_zero _)
  | s + 1, k, t, h, e => by
    unfold own
    by_cases e' : B s = (k : Int)
    · rw [if_pos e']; omega
    · rw [if_neg e']
      refine own_some B s k t ?_ e
      rcases Nat.lt_or_eq_of_le (Nat.le_of_lt_succ h) with h | h
      · exact h
      · subst h; exact absurd e e'

theorem own_at (B : Nat → Int) (m k t : Nat) (inj : ∀ s t, s < m → t < m → B s = B t → s = t) (ht : t < m) (e : B t = (k : Int)) : own B m k = t := by
  obtain ⟨u, hu, h1, h2⟩ := own_pos B m k (own_some B m k t ht e)
  rw [h2, inj u t hu ht (h1.trans e.symm)]

/-- The first s basis entries are distinct columns. -/
def Good (n : Nat) (B : Nat → Int) (s : Nat) : Prop := (∀ t, t < s → 0 ≤ B t ∧ B t < n) ∧ ∀ t u, t < s → u < s → B t = B u → t = u

theorem good_step {n s : Nat} {B : Nat → Int} (h : Good n B s) (h0 : 0 ≤ B s) (h1 : B s < n) (h2 : own B s (B s).toNat < 0) : Good n B (s + 1) := by
  have key : ∀ t, t < s → B t ≠ B s := fun t ht e => by
    have := own_some B s (B s).toNat t ht (by omega)
    omega
  refine ⟨fun t ht => ?_, fun t u ht hu e => ?_⟩
  · rcases Nat.lt_or_eq_of_le (Nat.le_of_lt_succ ht) with h' | h'
    · exact h.1 t h'
    · subst h'; exact ⟨h0, h1⟩
  · rcases Nat.lt_or_eq_of_le (Nat.le_of_lt_succ ht) with h' | h' <;> rcases Nat.lt_or_eq_of_le (Nat.le_of_lt_succ hu) with h'' | h''
    · exact h.2 t u h' h'' e
    · subst h''; exact absurd e (key t h')
    · subst h'; exact absurd e.symm (key u h'')
    · omega

theorem not_canon_dup {m n s : Nat} {L : Nat → Nat} {F : Nat → Nat → Nat} {O : Nat → Nat} {B : Nat → Int} (hs : s < m) (h0 : 0 ≤ B s) (h : 0 ≤ own B s (B s).toNat) : ¬ Canon m n L F O B := fun c => by
  obtain ⟨t, ht, h1, _⟩ := own_pos B s _ h
  have := c.inj t s (by omega) hs (by omega)
  omega

/-- Row s is as it should be in the first k columns. -/
def RowOk (m : Nat) (F : Nat → Nat → Nat) (B : Nat → Int) (s k : Nat) : Prop := ∀ j, j < k → 0 ≤ own B m j → feq (F s j) (if own B m j = s then one else 0) = true

theorem rowOk_skip {m s k : Nat} {F : Nat → Nat → Nat} {B : Nat → Int} (h : RowOk m F B s k) (hk : own B m k < 0) : RowOk m F B s (k + 1) := fun j hj h0 => by
  rcases Nat.lt_or_eq_of_le (Nat.le_of_lt_succ hj) with h' | h'
  · exact h j h' h0
  · subst h'; omega

theorem rowOk_one {m s k : Nat} {F : Nat → Nat → Nat} {B : Nat → Int} (h : RowOk m F B s k) (hk : own B m k = s) (e : feq (F s k) one = true) : RowOk m F B s (k + 1) := fun j hj h0 => by
  rcases Nat.lt_or_eq_of_le (Nat.le_of_lt_succ hj) with h' | h'
  · exact h j h' h0
  · subst h'; rw [if_pos hk]; exact e

theorem rowOk_zero {m s k : Nat} {F : Nat → Nat → Nat} {B : Nat → Int} (h : RowOk m F B s k) (hk : own B m k ≠ s) (e : feq (F s k) 0 = true) : RowOk m F B s (k + 1) := fun j hj h0 => by
  rcases Nat.lt_or_eq_of_le (Nat.le_of_lt_succ hj) with h' | h'
  · exact h j h' h0
  · subst h'; rw [if_neg hk]; exact e

theorem not_canon_ent {m n s k : Nat} {L : Nat → Nat} {F : Nat → Nat → Nat} {O : Nat → Nat} {B : Nat → Int} (hs : s < m) (hk : 0 ≤ own B m k) (h : feq (F s k) (if own B m k = s then one else 0) = false) : ¬ Canon m n L F O B := fun c => by
  obtain ⟨t, ht, h1, h2⟩ := own_pos B m k hk
  have e := c.ent s t hs ht
  have hk' : (B t).toNat = k := by omega
  rw [hk'] at e
  rw [h2] at h
  by_cases ets : t = s
  · subst ets; simp at h e; rw [h] at e; cases e
  · rw [if_neg (by omega)] at h; rw [if_neg ets] at e; rw [h] at e; cases e

theorem not_canon_obj {m n k : Nat} {L : Nat → Nat} {F : Nat → Nat → Nat} {O : Nat → Nat} {B : Nat → Int} (hk : 0 ≤ own B m k) (h : feq (O k) 0 = false) : ¬ Canon m n L F O B := fun c => by
  obtain ⟨t, ht, h1, _⟩ := own_pos B m k hk
  have e := c.obj t ht
  have hk' : (B t).toNat = k := by omega
  rw [hk', h] at e
  cases e

theorem canon_of {m n : Nat} {L : Nat → Nat} {F : Nat → Nat → Nat} {O : Nat → Nat} {B : Nat → Int} (g : Good n B m) (hl : ∀ s, s < m → L s = n) (hr : ∀ s, s < m → RowOk m F B s n)
    (ho : ∀ k, k < n → 0 ≤ own B m k → feq (O k) 0 = true) : Canon m n L F O B := by
  have at' : ∀ t, t < m → own B m (B t).toNat = t := fun t ht => own_at B m _ t g.2 ht (by have := g.1 t ht; omega)
  refine ⟨fun s hs => (g.1 s hs).1, fun s hs => (g.1 s hs).2, g.2, hl, fun s t hs ht => ?_, fun t ht => ?_⟩
  · have h1 := at' t ht
    have := hr s hs (B t).toNat (by have := g.1 t ht; omega) (by omega)
    rw [h1] at this
    by_cases e : t = s
    · subst e; simpa using this
    · rw [if_neg (by omega)] at this; rw [if_neg e]; exact this
  · exact ho (B t).toNat (by have := g.1 t ht; omega) (by have := at' t ht; omega)

/-- What zzCanonical answers. -/
def CanonE (m nb n : Nat) (L : Nat → Nat) (F : Nat → Nat → Nat) (O : Nat → Nat) (B : Nat → Int) (e : Ending) : Prop := ∃ b, e = .returned (.bool b) ∧ (b = true ↔ nb = m ∧ Canon m n L F O B)
theorem canon_no {m nb n : Nat} {L : Nat → Nat} {F : Nat → Nat → Nat} {O : Nat → Nat} {B : Nat → Int} (h : ¬ (nb = m ∧ Canon m n L F O B)) : CanonE m nb n L F O B (.returned (.bool false)) := ⟨false, rfl, ⟨fun e => by (cases e), fun e => absurd e h⟩⟩
theorem canon_no' {m n : Nat} {L : Nat → Nat} {F : Nat → Nat → Nat} {O : Nat → Nat} {B : Nat → Int} (h : ¬ Canon m n L F O B) : CanonE m m n L F O B (.returned (.bool false)) := canon_no (fun e => h e.2)
theorem canon_yes {m n : Nat} {L : Nat → Nat} {F : Nat → Nat → Nat} {O : Nat → Nat} {B : Nat → Int} (h : Canon m n L F O B) : CanonE m m n L F O B (.returned (.bool true)) := ⟨true, rfl, ⟨fun _ => ⟨rfl, h⟩, fun _ => rfl⟩⟩

/-- The owners' row while the basis is gone through. -/
structure Owned (w wr : World) (n s : Nat) (B : Nat → Int) : Prop where
  below : Below w.heap.size w wr
  row : wr.rowIs w.heap.size 3 n (fun k => .int .i64 (own B s k))
  good : Good n B s

theorem owned_start {w wr : World} {n : Nat} {B : Nat → Int} (h : Fill w wr 3 n n (fun _ => .int .i64 (-1)) (.int .i64 0)) : Owned w wr n 0 B :=
  ⟨h.below, fill_done h, fun _ ht => absurd ht (Nat.not_lt_zero _), fun _ _ ht => absurd ht (Nat.not_lt_zero _)⟩

theorem owned_step {w wr : World} {n s : Nat} {B : Nat → Int} (h : Owned w wr n s B) (h0 : 0 ≤ B s) (h1 : B s < n) (h2 : own B s (B s).toNat < 0) :
    Owned w (wr.setCell ⟨w.heap.size, (B s).toNat, none⟩ (.int .i64 s)) n (s + 1) B := by
  refine ⟨h.below.setCell (Nat.le_refl _) _, (h.row.set _ _).congr (fun j _ => ?_), good_step h.good h0 h1 h2⟩
  show (if j = (B s).toNat then Value.int .i64 s else .int .i64 (own B s j)) = .int .i64 (if B s = (j : Int) then (s : Int) else own B s j)
  by_cases e : j = (B s).toNat
  · rw [if_pos e, if_pos (by omega)]
  · rw [if_neg e, if_neg (by omega)]
end Go.Proofs.Qxb6619410a
