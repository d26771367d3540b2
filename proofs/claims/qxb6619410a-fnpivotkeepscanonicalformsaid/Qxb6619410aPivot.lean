import Derived.Test.Qxb6619410aElim
namespace Go.Proofs.Qxb6619410a
open Go.RowKit
attribute [local go_sem] run_add run_sub run_mul run_quo unary_negf run_store_float

def one : Nat := 4607182418800017408

/-- row[k] /= p, for the first k places. -/
structure Divs (w wr : World) (db n k p : Nat) (g g' : Nat → Nat) : Prop where
  keep : Keep (fun b => b = db) w wr
  row : wr.rowIs db 29 n (fun i => .float .f64 (g' i))
  done : ∀ i, i < k → FOp .quo (g i) p (g' i)
  rest : ∀ i, k ≤ i → g' i = g i

theorem divs_step {w wr : World} {db n k p : Nat} {g g' : Nat → Nat} (H : Divs w wr db n k p g g') (v q : Nat) (hv : FOp .quo (g' k) p v) :
    Divs w ((wr.drewN q).setCell ⟨db, k, none⟩ (.float .f64 v)) db n (k + 1) p g (fun i => if i = k then v else g' i) := by
  refine ⟨(H.keep.drewN q).setCell (p := ⟨db, k, none⟩) rfl _, ((rowIs_drewN H.row q).set k _).congr (fun j _ => ?_), fun i hi => ?_, fun i hi => ?_⟩
  · split <;> rfl
  · by_cases e : i = k
    · subst e; simp only [if_true]; rw [H.rest i (Nat.le_refl _)] at hv; exact hv
    · simp only [if_neg e]; exact H.done i (by omega)
  · rw [if_neg (by omega)]; exact H.rest i (by omega)

/-- The tableau's memory. -/
structure Tab (w : World) (RN OB BB m n : Nat) (F : Nat → Nat → Nat) (O : Nat → Nat) (B : Nat → Int) : Prop where
  top : w.rowIs RN 24 m (topv RN n m)
  row : ∀ j, j < m → w.rowIs (RN + 1 + j) 29 n (fun k => .float .f64 (F j k))
  obj : w.rowIs OB 29 n (fun k => .float .f64 (O k))
  bas : w.rowIs BB 3 m (fun k => .int .i64 (B k))

/-- What the pivot at row r, column j has made of the rows. -/
structure Pivoted (m n r j : Nat) (F F' : Nat → Nat → Nat) (O O' : Nat → Nat) : Prop where
  lead : F' r j = one
  quo : ∀ k, k < n → k ≠ j → FOp .quo (F r k) (F r j) (F' r k)
  rows : ∀ i, i < m → i ≠ r → Elim n j (F i) (F' r) (F' i)
  obj : Elim n j O (F' r) O'

/-- The second loop: the rows ahead of i are eliminated. -/
structure Rest (w wr : World) (RN m n r j i : Nat) (F F' : Nat → Nat → Nat) : Prop where
  keep : Keep (fun b => RN < b ∧ b ≤ RN + m) w wr
  row : ∀ t, t < m → wr.rowIs (RN + 1 + t) 29 n (fun k => .float .f64 (F' t k))
  same : F' r = F r
  done : ∀ t, t < i → t < m → t ≠ r → Elim n j (F t) (F r) (F' t)
  rest : ∀ t, i ≤ t → F' t = F t

theorem rest_skip {w wr : World} {RN m n r j : Nat} {F F' : Nat → Nat → Nat} (H : Rest w wr RN m n r j r F F') : Rest w wr RN m n r j (r + 1) F F' :=
  ⟨H.keep, H.row, H.same, fun t h1 h2 h3 => H.done t (by omega) h2 h3, fun t h => H.rest t (by omega)⟩

theorem rest_step {w wr wx : World} {RN m n r j i : Nat} {F F' : Nat → Nat → Nat} {g' : Nat → Nat} (H : Rest w wr RN m n r j i F F') (hi : i < m) (hr : i ≠ r)
    (hE : Elim n j (F' i) (F' r) g') (hk : Keep (fun b => b = RN + 1 + i) wr wx) (hrow : wx.rowIs (RN + 1 + i) 29 n (fun k => .float .f64 (g' k))) :
    Rest w wx RN m n r j (i + 1) F (fun t => if t = i then g' else F' t) := by
  refine ⟨H.keep.trans (hk.mono (fun b e => ?_)), fun t ht => ?_, ?_, fun t h1 h2 h3 => ?_, fun t h => ?_⟩
  · subst e; exact ⟨by omega, by omega⟩
  · by_cases e : t = i
    · subst e; simp only [if_true]; exact hrow
    · simp only [if_neg e]; exact hk.row (H.row t ht) (by show ¬ (RN + 1 + t = RN + 1 + i); omega)
  · rw [if_neg (by omega)]; exact H.same
  · by_cases e : t = i
    · subst e; simp only [if_true]; rw [← H.same]; rw [H.rest t (Nat.le_refl _)] at hE; exact hE
    · simp only [if_neg e]; exact H.done t (by omega) h2 h3
  · rw [if_neg (by omega)]; exact H.rest t (by omega)

/-- The pivot row divided, and its lead set to 1. -/
theorem lead_step {w wr : World} {RN OB BB m n r j : Nat} {F : Nat → Nat → Nat} {O : Nat → Nat} {B : Nat → Int} {g' : Nat → Nat} (hT : Tab w RN OB BB m n F O B) (hr : r < m) (hD : Divs w wr (RN + 1 + r) n n (F r j) (F r) g') :
    ∃ F1 : Nat → Nat → Nat, F1 r j = one ∧ (∀ k, k < n → k ≠ j → FOp .quo (F r k) (F r j) (F1 r k)) ∧ (∀ t, t ≠ r → F1 t = F t) ∧ Keep (fun b => b = RN + 1 + r) w (wr.setCell ⟨RN + 1 + r, j, none⟩ (.float .f64 4607182418800017408)) ∧
      ∀ t, t < m → (wr.setCell ⟨RN + 1 + r, j, none⟩ (.float .f64 4607182418800017408)).rowIs (RN + 1 + t) 29 n (fun k => .float .f64 (F1 t k)) := by
  refine ⟨fun t => if t = r then (fun k => if k = j then one else g' k) else F t, by simp, fun k hk hkj => ?_, fun t ht => by simp [ht], hD.keep.setCell (p := ⟨RN + 1 + r, j, none⟩) rfl _, fun t ht => ?_⟩
  · simp only [if_true, if_neg hkj]; exact hD.done k hk
  · by_cases e : t = r
    · subst e
      refine (hD.row.set j _).congr (fun i _ => ?_)
      by_cases e : i = j <;> simp [e, one]
    · simp only [if_neg e]
      exact (hD.keep.row (hT.row t ht) (by show ¬ (RN + 1 + t = RN + 1 + r); omega)).setOther (by show RN + 1 + t ≠ RN + 1 + r; omega) _

set_option maxHeartbeats 1000000 in
theorem pivot_any (tb RN OB BB m n r j : Nat) (F : Nat → Nat → Nat) (O : Nat → Nat) (B : Nat → Int) (w : World) (hn : n ≤ 1048576) (hm : m ≤ 1048576) (hr : r < m) (hj : j < n)
    (o1 : RN + m < OB) (o2 : OB < BB) (o3 : BB < tb) (hT : Tab w RN OB BB m n F O B)
    (c0 : w.cell? ⟨tb, 0, none⟩ = some (.slice (some ⟨RN, 0, none⟩) m m)) (c2 : w.cell? ⟨tb, 2, none⟩ = some (.slice (some ⟨OB, 0, none⟩) n n)) (c3 : w.cell? ⟨tb, 3, none⟩ = some (.slice (some ⟨BB, 0, none⟩) m m)) :
    Calls Try.prog 18 #[.pointer (some ⟨tb, 0, none⟩), .int .i64 r, .int .i64 j] w fun e w' => e = .returned (.tuple #[]) ∧ ∃ F' O', Pivoted m n r j F F' O O' ∧
      Keep (fun b => RN < b ∧ b ≤ BB) w w' ∧ Tab w' RN OB BB m n F' O' (fun k => if k = r then (j : Int) else B k) := by
  have hrz : (r : Int) < (m : Int) := by omega
  have hjz : (j : Int) < (n : Int) := by omega
  have t0 : w.cell? ⟨RN, r, none⟩ = some (.slice (some ⟨RN + 1 + r, 0, none⟩) n n) := by simpa [topv, hr] using hT.top.cell hr
  have t1 : w.cell? ⟨RN + 1 + r, j, none⟩ = some (.float .f64 (F r j)) := (hT.row r hr).cell hj
  go_enter Try.func18, Try.ntmps18
  go_wp2
  go_loopg [24] n (fun gh i wr => ∃ k : Nat, k ≤ n ∧ gh = n - k ∧ i = .int .i64 k ∧ ∃ g', Divs w wr (RN + 1 + r) n k (F r j) (F r) g')
  case atStart => exact ⟨0, Nat.zero_le _, rfl, rfl, F r, Keep.refl _ _, hT.row r hr, fun i hi => absurd hi (Nat.not_lt_zero _), fun _ _ => rfl⟩
  case round =>
    obtain ⟨k, hk, rfl, rfl, g', hD⟩ := hrel
    by_cases hlt : k < n
    · have hlz : (k : Int) < (n : Int) := by omega
      have g1 : wr.cell? ⟨RN + 1 + r, k, none⟩ = some (.float .f64 (g' k)) := hD.row.cell hlt
      have g2 : wr.frozen? ⟨RN + 1 + r, k, none⟩ = false := hD.row.frozen k
      clear t0 t1
      go_wp2
      go_roundg (n - (k + 1))
      case measure => omega
      case rel =>
        go_light
        exact ⟨k + 1, by omega, rfl, by simp, _, divs_step hD _ _ (fres_is _ _ _ _)⟩
    · obtain rfl : n = k := by omega
      have g1 : wr.cell? ⟨RN + 1 + r, j, none⟩ = some (.float .f64 (g' j)) := hD.row.cell hj
      have g2 : wr.frozen? ⟨RN + 1 + r, j, none⟩ = false := hD.row.frozen j
      have d0 : wr.cell? ⟨tb, 0, none⟩ = some (.slice (some ⟨RN, 0, none⟩) m m) := (hD.keep.cell (p := ⟨tb, 0, none⟩) (by show ¬ tb = RN + 1 + r; omega)).trans c0
      go_wp2
      have hW := lead_step hT hr hD
      clear g1 g2 d0 hD t0 t1
      obtain ⟨W1, hW1⟩ : ∃ W1, W1 = wr.setCell ⟨RN + 1 + r, j, none⟩ (.float .f64 4607182418800017408) := ⟨_, rfl⟩
      have hW1' : (wr.setCell ⟨RN + 1 + r, j, none⟩ (.float .f64 4607182418800017408)) = W1 := hW1.symm
      rw [hW1'] at hW ⊢
      clear hW1 hW1'
      obtain ⟨F1, e1, e2, e3, hk1, hrow1⟩ := hW
      go_loopg [43] m (fun gh i wx => ∃ k : Nat, k ≤ m ∧ gh = m - k ∧ i = .int .i64 k ∧ ∃ F', Rest W1 wx RN m n r j k F1 F')
      case atStart => exact ⟨0, Nat.zero_le _, rfl, rfl, F1, Keep.refl _ _, hrow1, rfl, fun t ht => absurd ht (Nat.not_lt_zero _), fun _ _ => rfl⟩
      case round =>
        obtain ⟨k, hk, rfl, rfl, F', hR⟩ := hrel
        by_cases hlt : k < m
        · have hlz : (k : Int) < (m : Int) := by omega
          have q0 : wr.cell? ⟨RN, k, none⟩ = some (.slice (some ⟨RN + 1 + k, 0, none⟩) n n) := by
            have := (hR.keep.row (hk1.row hT.top (by show ¬ RN = RN + 1 + r; omega)) (by show ¬ (RN < RN ∧ RN ≤ RN + m); omega)).cell hlt
            simpa [topv, hlt] using this
          by_cases hkr : k = r
          · have hkr' : ((k : Int) != (r : Int)) = false := by simp; omega
            have HK : Hid (k = r) := hkr
            clear hkr
            go_wp2
            go_roundg (m - (k + 1))
            case measure => omega
            case rel =>
              go_light
              refine ⟨k + 1, by omega, rfl, by simp, F', ?_⟩
              obtain rfl := HK.out
              exact rest_skip hR
          · have hkr' : ((k : Int) != (r : Int)) = true := by simp; omega
            have cE := elim_any (RN + 1 + k) (RN + 1 + r) n j (F' k) (F' r) wr hn (by omega) hj (hR.row k hlt) (hR.row r hr)
            go_wp2_with (go_at_call 19; refine cE.mono ?_; rintro e wx ⟨rfl, g2, hE, hK, hX⟩)
            go_roundg (m - (k + 1))
            case measure => omega
            case rel =>
              go_light
              exact ⟨k + 1, by omega, rfl, by simp, _, rest_step hR hlt hkr hE hK hX⟩
        · obtain rfl : m = k := by omega
          have kT : ∀ b, ¬ (RN < b ∧ b ≤ RN + m) → wr.heap[b]? = w.heap[b]? := fun b hb => (hR.keep.block b hb).trans (hk1.block b (fun e => hb (by subst e; exact ⟨by omega, by omega⟩)))
          have d2 : wr.cell? ⟨tb, 2, none⟩ = some (.slice (some ⟨OB, 0, none⟩) n n) := (World.cell?_of_block (w := w) (kT tb (by omega))).trans c2
          have d3 : wr.cell? ⟨tb, 3, none⟩ = some (.slice (some ⟨BB, 0, none⟩) m m) := (World.cell?_of_block (w := w) (kT tb (by omega))).trans c3
          have hO := hT.obj.of_block (kT OB (by omega))
          have hB := hT.bas.of_block (kT BB (by omega))
          have cE := elim_any OB (RN + 1 + r) n j O (F' r) wr hn (by omega) hj hO (hR.row r hr)
          go_wp2_with (go_at_call 19; refine cE.mono ?_; rintro e wx ⟨rfl, O', hE, hK, hX⟩; have x3 := (hK.cell (p := ⟨tb, 3, none⟩) (by show ¬ tb = OB; omega)).trans d3; have x4 := (hK.row hB (by show ¬ BB = OB; omega)).cell hr; have x5 := (hK.row hB (by show ¬ BB = OB; omega)).frozen r)
          go_end0
          refine ⟨rfl, F', O', ⟨by rw [hR.same]; exact e1, by rw [hR.same]; exact e2, fun i hi hir => ?_, hE⟩, ?_, ?_⟩
          · rw [hR.same, ← e3 i hir]; exact hR.done i hi hi hir
          · refine (((hk1.mono (fun b e => ?_)).trans (hR.keep.mono (fun b e => ?_))).trans (hK.mono (fun b e => ?_))).setCell (p := ⟨BB, r, none⟩) ?_ _
            · subst e; exact ⟨by omega, by omega⟩
            · exact ⟨e.1, by omega⟩
            · subst e; exact ⟨by omega, by omega⟩
            · exact ⟨by show RN < BB; omega, Nat.le_refl _⟩
          · refine ⟨(hK.row (hT.top.of_block (kT RN (by omega))) (by show ¬ RN = OB; omega)).setOther (by show RN ≠ BB; omega) _,
              fun t ht => (hK.row (hR.row t ht) (by show ¬ RN + 1 + t = OB; omega)).setOther (by show RN + 1 + t ≠ BB; omega) _,
              hX.setOther (by show OB ≠ BB; omega) _, ((hK.row hB (by show ¬ BB = OB; omega)).set r _).congr (fun i _ => by by_cases e : i = r <;> simp [e])⟩
end Go.Proofs.Qxb6619410a
