/-
  FnPivotKeepsCanonicalForm: the row, proved out of the walk of Qxb6619410aMain. The frame is the guide's template at this function's number and types.
-/
import Derived.Test.Qxb6619410aMain
import Derived.ProofKit
import Derived.OpenShut
import Derived.ChangeOld
import Derived.Below
import Derived.Deep.Slices
namespace Go.Proofs.Qxb6619410a.fnPivotKeepsCanonicalForm
open Go.ChangeShapes Go.WideShapes Go.ChangeAt Go.RowKit Go.Deep
set_option linter.unusedVariables false

theorem own : ownKnob Try.prog.godebug = none := by kernel_rfl
theorem laidOut : laidOutB Try.prog = true := by kernel_rfl

section
variable {H : Type} {enc : TypeId × Value → H} {P : Program} {w : World} {base : Nat} {spare : Nat → Bool} {held : Bool}

/-- A slice of one-cell elements that came in: its value, and its elements' cells, each with what its own reading gives. -/
theorem open_any {α : Type} [Inhabited α] (R : Value → α → Prop) {t e : TypeId} {fuel : Nat} {cs : List Value} {x : DataW H × List MemPlace} (ht : P.underlying t = some (.slice e)) (hc : P.cellsOf e = 1)
    (hel : ∀ (n : Nat) (v : Value) (y : DataW H × List MemPlace), DataW.trod enc P w base spare held n e [v] = some y → ∃ x, R v x) (h : DataW.trod enc P w base spare held fuel t cs = some x) :
    ∃ (ao : Option Addr) (len cap b off : Nat) (V : Nat → Value) (f : Nat → α), cs = [.slice ao len cap] ∧ len ≤ maxLen ∧ (0 < len → ao = some ⟨b, off, none⟩) ∧ ∀ i, i < len → w.cell? ⟨b, off + i, none⟩ = some (V i) ∧ R (V i) (f i) := by
  rcases open_slice1 ht hc h with ⟨rfl, _⟩ | ⟨a, len, cap, m, n, V, D, Pl, rfl, hb, hl, hm, hmm, _, hx⟩
  · exact ⟨none, 0, 0, 0, 0, fun _ => .bool false, fun _ => default, rfl, Nat.zero_le _, fun h => absurd h (Nat.lt_irrefl _), fun i hi => absurd hi (Nat.not_lt_zero _)⟩
  · have hlm : len ≤ m := by rw [hmm]; split <;> omega
    obtain ⟨f, hf⟩ := choose_lt (α := α) (p := fun i x => R (V i) x) (n := len) (fun i hi => hel n (V i) _ (hx i (by omega)).2)
    obtain ⟨b, off, spot⟩ := a
    by_cases h0 : 0 < len
    · have hspot : spot = none := by simpa [Addr.add] using World.cell?_spot (hx 0 (by omega)).1
      subst hspot
      exact ⟨_, len, cap, b, off, V, f, rfl, by omega, fun _ => rfl, fun i hi => ⟨by rw [← add_plain]; exact (hx i (by omega)).1, hf i hi⟩⟩
    · exact ⟨_, len, cap, b, off, V, f, rfl, by omega, fun h => absurd h h0, fun i hi => absurd hi (by omega)⟩

theorem trod_float {e : TypeId} {n : Nat} {v : Value} {y : DataW H × List MemPlace} (he : P.underlying e = some (.float .f64)) (h : DataW.trod enc P w base spare held n e [v] = some y) : ∃ b, v = .float .f64 b := by
  cases n with
  | zero => simp [DataW.trod] at h
  | succ n =>
    cases v <;> simp [DataW.trod, he] at h
    obtain ⟨⟨rfl, _⟩, _⟩ := h
    exact ⟨_, rfl⟩

theorem trod_int' {e : TypeId} {n : Nat} {v : Value} {y : DataW H × List MemPlace} (he : P.underlying e = some (.int .i64)) (h : DataW.trod enc P w base spare held n e [v] = some y) : ∃ z, v = .int .i64 z := by
  cases n with
  | zero => simp [DataW.trod] at h
  | succ n =>
    cases v <;> simp [DataW.trod, he] at h
    obtain ⟨⟨rfl, _⟩, _⟩ := h
    exact ⟨_, rfl⟩
end

/-- One row, as it lies. -/
def IsRow (w : World) (v : Value) (x : Option Addr × Nat × Nat × Nat × Nat × (Nat → Nat)) : Prop :=
  v = .slice x.1 x.2.1 x.2.2.1 ∧ ∀ k, k < x.2.1 → x.1 = some ⟨x.2.2.2.1, x.2.2.2.2.1, none⟩ ∧ w.cell? ⟨x.2.2.2.1, x.2.2.2.2.1 + k, none⟩ = some (.float .f64 (x.2.2.2.2.2 k))

set_option maxRecDepth 100000 in
theorem lifted (os : Os) (started : os.Started) (H : Type) (enc : TypeId × Value → H) :
    ReturnsInHanded {} Try.checked os 4 .any (Rows.fnPivotKeepsCanonicalFormSpec.pre6 enc Try.prog Try.f4 Rows.fnPivotKeepsCanonicalFormRow.domain false) (Rows.fnPivotKeepsCanonicalFormSpec.post enc Try.prog Try.f4 false true false false) := by
  refine returnsInHanded_of_change (C := Try.checked) own started (by kernel_rfl) Try.func4
    (ChangeSpec.witness6 (enc := enc) (C := Try.checked) false ⟨#[], #[.slice none 0 0, .slice none 0 0, .slice none 0 0, .int .i64 0, .int .i64 0], []⟩ 8 (by kernel_rfl) (by kernel_rfl) (by kernel_rfl) (by kernel_rfl)) ?_
  intro W base args ds gs before hval0 hW hcnd _
  have hval : ∀ (j : Nat) t v, Try.f4.params[j]? = some t → args[j]? = some v → Value.okWide Try.prog W .any base t v := hval0
  have hW' := hW
  obtain ⟨p, q, hA0, hV, rfl, hfz, hnd⟩ := hW
  have hA : DataW.TrodAll enc Try.prog W 0 (fun _ => true) true Try.f4.params.toList args.toList ds p := hA0
  rw [Try.params4] at hA hval
  obtain ⟨v0, vs0, d0, ds0, p0, q0, hargs, rfl, rfl, h0, r0⟩ := trodAll_cons hA
  obtain ⟨v1, vs1, d1, ds1, p1, q1, rfl, rfl, rfl, h1, r1⟩ := trodAll_cons r0
  obtain ⟨v2, vs2, d2, ds2, p2, q2, rfl, rfl, rfl, h2, r2⟩ := trodAll_cons r1
  obtain ⟨v3, vs3, d3, ds3, p3, q3, rfl, rfl, rfl, h3, r3⟩ := trodAll_cons r2
  obtain ⟨v4, vs4, d4, ds4, p4, q4, rfl, rfl, rfl, h4, r4⟩ := trodAll_cons r3
  obtain ⟨rfl, rfl, rfl⟩ := trodAll_nil r4
  obtain rfl : args = #[v0, v1, v2, v3, v4] := by cases args; simp_all
  obtain ⟨rfl, rfl⟩ := trodVars_none hV
  obtain ⟨a0, len0, cap0, rfl⟩ := okWide_slice Try.underlying25 (hval 0 25 v0 rfl rfl)
  have k0 := h0
  have lt0 : ∀ x ∈ p0, x.block < W.heap.size := by obtain ⟨m, hm⟩ := k0; exact DataW.trod_lt m _ _ _ hm
  obtain ⟨a1, len1, cap1, rfl⟩ := okWide_slice Try.underlying24 (hval 1 24 v1 rfl rfl)
  have k1 := h1
  have lt1 : ∀ x ∈ p1, x.block < W.heap.size := by obtain ⟨m, hm⟩ := k1; exact DataW.trod_lt m _ _ _ hm
  obtain ⟨a2, len2, cap2, rfl⟩ := okWide_slice Try.underlying22 (hval 2 22 v2 rfl rfl)
  have k2 := h2
  have lt2 : ∀ x ∈ p2, x.block < W.heap.size := by obtain ⟨m, hm⟩ := k2; exact DataW.trod_lt m _ _ _ hm
  obtain ⟨r, rfl, rfl, rfl, w3⟩ := open_int Try.underlying3 (hval 3 3 v3 rfl rfl) h3
  obtain ⟨j, rfl, rfl, rfl, w4⟩ := open_int Try.underlying3 (hval 4 3 v4 rfl rfl) h4
  obtain ⟨m, gb, go, A, L, C, RB, RO, F, n, ob, oo, O, nb, bb, bo, B, e0, e1, e2, hm, hn, hnb, HA⟩ : ∃ (m gb go : Nat) (A : Nat → Option Addr) (L C RB RO : Nat → Nat) (F : Nat → Nat → Nat) (n ob oo : Nat) (O : Nat → Nat) (nb bb bo : Nat) (B : Nat → Int),
      len0 = m ∧ len1 = n ∧ len2 = nb ∧ m ≤ maxLen ∧ n ≤ maxLen ∧ nb ≤ maxLen ∧ Args W a0 gb go m A L C RB RO F a1 ob oo n O a2 bb bo nb B := by
    obtain ⟨f0, hf0⟩ := h0
    obtain ⟨f1, hf1⟩ := h1
    obtain ⟨f2, hf2⟩ := h2
    obtain ⟨x0, l0, c0, gb, go, V0, y0, e0, m0, g0, s0⟩ := open_any (IsRow W) Try.underlying25 (by kernel_rfl) (fun n v y h => by
      obtain ⟨xa, la, ca, b, off, V, f, ea, _, ga, sa⟩ := open_any (fun v b => v = .float .f64 b) Try.underlying24 (by kernel_rfl) (fun n v y h => trod_float Try.underlying29 h) h
      exact ⟨(xa, la, ca, b, off, f), by simpa using ea, fun k hk => ⟨ga (by have : k < la := hk; omega), by rw [(sa k hk).1, (sa k hk).2]⟩⟩) hf0
    obtain ⟨x1, l1, c1, ob, oo, V1, y1, e1, m1, g1, s1⟩ := open_any (fun v b => v = .float .f64 b) Try.underlying24 (by kernel_rfl) (fun n v y h => trod_float Try.underlying29 h) hf1
    obtain ⟨x2, l2, c2, bb, bo, V2, y2, e2, m2, g2, s2⟩ := open_any (fun v b => v = .int .i64 b) Try.underlying22 (by kernel_rfl) (fun n v y h => trod_int' Try.underlying3 h) hf2
    simp [Value.cells] at e0 e1 e2
    obtain ⟨rfl, rfl, rfl⟩ := e0
    obtain ⟨rfl, rfl, rfl⟩ := e1
    obtain ⟨rfl, rfl, rfl⟩ := e2
    exact ⟨len0, gb, go, fun s => (y0 s).1, fun s => (y0 s).2.1, fun s => (y0 s).2.2.1, fun s => (y0 s).2.2.2.1, fun s => (y0 s).2.2.2.2.1, fun s => (y0 s).2.2.2.2.2, len1, ob, oo, y1, len2, bb, bo, y2, rfl, rfl, rfl, m0, m1, m2,
      g0, fun s hs => by rw [(s0 s hs).1, (s0 s hs).2.1], fun s hs k hk => (s0 s hs).2.2 k hk, g1, fun k hk => by rw [(s1 k hk).1, (s1 k hk).2], g2, fun k hk => by rw [(s2 k hk).1, (s2 k hk).2]⟩
  subst e0 e1 e2
  clear hA0 hval0
  refine (walk a0 gb go len0 cap0 A L C RB RO F a1 ob oo len1 cap1 O a2 bb bo len2 cap2 B r j W hm hn hnb HA).mono fun e W' ⟨he, bel⟩ => ?_
  subst he
  exact ⟨_, rfl, _, _, _, [], _, [], hW', trodAll_mk1 (shut_bool Try.underlying4 _), (trodAll_cons_mk (Below.trod laidOut (by kernel_rfl) (of_decide_eq_true (by kernel_rfl)) k0 bel lt0) (trodAll_cons_mk (Below.trod laidOut (by kernel_rfl) (of_decide_eq_true (by kernel_rfl)) k1 bel lt1) (trodAll_cons_mk (Below.trod laidOut (by kernel_rfl) (of_decide_eq_true (by kernel_rfl)) k2 bel lt2) (trodAll_cons_mk (shut_int Try.underlying3 w3) (trodAll_cons_mk (shut_int Try.underlying3 w4) trodAll_mk0))))), rfl, bel.frame _, fun h => by cases h⟩

theorem over : Rows.fnPivotKeepsCanonicalFormRow.holds Try.pinned (OpenSpec.ofChange Rows.fnPivotKeepsCanonicalFormSpec) :=
  OpenClaim.holds_of_wide 4 Try.f4 rfl rfl rfl rfl rfl rfl rfl ⟨rfl, rfl, rfl, rfl, rfl⟩ rfl rfl rfl rfl rfl (by kernel_rfl) Try.func4 (by kernel_rfl)
    (of_decide_eq_true (by kernel_rfl)) (by unfold Func.isWrapper; first | (rw [if_pos (by decide +kernel)]; kernel_rfl) | (rw [if_neg (by decide +kernel)]; exact ⟨rfl, rfl⟩))
    (fun os started H enc _ => lifted os started H enc)

/-- THE STATEMENT -/
theorem proved : Rows.FnPivotKeepsCanonicalFormSaid := over
#print axioms proved
end Go.Proofs.Qxb6619410a.fnPivotKeepsCanonicalForm
