import Derived.Test.Qxb6621652aSplit
import Derived.ProofKit
import Derived.OpenShut
import Derived.ChangeOld
import Derived.Deep.Slices
namespace Go.Proofs.Qxb6621652a
open Go.ChangeShapes Go.WideShapes Go.ChangeAt Go.RowKit Go.Deep

theorem ownK : ownKnob Try.prog.godebug = none := by kernel_rfl
theorem laidOut : laidOutB Try.prog = true := by kernel_rfl

section
variable {H : Type} {enc : TypeId × Value → H} {P : Program} {w : World} {base : Nat} {spare : Nat → Bool} {held : Bool}

/-- A slice of one-cell elements that came in: its value, and its elements' cells, each with what its own reading gives. -/
theorem open_any {α : Type} [Inhabited α] (R : Value → α → Prop) {t e : TypeId} {fuel : Nat} {cs : List Value} {x : DataW H × List MemPlace} (ht : P.underlying t = some (.slice e)) (hc : P.cellsOf e = 1)
    (hel : ∀ (n : Nat) (v : Value) (y : DataW H × List MemPlace), DataW.trod enc P w base spare held n e [v] = some y → ∃ x, R v x) (h : DataW.trod enc P w base spare held fuel t cs = some x) :
    ∃ (ao : Option Addr) (len cap b off : Nat) (V : Nat → Value) (f : Nat → α), cs = [.slice ao len cap] ∧ len ≤ cap ∧ len ≤ maxLen ∧ (0 < len → ao = some ⟨b, off, none⟩) ∧ ∀ i, i < len → w.cell? ⟨b, off + i, none⟩ = some (V i) ∧ R (V i) (f i) := by
  rcases open_slice1 ht hc h with ⟨rfl, _⟩ | ⟨a, len, cap, m, n, V, D, Pl, rfl, hb, hl, hm, hmm, _, hx⟩
  · exact ⟨none, 0, 0, 0, 0, fun _ => .bool false, fun _ => default, rfl, Nat.le_refl _, Nat.zero_le _, fun h => absurd h (Nat.lt_irrefl _), fun i hi => absurd hi (Nat.not_lt_zero _)⟩
  · have hlm : len ≤ m := by rw [hmm]; split <;> omega
    obtain ⟨f, hf⟩ := choose_lt (α := α) (p := fun i x => R (V i) x) (n := len) (fun i hi => hel n (V i) _ (hx i (by omega)).2)
    obtain ⟨b, off, spot⟩ := a
    by_cases h0 : 0 < len
    · have hspot : spot = none := by simpa [Addr.add] using World.cell?_spot (hx 0 (by omega)).1
      subst hspot
      exact ⟨_, len, cap, b, off, V, f, rfl, hl, by omega, fun _ => rfl, fun i hi => ⟨by rw [← add_plain]; exact (hx i (by omega)).1, hf i hi⟩⟩
    · exact ⟨_, len, cap, b, off, V, f, rfl, hl, by omega, fun h => absurd h h0, fun i hi => absurd hi (by omega)⟩

theorem trod_float {e : TypeId} {n : Nat} {v : Value} {y : DataW H × List MemPlace} (he : P.underlying e = some (.float .f64)) (h : DataW.trod enc P w base spare held n e [v] = some y) : ∃ b, v = .float .f64 b := by
  cases n with
  | zero => simp [DataW.trod] at h
  | succ n =>
    cases v <;> simp [DataW.trod, he] at h
    obtain ⟨⟨rfl, _⟩, _⟩ := h
    exact ⟨_, rfl⟩

theorem trod_str {e : TypeId} {n : Nat} {v : Value} {y : DataW H × List MemPlace} (he : P.underlying e = some .string) (h : DataW.trod enc P w base spare held n e [v] = some y) : ∃ s, v = .string s := by
  cases n with
  | zero => simp [DataW.trod] at h
  | succ n =>
    cases v <;> simp [DataW.trod, he] at h
    exact ⟨_, rfl⟩

theorem bounds_u16' {n : Int} (h : (Lit.int .u16 n).wf = true) : 0 ≤ n ∧ n ≤ 65535 := by
  simp [Lit.wf, IntKind.min, IntKind.max, IntKind.signed, IntKind.bits] at h
  omega

theorem trod_u16 {e : TypeId} {n : Nat} {v : Value} {y : DataW H × List MemPlace} (he : P.underlying e = some (.int .u16)) (h : DataW.trod enc P w base spare held n e [v] = some y) : ∃ z, v = .int .u16 z ∧ 0 ≤ z ∧ z ≤ 65535 := by
  obtain ⟨z, hv, _, hw⟩ := DataW.trod_int he h
  exact ⟨z, by simpa using hv, bounds_u16' hw⟩
end

theorem ring_open {H : Type} {enc : TypeId × Value → H} {W : World} {a1 a2 a3 a4 : Option Addr} {l1 c1 l2 c2 l3 c3 l4 c4 : Nat} {d1 d2 d3 d4 : DataW H} {p1 p2 p3 p4 : List MemPlace}
    (h1 : DataW.Trod enc Try.prog W 0 (fun _ => true) true 22 (.slice a1 l1 c1) d1 p1) (h2 : DataW.Trod enc Try.prog W 0 (fun _ => true) true 22 (.slice a2 l2 c2) d2 p2)
    (h3 : DataW.Trod enc Try.prog W 0 (fun _ => true) true 23 (.slice a3 l3 c3) d3 p3) (h4 : DataW.Trod enc Try.prog W 0 (fun _ => true) true 24 (.slice a4 l4 c4) d4 p4) :
    ∃ (b1 o1 : Nat) (S1 : Nat → ByteArray) (b2 o2 : Nat) (S2 : Nat → ByteArray) (b3 o3 : Nat) (Wt : Nat → Nat) (b4 o4 : Nat) (V : Nat → Int), Ring W a1 b1 o1 l1 S1 a2 b2 o2 l2 S2 a3 b3 o3 l3 Wt a4 b4 o4 l4 c4 V := by
  obtain ⟨f1, h1⟩ := h1
  obtain ⟨f2, h2⟩ := h2
  obtain ⟨f3, h3⟩ := h3
  obtain ⟨f4, h4⟩ := h4
  obtain ⟨x1, m1, k1, b1, o1, V1, S1, e1, z1, y1, g1, s1⟩ := open_any (fun v s => v = .string s) Try.underlying22 (by kernel_rfl) (fun n v y h => trod_str Try.underlying9 h) h1
  obtain ⟨x2, m2, k2, b2, o2, V2, S2, e2, z2, y2, g2, s2⟩ := open_any (fun v s => v = .string s) Try.underlying22 (by kernel_rfl) (fun n v y h => trod_str Try.underlying9 h) h2
  obtain ⟨x3, m3, k3, b3, o3, V3, Wt, e3, z3, y3, g3, s3⟩ := open_any (fun v b => v = .float .f64 b) Try.underlying23 (by kernel_rfl) (fun n v y h => trod_float Try.underlying39 h) h3
  obtain ⟨x4, m4, k4, b4, o4, V4, V, e4, z4, y4, g4, s4⟩ := open_any (fun v (z : Int) => v = .int .u16 z ∧ 0 ≤ z ∧ z ≤ 65535) Try.underlying24 (by kernel_rfl) (fun n v y h => trod_u16 Try.underlying25 h) h4
  simp [Value.cells] at e1 e2 e3 e4
  obtain ⟨rfl, rfl, rfl⟩ := e1
  obtain ⟨rfl, rfl, rfl⟩ := e2
  obtain ⟨rfl, rfl, rfl⟩ := e3
  obtain ⟨rfl, rfl, rfl⟩ := e4
  exact ⟨b1, o1, S1, b2, o2, S2, b3, o3, Wt, b4, o4, V, ⟨g1, fun i hi => by rw [(s1 i hi).1, (s1 i hi).2]⟩, ⟨g2, fun i hi => by rw [(s2 i hi).1, (s2 i hi).2]⟩, g3, fun i hi => by rw [(s3 i hi).1, (s3 i hi).2],
    ⟨g4, fun i hi => by rw [(s4 i hi).1, (s4 i hi).2.1], fun i hi => (s4 i hi).2.2⟩, z4, y1, y2, y4⟩
end Go.Proofs.Qxb6621652a
