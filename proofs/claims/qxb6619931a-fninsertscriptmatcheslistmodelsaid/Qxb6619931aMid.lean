import Derived.Test.Qxb6619931aCopy
namespace Go.Proofs.Qxb6619931a
open Go.RowKit

/-- Two new rows, filled up to k. -/
structure Fill2 (wb wr : World) (n k : Nat) (I L : Nat → Int) : Prop where
  below : Below wb.heap.size wb wr
  size : wr.heap.size = wb.heap.size + 2
  r1 : wr.rowIs wb.heap.size 3 n (fun x => if x < k then .int .i64 (I x) else .int .i64 0)
  r2 : wr.rowIs (wb.heap.size + 1) 3 n (fun x => if x < k then .int .i64 (L x) else .int .i64 0)

theorem fill_start (wb : World) (n : Nat) (I L : Nat → Int) : Fill2 wb ((wb.alloc (Zeros n)).alloc (Zeros n)) n 0 I L := by
  have h2 := zeros_row (wb.alloc (Zeros n)) n
  rw [Go.Deep.nblk_alloc] at h2
  exact ⟨((Below.refl _ _).alloc (Nat.le_refl _) _).alloc (by simp) _, by simp, ((zeros_row wb n).alloc _).congr (fun x _ => by rw [if_neg (Nat.not_lt_zero _)]), h2.congr (fun x _ => by rw [if_neg (Nat.not_lt_zero _)])⟩

theorem fill_step {wb wr : World} {n k : Nat} {I L : Nat → Int} (h : Fill2 wb wr n k I L) : Fill2 wb ((wr.setCell ⟨wb.heap.size, k, none⟩ (.int .i64 (I k))).setCell ⟨wb.heap.size + 1, k, none⟩ (.int .i64 (L k))) n (k + 1) I L := by
  have e : ∀ (V : Nat → Int) x, (if x = k then (Value.int .i64 (V k)) else if x < k then .int .i64 (V x) else .int .i64 0) = if x < k + 1 then .int .i64 (V x) else .int .i64 0 := fun V x => by
    by_cases h1 : x = k
    · subst h1; rw [if_pos rfl, if_pos (by omega)]
    · rw [if_neg h1]
      by_cases h2 : x < k
      · rw [if_pos h2, if_pos (by omega)]
      · rw [if_neg h2, if_neg (by omega)]
  refine ⟨(h.below.setCell (p := ⟨wb.heap.size, k, none⟩) (Nat.le_refl _) _).setCell (p := ⟨wb.heap.size + 1, k, none⟩) (by simp) _, by simpa [World.setCell] using h.size, ?_, ?_⟩
  · exact ((h.r1.set k (.int .i64 (I k))).setOther (a := ⟨wb.heap.size + 1, k, none⟩) (by simp) _).congr (fun x _ => e I x)
  · exact ((h.r2.setOther (a := ⟨wb.heap.size, k, none⟩) (by simp) _).set k (.int .i64 (L k))).congr (fun x _ => e L x)

/-- The scanner (n' tokens) and the model's two rows (n numbers), side by side. -/
structure Mid0 (wb w2 : World) (sb : Nat) (fl : Int) (dc : Bool) (tk : Int) (QB qc n' SB sc : Nat) (I' L' : Nat → Int) (n MB LB : Nat) (I L : Nat → Int) : Prop where
  scan : Scan w2 sb fl tk dc QB qc n' SB sc I' L'
  below : Below wb.heap.size wb w2
  r1 : w2.rowIs MB 3 n (fun x => .int .i64 (I x))
  r2 : w2.rowIs LB 3 n (fun x => .int .i64 (L x))
  f0 : wb.heap.size ≤ sb ∧ wb.heap.size ≤ QB ∧ wb.heap.size ≤ SB
  f1 : MB ≠ sb ∧ MB ≠ QB ∧ MB ≠ SB
  f2 : LB ≠ sb ∧ LB ≠ QB ∧ LB ≠ SB

def Mid (wb w2 : World) (sb : Nat) (dc : Bool) (tk : Int) (n' : Nat) (I' L' : Nat → Int) (n MB LB : Nat) (I L : Nat → Int) : Prop :=
  ∃ fl QB qc SB sc, Mid0 wb w2 sb fl dc tk QB qc n' SB sc I' L' n MB LB I L

theorem Mid.drew {wb w2 : World} {sb : Nat} {dc : Bool} {tk : Int} {n' : Nat} {I' L' : Nat → Int} {n MB LB : Nat} {I L : Nat → Int} (h : Mid wb w2 sb dc tk n' I' L' n MB LB I L) : Mid wb w2.drew sb dc tk n' I' L' n MB LB I L := by
  obtain ⟨fl, QB, qc, SB, sc, h⟩ := h
  exact ⟨fl, QB, qc, SB, sc, h.scan.drew, h.below.drew, h.r1.drew, h.r2.drew, h.f0, h.f1, h.f2⟩

theorem Mid0.drewN {wb w2 : World} {sb : Nat} {fl : Int} {dc : Bool} {tk : Int} {QB qc n' SB sc : Nat} {I' L' : Nat → Int} {n MB LB : Nat} {I L : Nat → Int} (h : Mid0 wb w2 sb fl dc tk QB qc n' SB sc I' L' n MB LB I L) (q : Nat) : Mid0 wb (w2.drewN q) sb fl dc tk QB qc n' SB sc I' L' n MB LB I L :=
  ⟨h.scan.drewN q, ⟨h.below.os, h.below.tape, h.below.output, h.below.size, h.below.block⟩, h.r1, h.r2, h.f0, h.f1, h.f2⟩

/-- ZZSetFlowLevel, then ZZInsert. -/
theorem mid_step {wb wr w1 w2 : World} {sb : Nat} {fl fl' tk : Int} {dc : Bool} {QB qc n SB sc MB LB n' : Nat} {I L I' L' : Nat → Int} (h : Mid0 wb wr sb fl dc tk QB qc n SB sc I L n MB LB I L) (hw : Kept (fun k => k = sb) wr w1)
    (hI : Insd w1 w2 sb fl' tk dc QB n' SB I' L') : Mid wb w2 sb dc tk n' I' L' n MB LB I L := by
  obtain ⟨QB', qc', SB', sc', hS, hK, hq, hs⟩ := hI
  obtain ⟨f01, f02, f03⟩ := h.f0
  obtain ⟨f11, f12, f13⟩ := h.f1
  obtain ⟨f21, f22, f23⟩ := h.f2
  have hz := h.below.size
  have hz1 := hw.size
  have l1 := h.r1.lt
  have l2 := h.r2.lt
  have k2 : Kept (fun k => k = sb ∨ k = QB ∨ k = SB) wr w2 := (hw.mono (fun i e => .inl e)).trans hK
  exact ⟨fl', QB', qc', SB', sc', hS, h.below.trans ((k2.below hz (fun i e => by omega))), k2.row h.r1 (by omega), k2.row h.r2 (by omega), ⟨f01, by omega, by omega⟩, ⟨f11, by omega, by omega⟩, ⟨f21, by omega, by omega⟩⟩

theorem mid_start {wb wr w2 : World} {n sp sl : Nat} {tk : Int} {dc : Bool} {I L : Nat → Int} (h : Fill2 wb wr n n I L) (hb : Below wr.heap.size wr w2) (hS : Scan w2 (wr.heap.size + 2) 0 tk dc wr.heap.size (n + sp) n (wr.heap.size + 1) sl I L) :
    Mid wb w2 (wr.heap.size + 2) dc tk n I L n wb.heap.size (wb.heap.size + 1) I L := by
  have hz := h.size
  refine ⟨0, _, _, _, _, hS, h.below.trans (hb.mono (by omega)), ?_, ?_, by omega, by omega, by omega⟩
  · exact ((Kept.ofBelow hb (fun _ => False)).row h.r1 (fun x => x)).congr (fun x hx => by rw [if_pos hx])
  · exact ((Kept.ofBelow hb (fun _ => False)).row h.r2 (fun x => x)).congr (fun x hx => by rw [if_pos hx])

/-- The model's rows are new ones. -/
theorem mid_turn {wb wr w2 : World} {sb : Nat} {dc : Bool} {tk : Int} {n' n MB LB : Nat} {I' L' I L : Nat → Int} (h : Mid wb wr sb dc tk n' I' L' n MB LB I L) (hf : Fill2 wr w2 n' n' I' L') :
    Mid wb w2 sb dc tk n' I' L' n' wr.heap.size (wr.heap.size + 1) I' L' := by
  obtain ⟨fl, QB, qc, SB, sc, h⟩ := h
  obtain ⟨f, hr, hfc⟩ := h.scan.row
  obtain ⟨g, hq⟩ := h.scan.qrow
  obtain ⟨g', hs⟩ := h.scan.srow
  have k := Kept.ofBelow hf.below (fun _ => False)
  have l0 := hr.lt
  have l1 := hq.lt
  have l2 := hs.lt
  have hz := h.below.size
  refine ⟨fl, QB, qc, SB, sc, ⟨⟨f, k.row hr (fun x => x), hfc⟩, h.scan.hn, h.scan.hq, h.scan.hs, h.scan.one, ⟨g, k.row hq (fun x => x)⟩, ⟨g', k.row hs (fun x => x)⟩⟩, h.below.trans (hf.below.mono hz), ?_, ?_, h.f0, by omega, by omega⟩
  · exact hf.r1.congr (fun x hx => by rw [if_pos hx])
  · exact hf.r2.congr (fun x hx => by rw [if_pos hx])
end Go.Proofs.Qxb6619931a
