import Derived.Test.Qxb6619931aNew
namespace Go.Proofs.Qxb6619931a
open Go.RowKit

/-! ### Getters and the flow level -/
set_option maxHeartbeats 400000 in
theorem len_any (sb : Nat) (fl tk : Int) (dc : Bool) (QB qc n SB sc : Nat) (I L : Nat → Int) (w : World) (h : Scan w sb fl tk dc QB qc n SB sc I L) :
    Calls Try.prog 17 #[.pointer (some ⟨sb, 0, none⟩)] w fun e w' => e = .returned (.int .i64 n) ∧ w = w' := by
  obtain ⟨hf, hr, _, h12, _⟩ := h.row
  have c12 := hr.cell (i := 12) (by omega)
  rw [h12] at c12
  clear h12
  go_enter Try.func17, Try.ntmps17
  go_wp2
  go_ret
  exact ⟨rfl, rfl⟩

set_option maxHeartbeats 400000 in
theorem id_any (sb : Nat) (fl tk : Int) (dc : Bool) (QB qc n SB sc : Nat) (I L : Nat → Int) (k : Nat) (w : World) (h : Scan w sb fl tk dc QB qc n SB sc I L) (hk : k < n) :
    Calls Try.prog 18 #[.pointer (some ⟨sb, 0, none⟩), .int .i64 k] w fun e w' => e = .returned (.int .i64 (I k)) ∧ w = w' := by
  obtain ⟨hf, hr, _, h12, _⟩ := h.row
  have c12 := hr.cell (i := 12) (by omega)
  rw [h12] at c12
  clear h12
  obtain ⟨g, hq⟩ := h.qrow
  have hnq := h.hn
  have c1 := hq.cell (i := k * 14 + 1) (by omega)
  rw [qf_at I L n g k 1 hk (by omega)] at c1
  have c1' : w.cell? ⟨QB, k * 14 + 1, none⟩ = some (.int .i64 (I k)) := c1
  have hkz : (k : Int) < (n : Int) := by omega
  clear c1 hr hq
  go_enter Try.func18, Try.ntmps18
  go_wp2
  go_ret
  exact ⟨rfl, rfl⟩

set_option maxHeartbeats 400000 in
theorem level_any (sb : Nat) (fl tk : Int) (dc : Bool) (QB qc n SB sc : Nat) (I L : Nat → Int) (k : Nat) (w : World) (h : Scan w sb fl tk dc QB qc n SB sc I L) (hk : k < n) :
    Calls Try.prog 19 #[.pointer (some ⟨sb, 0, none⟩), .int .i64 k] w fun e w' => e = .returned (.int .i64 (L k)) ∧ w = w' := by
  obtain ⟨hf, hr, _, h12, _⟩ := h.row
  have c12 := hr.cell (i := 12) (by omega)
  rw [h12] at c12
  clear h12
  obtain ⟨g, hq⟩ := h.qrow
  have hnq := h.hn
  have c1 := hq.cell (i := k * 14 + 7) (by omega)
  rw [qf_at I L n g k 7 hk (by omega)] at c1
  have c1' : w.cell? ⟨QB, k * 14 + 7, none⟩ = some (.int .i64 (L k)) := c1
  have hkz : (k : Int) < (n : Int) := by omega
  clear c1 hr hq
  go_enter Try.func19, Try.ntmps19
  go_wp2
  go_ret
  exact ⟨rfl, rfl⟩

theorem scan_flow {w : World} {sb : Nat} {fl tk : Int} {dc : Bool} {QB qc n SB sc : Nat} {I L : Nat → Int} (h : Scan w sb fl tk dc QB qc n SB sc I L) (fl' : Int) : Scan (w.setCell ⟨sb, 4, none⟩ (.int .i64 fl')) sb fl' tk dc QB qc n SB sc I L := by
  obtain ⟨f, hr, h4, h12, h13, h14, h30⟩ := h.row
  obtain ⟨g, hq⟩ := h.qrow
  obtain ⟨g', hs⟩ := h.srow
  exact ⟨⟨_, hr.set 4 _, by simp, by simpa using h12, by simpa using h13, by simpa using h14, by simpa using h30⟩, h.hn, h.hq, h.hs, h.one, ⟨g, hq.setOther (a := ⟨sb, 4, none⟩) h.hq _⟩, ⟨g', hs.setOther (a := ⟨sb, 4, none⟩) h.hs _⟩⟩

set_option maxHeartbeats 400000 in
theorem flow_any (sb : Nat) (fl tk : Int) (dc : Bool) (QB qc n SB sc : Nat) (I L : Nat → Int) (fl' : Int) (w : World) (h : Scan w sb fl tk dc QB qc n SB sc I L) :
    Calls Try.prog 15 #[.pointer (some ⟨sb, 0, none⟩), .int .i64 fl'] w fun e w' => e = .returned (.tuple #[]) ∧ w' = w.setCell ⟨sb, 4, none⟩ (.int .i64 fl') := by
  obtain ⟨hf, hr, h4, _⟩ := h.row
  have c4 := hr.cell (i := 4) (by omega)
  rw [h4] at c4
  have f4 := hr.frozen 4
  clear h4
  go_enter Try.func15, Try.ntmps15
  go_wp2
  go_end0
  exact ⟨rfl, rfl⟩

/-! ### makeRoom -/
def qcells (I L : Nat → Int) (n : Nat) : List Value := (List.range (n * 14)).map (qf I L n (fun _ => .bool false))
theorem qcells_len (I L : Nat → Int) (n : Nat) : (qcells I L n).length = n * 14 := by simp [qcells]
theorem qcells_at (I L : Nat → Int) (n j : Nat) (hj : j < n * 14) (g : Nat → Value) : (qcells I L n)[j]? = some (qf I L n g j) := by
  simp [qcells, hj]
  unfold qf
  rw [if_pos hj, if_pos hj]
theorem tok_getD_one (a b : Int) (j : Nat) : ((tok a b).getD j (.bool false)).oneCell' = true := by
  by_cases h : j < 14
  · have hm : (tok a b).getD j (.bool false) ∈ (tok a b).toList := by
      rw [Array.getD_eq_getD_getElem?]
      have : j < (tok a b).size := h
      simp [this]
    exact tok_one a b _ hm
  · have : (tok a b).getD j (.bool false) = .bool false := by
      rw [Array.getD_eq_getD_getElem?]
      have : ¬ j < (tok a b).size := h
      simp [this]
    rw [this]; rfl
theorem qcells_one (I L : Nat → Int) (n : Nat) : ∀ v ∈ qcells I L n, v.oneCell' = true := by
  intro v hv
  obtain ⟨x, hx, rfl⟩ := List.mem_map.1 hv
  unfold qf
  split
  · exact tok_getD_one _ _ _
  · rfl

theorem qcells_src {w : World} {QB m n : Nat} {I L : Nat → Int} {g : Nat → Value} (h : w.rowIs QB 50 m (qf I L n g)) (hm : n * 14 ≤ m) : ∀ j v, (qcells I L n)[j]? = some v → w.cell? ((⟨QB, 0, none⟩ : Addr).add j) = some v := by
  intro j v hv
  have hj : j < n * 14 := by
    have := (List.getElem?_eq_some_iff.1 hv).1
    rwa [qcells_len] at this
  rw [qcells_at I L n j hj g] at hv
  rw [Addr.add_lit, Nat.zero_add, h.cell (by omega)]
  exact hv

theorem qf_spliced (I L : Nat → Int) (n : Nat) (g : Nat → Value) (x : Nat) : (if 0 ≤ x ∧ x < 0 + (qcells I L n).length then (qcells I L n).getD (x - 0) (.bool false) else g x) = qf I L n g x := by
  rw [qcells_len]
  by_cases h : x < n * 14
  · rw [if_pos ⟨Nat.zero_le _, by omega⟩, List.getD_eq_getElem?_getD, Nat.sub_zero, qcells_at I L n x h g]; rfl
  · rw [if_neg (by omega)]; unfold qf; rw [if_neg h]

theorem step_copy_big {P : Program} {ops : Array Oper} {o : Oper} {a : Act} {w : World} {K : Act → World → Prop} {Q : Exit → Act → World → Prop} {E : Prop}
    (hg : o.guard = none) (d s : Operand) (t : TypeId) (hop : o.op = Op.call { callee := Callee.builtin Builtin.copy, args := #[d, s], argTypes := #[t, t] })
    (e : TypeId) (i : TypeInfo) (size : Nat) (h1 : P.underlying t = some (.slice e)) (h2 : P.info? e = some i) (h4 : i.size = size)
    (b off dLen dCap : Nat) (hd : a.eval d = .slice (some ⟨b, off, none⟩) dLen dCap) (ad : Addr) (sLen sCap : Nat) (hs : a.eval s = .slice (some ad) sLen sCap)
    (n : Nat) (hnm : Nat.min sLen dLen = n) (cs : List Value) (hn : cs.length = n * size) (hc : ∀ j u, cs[j]? = some u → w.cell? (ad.add j) = some u) (h1c : ∀ u ∈ cs, u.oneCell' = true)
    (hd' : ∀ j, j < cs.length → (w.cell? ⟨b, off + j, none⟩).isSome = true ∧ w.frozen? ⟨b, off + j, none⟩ = false)
    (hK : K (a.put o.dst (goInt n)) (w.setCells b off cs)) :
    if Region.wanted o (yielded ops a.tmps) = true then Oper.wp P o a w K Q else E := by
  have hw : Region.wanted o (yielded ops a.tmps) = true := by simp [Region.wanted, hg]
  rw [if_pos hw]
  subst h4
  have hrun := run_copy_big (P := P) w t t o.type e i b off dLen dCap ad sLen sCap n cs h1 h2 hnm hn hc (fun j hj => (hd' j hj).1) (fun j hj => (hd' j hj).2) h1c
  unfold Oper.wp
  simp [execOp, hop, resolve, invoke, builtin, hd, hs, hrun, Result.andThen]
  exact hK
end Go.Proofs.Qxb6619931a
