import Derived.Test.Qxb6619931aRoomWalk
namespace Go.Proofs.Qxb6619931a
open Go.RowKit

/-- One entry put in at a place. -/
def insF (V : Nat → Int) (a : Nat) (v : Int) : Nat → Int := fun k => if k < a then V k else if k = a then v else V (k - 1)

theorem wpList_append_room {P : Program} (w : World) {ops : Array Oper} {rest : List Oper} {o : Oper} {a : Act} {Q : Exit → Act → World → Prop}
    (hg : o.guard = none) (s x : Operand) (t : TypeId) (hop : o.op = Op.call { callee := Callee.builtin Builtin.append, args := #[s, x], argTypes := #[t, t] })
    (e : TypeId) (i : TypeInfo) (size : Nat) (h1 : P.underlying t = some (.slice e)) (h2 : P.info? e = some i) (h4 : i.size = size)
    (b off n cap : Nat) (hs : a.eval s = .slice (some ⟨b, off, none⟩) n cap)
    (ad : Addr) (m c : Nat) (news : List Value) (hx : a.eval x = .slice (some ad) m c) (hn : news.length = m * size) (hc : ∀ j u, news[j]? = some u → w.cell? (ad.add j) = some u) (h1c : ∀ u ∈ news, u.oneCell' = true)
    (hroom : n + m ≤ cap) (hspare : ∀ j, j < news.length → (w.cell? ⟨b, off + n * size + j, none⟩).isSome = true ∧ w.frozen? ⟨b, off + n * size + j, none⟩ = false)
    (hK : wpList P ops Q rest (a.put o.dst (.slice (some ⟨b, off, none⟩) (n + m) cap)) (w.setCells b (off + n * size) news)) :
    wpList P ops Q (o :: rest) a w := by
  refine wpList_plain hg fun K hK' => ?_
  subst h4
  have hrun := run_append_room_cells (P := P) w t o.type e i h1 h2 b off n cap ad m c news hn hc h1c hroom (fun j hj => (hspare j hj).1) (fun j hj => (hspare j hj).2)
  unfold Oper.wp
  simp [execOp, hop, resolve, invoke, builtin, hs, hx, hrun, Result.andThen]
  exact hK' _ _ hK

theorem Scan.alloc {w : World} {sb : Nat} {fl tk : Int} {dc : Bool} {QB qc n SB sc : Nat} {I L : Nat → Int} (h : Scan w sb fl tk dc QB qc n SB sc I L) (o : Obj) : Scan (w.alloc o) sb fl tk dc QB qc n SB sc I L := by
  obtain ⟨f, hr, hf⟩ := h.row
  obtain ⟨g, hq⟩ := h.qrow
  obtain ⟨g', hs⟩ := h.srow
  exact ⟨⟨f, hr.alloc o, hf⟩, h.hn, h.hq, h.hs, h.one, ⟨g, hq.alloc o⟩, ⟨g', hs.alloc o⟩⟩

/-- What insert leaves. -/
def Insd (w w' : World) (sb : Nat) (fl tk : Int) (dc : Bool) (QB n SB : Nat) (I L : Nat → Int) : Prop :=
  ∃ QB' qc' SB' sc', Scan w' sb fl tk dc QB' qc' n SB' sc' I L ∧ Kept (fun k => k = sb ∨ k = QB ∨ k = SB) w w' ∧ (QB' = QB ∨ QB' = SB ∨ w.heap.size ≤ QB') ∧ (SB' = SB ∨ w.heap.size ≤ SB')

set_option maxRecDepth 100000 in
set_option maxHeartbeats 2000000 in
theorem insert_skip (sb : Nat) (fl tk : Int) (QB qc n SB sc : Nat) (I L : Nat → Int) (num id : Int) (w : World) (h : Scan w sb fl tk true QB qc n SB sc I L) :
    Calls Try.prog 26 #[.pointer (some ⟨sb, 0, none⟩), .int .i64 num, .agg (tok id 0)] w fun e w' => e = .returned (.tuple #[]) ∧ Insd w w' sb fl tk true QB n SB I L := by
  obtain ⟨f, hr, _, _, _, _, h30⟩ := h.row
  have c30 := hr.cell (i := 30) (by omega)
  rw [h30] at c30
  have hl := hr.lt
  have hne : sb ≠ w.heap.size := by omega
  clear h30 hr
  unfold tok
  go_enter Try.func26, Try.ntmps26
  go_wp2
  refine bodyPost_ret (v := .tuple #[]) (results_none rfl _ _ _) rfl ?_
  exact ⟨rfl, QB, qc, SB, sc, h.alloc _, (Kept.refl _ _).alloc _, .inl rfl, .inl rfl⟩

/-- A token in a box of its own. -/
def boxF (id fl : Int) : Nat → Value := fun j => (tok id fl).getD j (.bool false)
theorem box_row (w : World) (id fl : Int) : (w.alloc (.cells (tok id fl) 50)).rowIs w.heap.size 50 14 (boxF id fl) :=
  World.rowIs_alloc w (tok id fl) 50 (boxF id fl) (fun i hi => by
    have h14 : i < 14 := hi
    unfold boxF
    rw [Array.getD_eq_getD_getElem?]
    have : i < (tok id fl).size := hi
    simp [this])
theorem box_cells {w : World} {b : Nat} {id fl : Int} (h : w.rowIs b 50 14 (boxF id fl)) :
    w.cell? ⟨b, 0, none⟩ = some (.int .u8 0) ∧ w.cell? ⟨b, 1, none⟩ = some (.int .i64 id) ∧ w.cell? ⟨b, 2, none⟩ = some (.int .i64 0) ∧ w.cell? ⟨b, 3, none⟩ = some (.int .i64 0) ∧ w.cell? ⟨b, 4, none⟩ = some (.int .i64 0) ∧
    w.cell? ⟨b, 5, none⟩ = some (.int .i64 0) ∧ w.cell? ⟨b, 6, none⟩ = some (.int .i64 0) ∧ w.cell? ⟨b, 7, none⟩ = some (.int .i64 fl) ∧ w.cell? ⟨b, 8, none⟩ = some (.int .i64 0) ∧ w.cell? ⟨b, 9, none⟩ = some (.int .i64 0) ∧
    w.cell? ⟨b, 10, none⟩ = some (.int .i64 0) ∧ w.cell? ⟨b, 11, none⟩ = some (.string ⟨#[]⟩) ∧ w.cell? ⟨b, 12, none⟩ = some (.int .i64 0) ∧ w.cell? ⟨b, 13, none⟩ = some (.int .i64 0) :=
  ⟨h.cell (i := 0) (by omega), h.cell (i := 1) (by omega), h.cell (i := 2) (by omega), h.cell (i := 3) (by omega), h.cell (i := 4) (by omega), h.cell (i := 5) (by omega), h.cell (i := 6) (by omega), h.cell (i := 7) (by omega), h.cell (i := 8) (by omega),
   h.cell (i := 9) (by omega), h.cell (i := 10) (by omega), h.cell (i := 11) (by omega), h.cell (i := 12) (by omega), h.cell (i := 13) (by omega)⟩
theorem tok_src {w : World} {b : Nat} {id fl : Int} (h : w.rowIs b 50 14 (boxF id fl)) : ∀ j u, (tok id fl).toList[j]? = some u → w.cell? ((⟨b, 0, none⟩ : Addr).add j) = some u := by
  intro j u hu
  have hj : j < 14 := by
    have := (List.getElem?_eq_some_iff.1 hu).1
    exact this
  rw [Addr.add_lit, Nat.zero_add, h.cell hj, ← hu]
  unfold boxF
  rw [Array.getD_eq_getD_getElem?]
  have : j < (tok id fl).size := hj
  simp [this]

theorem spare_cells {w : World} {QB m n : Nat} {f : Nat → Value} (h : w.rowIs QB 50 m f) (hm : n * 14 + 14 ≤ m) (vs : List Value) (hv : vs.length = 14) : ∀ j, j < vs.length → (w.cell? ⟨QB, 0 + n * 14 + j, none⟩).isSome = true ∧ w.frozen? ⟨QB, 0 + n * 14 + j, none⟩ = false := by
  intro j hj
  rw [hv] at hj
  rw [Nat.zero_add, h.cell (by omega), h.frozen]
  exact ⟨rfl, rfl⟩

theorem qf_congr {I I' L L' : Nat → Int} {n : Nat} (g : Nat → Value) (hI : ∀ k, k < n → I k = I' k) (hL : ∀ k, k < n → L k = L' k) (x : Nat) : qf I L n g x = qf I' L' n g x := by
  unfold qf
  by_cases h : x < n * 14
  · rw [if_pos h, if_pos h, hI (x / 14) (by omega), hL (x / 14) (by omega)]
  · rw [if_neg h, if_neg h]

/-- A token appended in place. -/
theorem scan_push {w : World} {sb : Nat} {fl tk : Int} {dc : Bool} {QB qc n SB sc : Nat} {I L : Nat → Int} (h : Scan w sb fl tk dc QB qc n SB sc I L) (hlt : n < qc) (id lv : Int) :
    Scan ((w.setCells QB (0 + n * 14) (tok id lv).toList).setCell ⟨sb, 12, none⟩ (.slice (some ⟨QB, 0, none⟩) (n + 1) qc)) sb fl tk dc QB qc (n + 1) SB sc (insF I n id) (insF L n lv) ∧
      Kept (fun k => k = sb ∨ k = QB) w ((w.setCells QB (0 + n * 14) (tok id lv).toList).setCell ⟨sb, 12, none⟩ (.slice (some ⟨QB, 0, none⟩) (n + 1) qc)) := by
  obtain ⟨f, hr, h4, h12, h13, h14, h30⟩ := h.row
  obtain ⟨g, hq⟩ := h.qrow
  obtain ⟨g', hs⟩ := h.srow
  rw [Nat.zero_add]
  generalize hvs : (tok id lv).toList = vs
  have e1 : insF I n id n = id := by unfold insF; rw [if_neg (Nat.lt_irrefl _), if_pos rfl]
  have e2 : insF L n lv n = lv := by unfold insF; rw [if_neg (Nat.lt_irrefl _), if_pos rfl]
  have hq2 : (w.setCells QB (n * 14) vs).rowIs QB 50 (qc * 14) (qf (insF I n id) (insF L n lv) (n + 1) g) := (rowIs_setCells vs (n * 14) w _ hq).congr (fun x _ => by
    rw [qf_push (insF I n id) (insF L n lv) n g x, e1, e2, hvs, qf_congr (I := insF I n id) (I' := I) (L := insF L n lv) (L' := L) g (fun k hk => by unfold insF; rw [if_pos hk]) (fun k hk => by unfold insF; rw [if_pos hk])])
  have hq3 := hq2.setOther (a := ⟨sb, 12, none⟩) h.hq (.slice (some ⟨QB, 0, none⟩) (n + 1) qc)
  have hr2 := (rowIs_setCells_other h.hq.symm vs (n * 14) w hr).set 12 (.slice (some ⟨QB, 0, none⟩) (n + 1) qc)
  have hs2 : ∃ g2, ((w.setCells QB (n * 14) vs).setCell ⟨sb, 12, none⟩ (.slice (some ⟨QB, 0, none⟩) (n + 1) qc)).rowIs SB 50 (sc * 14) g2 := by
    by_cases e : QB = SB
    · subst e
      have := h.one rfl
      rw [← this]
      exact ⟨_, hq3⟩
    · exact ⟨g', (rowIs_setCells_other (fun x => e x.symm) vs (n * 14) w hs).setOther (a := ⟨sb, 12, none⟩) h.hs _⟩
  refine ⟨⟨⟨_, hr2, by simpa using h4, by simp, by simpa using h13, by simpa using h14, by simpa using h30⟩, by omega, h.hq, h.hs, h.one, ⟨g, hq3⟩, hs2⟩, ?_⟩
  exact (Kept.setCells (T := fun k => k = sb ∨ k = QB) (g := QB) (.inr rfl) vs (n * 14) w (Kept.refl _ _)).setCell (p := ⟨sb, 12, none⟩) (.inl rfl) _

theorem ins_frame {w w1 wz : World} {sb QB SB QB1 SB1 : Nat} {X Y : Obj} (hK : Kept (fun k => k = sb ∨ k = SB) (w.alloc X) w1) (hSB : SB1 = SB ∨ (w.alloc X).heap.size ≤ SB1) (hQB : QB1 = QB ∨ QB1 = SB1)
    (hP : Kept (fun k => k = sb ∨ k = QB1) (w1.alloc Y).drew wz) : Kept (fun k => k = sb ∨ k = QB ∨ k = SB) w wz ∧ (QB1 = QB ∨ QB1 = SB ∨ w.heap.size ≤ QB1) ∧ (SB1 = SB ∨ w.heap.size ≤ SB1) := by
  simp only [Go.Deep.nblk_alloc] at hSB
  refine ⟨?_, by omega, by omega⟩
  have h1 : Kept (fun k => k = sb ∨ k = QB ∨ k = SB) w w1 := ((Kept.refl _ w).alloc X).trans' hK (fun i hi e => by omega)
  have h2 : Kept (fun k => k = sb ∨ k = QB ∨ k = SB) w (w1.alloc Y).drew := (h1.alloc Y).drew
  exact h2.trans' hP (fun i hi e => by omega)

set_option maxRecDepth 100000 in
set_option maxHeartbeats 2000000 in
theorem insert_end (sb : Nat) (fl tk : Int) (QB qc n SB sc : Nat) (I L : Nat → Int) (num id : Int) (w : World) (h : Scan w sb fl tk false QB qc n SB sc I L) (hn : n ≤ 65536) (n0 : 0 ≤ num) (n1 : num ≤ 9223372036854775807) (t0 : 0 ≤ tk) (t1 : tk ≤ 9223372036854775807) (hlt : num < tk) :
    Calls Try.prog 26 #[.pointer (some ⟨sb, 0, none⟩), .int .i64 num, .agg (tok id 0)] w fun e w' => e = .returned (.tuple #[]) ∧ Insd w w' sb fl tk false QB (n + 1) SB (insF I n id) (insF L n fl) := by
  obtain ⟨f, hr, h4, _, _, h14, h30⟩ := h.row
  have c4 := hr.cell (i := 4) (by omega)
  rw [h4] at c4
  have c14 := hr.cell (i := 14) (by omega)
  rw [h14] at c14
  have c30 := hr.cell (i := 30) (by omega)
  rw [h30] at c30
  have hl := hr.lt
  have hne : sb ≠ w.heap.size := by omega
  clear h4 h14 h30 hr
  have x1 : num - tk < 0 := by omega
  unfold tok
  go_enter Try.func26, Try.ntmps26
  go_wp2_with fail
  have hA := h.alloc (.cells (tok id fl) 50)
  have hB := box_row w id fl
  have hS0 : SB < w.heap.size := h.srow.elim fun _ x => x.lt
  refine (room_any sb fl tk false QB qc n SB sc I L _ (h.alloc _) hn).mono ?_
  rintro e w1 ⟨rfl, QB1, qc1, SB1, sc1, hS, hlt1, hK, hSB, hQB⟩
  have hB1 : w1.rowIs w.heap.size 50 14 (boxF id fl) := hK.row hB (by omega)
  have hsz1 : w.heap.size < w1.heap.size := hB1.lt
  obtain ⟨t0, t1, t2, t3, t4, t5, t6, t7, t8, t9, t10, t11, t12, t13⟩ := box_cells hB1
  obtain ⟨f1, hr1, _, k12, _⟩ := hS.row
  have m12 := hr1.cell (i := 12) (by omega)
  rw [k12] at m12
  have m12f := hr1.frozen 12
  have hl1 := hr1.lt
  clear k12 hA hB c4 c14 c30
  obtain ⟨i0, hi, hz0, hz1, hz2⟩ := info_parts info50
  have HI : Hid (Try.prog.info? 50 = some i0) := hi
  clear hi hz0 hz2
  have srcN : Hid (∀ j u, (tok id fl).toList[j]? = some u → ((w1.alloc (.cells (tok id fl) 50)).drew).cell? ((⟨w1.heap.size, 0, none⟩ : Addr).add j) = some u) := tok_src (w := (w1.alloc (.cells (tok id fl) 50)).drew) (box_row w1 id fl).drew
  obtain ⟨gq, hq1⟩ := hS.qrow
  have spN : Hid (∀ j, j < (tok id fl).toList.length → (((w1.alloc (.cells (tok id fl) 50)).drew).cell? ⟨QB1, 0 + n * 14 + j, none⟩).isSome = true ∧ ((w1.alloc (.cells (tok id fl) 50)).drew).frozen? ⟨QB1, 0 + n * 14 + j, none⟩ = false) :=
    spare_cells (w := (w1.alloc (.cells (tok id fl) 50)).drew) (hq1.alloc _).drew (by omega) _ rfl
  obtain ⟨hP, hKP⟩ := scan_push (hS.alloc (.cells (tok id fl) 50)).drew hlt1 id fl
  have e12 : ∀ X : Array Value, (((w1.alloc (.cells X 50)).drew).setCells QB1 (n * 14) (tok id fl).toList).cell? ⟨sb, 12, none⟩ = some (.slice (some ⟨QB1, 0, none⟩) n qc1) := fun X => by
    rw [World.cell?_setCells_out QB1 _ _ _ ⟨sb, 12, none⟩ (fun e => absurd e.symm hS.hq)]
    exact ((hr1.alloc (.cells X 50)).drew.cell (i := 12) (by omega)).trans (by rw [← m12]; exact (hr1.cell (i := 12) (by omega)).symm)
  have ef : ∀ X : Array Value, (((w1.alloc (.cells X 50)).drew).setCells QB1 (n * 14) (tok id fl).toList).frozen? ⟨sb, 12, none⟩ = false := fun X => by
    rw [World.frozen?_setCells]
    exact (hr1.alloc (.cells X 50)).drew.frozen 12
  clear hq1 hr1
  go_wp2
  go_region_law (refine step_append_room rfl (.tmp 30) (.tmp 32) 47 rfl 50 i0 14 Try.underlying47 HI.out hz1 QB1 0 n qc1 (by simp [Act.eval]) ⟨w1.heap.size, 0, none⟩ 1 1 (tok id fl).toList (by simp [Act.eval]) rfl srcN.out (tok_one _ _) (by omega) spN.out ?_)
  all_goals
    go_wp2
    refine bodyPost_ret (v := .tuple #[]) (results_none rfl _ _ _) rfl ?_
    refine ⟨rfl, QB1, qc1, SB1, sc1, ?_⟩
    go_light
    rw [Nat.zero_add] at hP hKP
    exact ⟨hP, ins_frame hK hSB hQB hKP⟩
end Go.Proofs.Qxb6619931a
