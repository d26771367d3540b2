import Derived.Test.Qxb6621652aSplit
namespace Go.Proofs.Qxb6621652a
open Go.RowKit

/-- A table's cells, as a list. -/
def cellsOf (V : Nat → Int) (t : Nat) : List Value := (List.range t).map fun i => .int .u16 (V i)
theorem cellsOf_len (V : Nat → Int) (t : Nat) : (cellsOf V t).length = t := by simp [cellsOf]
theorem cellsOf_at (V : Nat → Int) (t j : Nat) (hj : j < t) : (cellsOf V t)[j]? = some (.int .u16 (V j)) := by simp [cellsOf, hj]
theorem cellsOf_one (V : Nat → Int) (t : Nat) : ∀ u ∈ cellsOf V t, u.oneCell' = true := by
  intro u hu
  obtain ⟨_, _, rfl⟩ := List.mem_map.1 hu
  rfl
theorem tbl_news {w : World} {a : Option Addr} {b off t : Nat} {V : Nat → Int} (h : Tbl w a b off t V) : ∀ ad, a = some ad → ∀ j u, (cellsOf V t)[j]? = some u → w.cell? (ad.add j) = some u := by
  intro ad had j u hu
  have hj : j < t := by
    have := (List.getElem?_eq_some_iff.1 hu).1
    rw [cellsOf_len] at this
    exact this
  rw [cellsOf_at V t j hj] at hu
  have := h.at' (by omega)
  rw [had] at this
  obtain rfl := Option.some.inj this
  rw [Addr.add_lit, h.cell j hj]
  exact hu

theorem tbl_grown {w : World} {B g t k cap : Nat} {V : Nat → Int} {v : Int} (hk : k ≤ t) (hv0 : 0 ≤ v) (hv1 : v ≤ 65535) (hw : ∀ i, i < t → 0 ≤ V i ∧ V i ≤ 65535)
    (h : w.ownsRow B 25 1 (.slice (some ⟨g, 0, none⟩) (k + 1 + (t - k)) cap) (k + 1 + (t - k)) (cellsOf V k ++ [.int .u16 v] ++ cellsOf (fun i => V (k + i)) (t - k))) : Tbl w (some ⟨g, 0, none⟩) g 0 (t + 1) (ins V k v) := by
  refine ⟨fun _ => rfl, fun i hi => ?_, fun i hi => ?_⟩
  · rw [Nat.zero_add, h.cellAt i (by omega)]
    unfold ins
    by_cases h1 : i < k
    · rw [if_pos h1, List.append_assoc, List.getElem?_append_left (by rw [cellsOf_len]; exact h1), cellsOf_at V k i h1]
    · rw [if_neg h1]
      by_cases h2 : i = k
      · subst h2
        rw [if_pos rfl, List.append_assoc, List.getElem?_append_right (by rw [cellsOf_len]; exact Nat.le_refl _), cellsOf_len]
        simp
      · rw [if_neg h2, List.getElem?_append_right (by simp [cellsOf_len]; omega)]
        simp only [List.length_append, cellsOf_len, List.length_cons, List.length_nil]
        rw [cellsOf_at _ _ _ (by omega)]
        congr 3
        omega
  · unfold ins
    split
    · exact hw i (by omega)
    · split
      · exact ⟨hv0, hv1⟩
      · exact hw (i - 1) (by omega)

set_option maxRecDepth 100000 in
set_option maxHeartbeats 2000000 in
theorem insert_walk (p q : Int) (a1 : Option Addr) (b1 o1 n1 c1 : Nat) (S1 : Nat → ByteArray) (a2 : Option Addr) (b2 o2 n2 c2 : Nat) (S2 : Nat → ByteArray) (a3 : Option Addr) (b3 o3 n3 c3 : Nat) (Wt : Nat → Nat) (a4 : Option Addr) (b4 o4 t c4 : Nat) (V : Nat → Int) (cut v : Int) (w : World)
    (hvb : 0 ≤ v ∧ v ≤ 65535) (hnil : a4 = none → c4 = 0) (H : Ring w a1 b1 o1 n1 S1 a2 b2 o2 n2 S2 a3 b3 o3 n3 Wt a4 b4 o4 t c4 V) :
    Calls Try.prog 3 #[.int .i64 p, .int .i64 q, .slice a1 n1 c1, .slice a2 n2 c2, .slice a3 n3 c3, .slice a4 t c4, .int .i64 cut, .int .u16 v] w fun e w' => e = .returned (.bool true) ∧ Below w.heap.size w w' := by
  have k6 := bytes6_any p q a1 b1 o1 n1 c1 S1 a2 b2 o2 n2 c2 S2 a3 n3 c3 a4 t c4 cut v w H.m1 H.m2 H.ids H.zones
  have k7 := fit_any a1 b1 o1 n1 c1 S1 a2 b2 o2 n2 c2 S2 a3 n3 c3 a4 t c4 w H.ids H.zones
  have HN : Hid (a4 = none → c4 = 0) := hnil
  have HVB : Hid (0 ≤ v ∧ v ≤ 65535) := hvb
  clear hnil hvb
  by_cases x1 : cut < 0
  · go_enter Try.func3, Try.ntmps3
    go_wp2_with (first | (go_at_call 6; refine k6.mono ?_; rintro e w' ⟨⟨b6, rfl⟩, rfl⟩) | (go_at_call 7; refine k7.mono ?_; rintro e w' ⟨⟨b7, rfl, h7⟩, rfl⟩; clear h7))
    all_goals go_ret
    all_goals exact ⟨rfl, Below.refl _ _⟩
  by_cases x2 : (t : Int) < cut
  · go_enter Try.func3, Try.ntmps3
    go_wp2_with (first | (go_at_call 6; refine k6.mono ?_; rintro e w' ⟨⟨b6, rfl⟩, rfl⟩) | (go_at_call 7; refine k7.mono ?_; rintro e w' ⟨⟨b7, rfl, h7⟩, rfl⟩; clear h7))
    all_goals go_ret
    all_goals exact ⟨rfl, Below.refl _ _⟩
  by_cases x3 : n2 = n1
  case neg =>
    have x3' : ((n2 : Int) != (n1 : Int)) = true := by simp; omega
    go_enter Try.func3, Try.ntmps3
    go_wp2_with (first | (go_at_call 6; refine k6.mono ?_; rintro e w' ⟨⟨b6, rfl⟩, rfl⟩) | (go_at_call 7; refine k7.mono ?_; rintro e w' ⟨⟨b7, rfl, h7⟩, rfl⟩; clear h7))
    all_goals go_ret
    all_goals exact ⟨rfl, Below.refl _ _⟩
  by_cases x4 : n3 = n1
  case neg =>
    have x3' : ((n2 : Int) != (n1 : Int)) = false := by simp; omega
    have x4' : ((n3 : Int) != (n1 : Int)) = true := by simp; omega
    clear x3
    go_enter Try.func3, Try.ntmps3
    go_wp2_with (first | (go_at_call 6; refine k6.mono ?_; rintro e w' ⟨⟨b6, rfl⟩, rfl⟩) | (go_at_call 7; refine k7.mono ?_; rintro e w' ⟨⟨b7, rfl, h7⟩, rfl⟩; clear h7))
    all_goals go_ret
    all_goals exact ⟨rfl, Below.refl _ _⟩
  subst x3 x4
  obtain ⟨k, rfl⟩ := Int.eq_ofNat_of_zero_le (show 0 ≤ cut by omega)
  have hkt : k ≤ t := by omega
  have d1 : decide ((k : Int) < 0) = false := decide_eq_false (by omega)
  have d2 : decide (t < k) = false := decide_eq_false (by omega)
  clear x1 x2
  obtain ⟨v0, v1⟩ := HVB.out
  clear HVB
  obtain ⟨v, rfl⟩ := Int.eq_ofNat_of_zero_le v0
  -- the entry: Unassigned, a node's index, or neither
  have vcase : (v = 65535 ∨ (v ≠ 65535 ∧ v < n3)) ∨ (v ≠ 65535 ∧ n3 ≤ v) := by omega
  rcases vcase with hv | ⟨hv1, hv2⟩
  case inr =>
    have e1 : ((v : Int) != 65535) = true := by simp; omega
    have e2 : decide (n3 ≤ v) = true := decide_eq_true hv2
    go_enter Try.func3, Try.ntmps3
    go_wp2_with (first | (go_at_call 6; refine k6.mono ?_; rintro e w' ⟨⟨b6, rfl⟩, rfl⟩) | (go_at_call 7; refine k7.mono ?_; rintro e w' ⟨⟨b7, rfl, h7⟩, rfl⟩; have H7 : Hid (b7 = true → n3 ≤ 1048576 ∧ t ≤ 1048576) := h7; clear h7))
    · go_ret
      exact ⟨rfl, Below.refl _ _⟩
    · go_ret
      exact ⟨rfl, Below.refl _ _⟩
    have hb7 : (!b7) = false := by assumption
    obtain ⟨hn, ht⟩ := H7.out (by simpa using hb7)
    refine (valid_any a4 b4 o4 t c4 n3 V w ht H.tbl).mono ?_
    rintro e w' ⟨⟨b8, rfl, h8⟩, rfl⟩
    clear h8
    cases b8
    · go_wp2
      go_ret
      exact ⟨rfl, Below.refl _ _⟩
    · go_wp2
      go_ret
      exact ⟨rfl, Below.refl _ _⟩
  have hvn : (v : Int) = 65535 ∨ (v : Int) < n3 := by omega
  have HVN : Hid ((v : Int) = 65535 ∨ (v : Int) < n3) := hvn
  clear hvn
  obtain ⟨i0, hi, hz0, hz1, hz2⟩ := info_parts info25
  have Hi : Hid (Try.prog.info? 25 = some i0) := hi
  rcases hv with hv | ⟨hv1, hv2⟩
  · have e1 : ((v : Int) != 65535) = false := by simp; omega
    have e3 : ((v : Int) == 65535) = true := by simp; omega
    have HVE : Hid (v = 65535) := hv
    clear hv
    go_enter Try.func3, Try.ntmps3
    go_wp2_with (first | (go_at_call 6; refine k6.mono ?_; rintro e w' ⟨⟨b6, rfl⟩, rfl⟩) | (go_at_call 7; refine k7.mono ?_; rintro e w' ⟨⟨b7, rfl, h7⟩, rfl⟩; have H7 : Hid (b7 = true → n3 ≤ 1048576 ∧ t ≤ 1048576) := h7; clear h7))
    · go_ret
      exact ⟨rfl, Below.refl _ _⟩
    · go_ret
      exact ⟨rfl, Below.refl _ _⟩
    have hb7 : (!b7) = false := by assumption
    obtain ⟨hn, ht⟩ := H7.out (by simpa using hb7)
    clear k6 k7
    refine (valid_any a4 b4 o4 t c4 n3 V w ht H.tbl).mono ?_
    rintro e w' ⟨⟨b8, rfl, h8⟩, rfl⟩
    cases b8
    · go_wp2
      go_ret
      exact ⟨rfl, Below.refl _ _⟩
    have hv8 := h8 rfl
    have HV : Hid (Valid n3 t V) := hv8
    clear h8 hv8
    go_wp2_with fail
    refine (nodes_any a1 b1 o1 n3 c1 S1 a2 b2 o2 c2 S2 a3 b3 o3 c3 Wt w hn H.ids H.zones H.wat H.wts).mono ?_
    rintro e w1 ⟨rfl, bl1⟩
    have hT1 := H.tbl.below bl1
    have s1 := fun w => slice_front w a4 t c4 k hkt H.cap
    have s2 := fun w => slice_back w a4 t c4 k hkt
    have hno : a4 = none → t = 0 ∧ c4 = 0 := fun h => by
      refine ⟨?_, HN.out h⟩
      rcases Nat.eq_zero_or_pos t with h0 | h0
      · exact h0
      · have := H.tbl.at' h0
        rw [h] at this
        cases this
    have HNO : Hid (a4 = none → t = 0 ∧ c4 = 0) := hno
    have hno2 : restAt a4 c4 k = none → t - k = 0 ∧ c4 - k = 0 := fun h => by
      have : a4 = none := by
        unfold restAt at h
        split at h
        · exact h
        · simpa using h
      have := HNO.out this
      omega
    have HNO2 : Hid (restAt a4 c4 k = none → t - k = 0 ∧ c4 - k = 0) := hno2
    clear hno hno2
    go_wp2_with (first
      | (at_make; refine wpList_make_own _ rfl _ _ 24 rfl w1.heap.size 25 i0 (.int .u16 0) 1 Try.underlying24 hi hz0 hz1 _ _ _ (t + 1) rfl rfl (by omega) (by rw [hz2]; omega) (by unfold maxLen; omega) (Nat.le_refl _) ?_; intro wA hownA hgrowA; have bA := (Below.refl w1.heap.size w1).grown hgrowA (Nat.le_refl _) (fun k h => by cases h))
      | (at_builtin; refine wpList_append_fits_any _ rfl (.tmp 87) (.tmp 90) 24 rfl w1.heap.size 25 i0 1 Try.underlying24 hi hz1 w1.heap.size 0 (t + 1) _ rfl hownA _ k _ (cellsOf V k) rfl (by simp [cellsOf_len]) (fun h => ⟨by have := (HNO.out h).1; omega, (HNO.out h).2⟩) (tbl_news (tbl_front (hT1.below bA) hkt)) (cellsOf_one _ _) (by omega) ?_; intro wB hownB hgrowB; simp only [Nat.zero_add, List.nil_append] at hownB; have bB := bA.grown hgrowB bA.size (fun k hk => by cases hk; exact Nat.le_refl _))
      | (at_builtin; refine wpList_append_fits _ rfl (.tmp 92) (.tmp 94) 24 rfl w1.heap.size 25 i0 1 Try.underlying24 hi hz1 w1.heap.size k (t + 1) _ rfl (hownB.alloc _) ⟨wB.heap.size, 0, none⟩ 1 1 [.int .u16 v] rfl rfl (cell_one_new _ _ _) (by intro u hu; simp at hu; subst hu; rfl) (by omega) ?_; intro wC hownC hgrowC; have bC := (bB.alloc bB.size _).grown hgrowC (by simp; have := bB.size; omega) (fun k hk => by cases hk; exact Nat.le_refl _))
      | (at_builtin; refine wpList_append_fits_any _ rfl (.tmp 96) (.tmp 99) 24 rfl w1.heap.size 25 i0 1 Try.underlying24 hi hz1 w1.heap.size (k + 1) (t + 1) _ rfl hownC _ (t - k) _ (cellsOf (fun i => V (k + i)) (t - k)) rfl (by simp [cellsOf_len]) HNO2.out (tbl_news (tbl_back (hT1.below bC) H.cap hkt)) (cellsOf_one _ _) (by omega) ?_; intro wD hownD hgrowD; have bD := bC.grown hgrowD bC.size (fun k hk => by cases hk; exact Nat.le_refl _)))
    have hTg := tbl_grown hkt (by omega) v1 H.tbl.wf hownD
    have HTg : Hid (Tbl wD (some ⟨w1.heap.size, 0, none⟩) w1.heap.size 0 (t + 1) (ins V k v)) := hTg
    have elen : Hid (k + 1 + (t - k) = t + 1) := by show _ = _; omega
    have b2 : ∀ x y : Obj, Below wD.heap.size wD ((wD.alloc x).alloc y) := fun x y => ((Below.refl _ _).alloc (Nat.le_refl _) _).alloc (by simp) _
    have B2 : Hid (∀ x y : Obj, Below wD.heap.size wD ((wD.alloc x).alloc y)) := b2
    have hTr := hT1.below bD
    clear b2 hTg hownA hownB hownC hownD hgrowA hgrowB hgrowC hgrowD bA bB bC s1 s2 HNO HNO2 hi Hi hz0 hz1 hz2
    refine (held_any wD.heap.size (some ⟨w.heap.size, 0, none⟩) n3 n3 a4 b4 o4 t c4 V _ hn (by omega) (hTr.below (B2.out _ _)) HV.out ?_ ?_).mono ?_
    · exact (box2 _ _ _ _ _).1
    · exact (box2 _ _ _ _ _).1
    rintro e w2 ⟨rfl, h2⟩
    have r2 := h2.row
    have l2 : Below wD.heap.size wD w2 := (B2.out _ _).trans (h2.below.mono (by simp; omega))
    have u0 := (h2.below.cell (p := ⟨wD.heap.size + 1, 2, none⟩) (by simp)).trans (box2 _ _ _ _ _).2
    have u1 := (h2.below.cell (p := ⟨wD.heap.size + 1, 3, none⟩) (by simp)).trans (box2 _ _ _ _ _).2
    have z2 : wD.heap.size + 1 + 1 < w2.heap.size := by have := h2.size; simp at this; omega
    simp at u0 u1 r2
    rw [elen.out] at u1
    clear h2
    go_wp2_with fail
    refine (held_any (wD.heap.size + 1) (some ⟨w.heap.size, 0, none⟩) n3 n3 (some ⟨w1.heap.size, 0, none⟩) w1.heap.size 0 (t + 1) (t + 1) (ins V k v) w2 hn (by omega) (HTg.out.below l2) (valid_ins HV.out hkt HVN.out) u0 u1).mono ?_
    rintro e w3 ⟨rfl, h3⟩
    have r3 := h3.row
    have l3 : Below wD.heap.size wD w3 := l2.trans (h3.below.mono l2.size)
    have r23 := rowIs_below r2 h3.below (by omega)
    have bl3 : Below w.heap.size w w3 := (bl1.trans (bD.mono bl1.size)).trans (l3.mono (by have := bl1.size; have := bD.size; omega))
    clear h3 u0 u1 r2 l2 z2 l3 HTg B2 hTr bD elen
    go_wp2_with fail
    refine (cons_any (wD.heap.size + 1 + 1) n3 (cnt V 65535 t) t (fun i => hc V i t) w3 hn (by omega) r23 (total HV.out (fun i hi => (H.tbl.wf i hi).1))).mono ?_
    rintro e w' ⟨rfl, rfl⟩
    have q2 := cnt_le V 65535 t
    have QS : Hid (cnt (ins V k v) 65535 (t + 1) = cnt V 65535 t + if (v : Int) = 65535 then 1 else 0) := cnt_ins V k t v 65535 hkt
    go_wp2_with fail
    go_loopg [26] n3 (fun g i wx => ∃ s : Nat, s ≤ n3 ∧ g = n3 - s ∧ i = .int .i64 s ∧ ∃ nq, wx = w3.drewN nq)
    case atStart => exact ⟨0, Nat.zero_le _, rfl, rfl, 0, rfl⟩
    case round =>
      obtain ⟨s, hs, rfl, rfl, nq, rfl⟩ := hrel
      by_cases hlt : s < n3
      · have hlz : (s : Int) < (n3 : Int) := by omega
        have g1 : w3.cell? ⟨wD.heap.size + 1 + 1, s, none⟩ = some (.int .i64 (hc V s t : Nat)) := r23.cell hlt
        have g2 : w3.cell? ⟨w2.heap.size, s, none⟩ = some (.int .i64 (hc (ins V k v) s (t + 1) : Nat)) := r3.cell hlt
        have q3 := hc_le V s t
        rw [hc_ins V s k t v hkt] at g2
        rw [if_neg (by have := HVE.out; omega), Nat.add_zero] at g2
        go_wp2
        go_roundg (n3 - (s + 1))
        case measure => omega
        case rel =>
          go_light
          exact ⟨s + 1, by omega, rfl, by simp, _, rfl⟩
      · go_wp2
        go_ret
        have e : (((cnt (ins V k v) 65535 (t + 1) : Nat) : Int) == ((cnt V 65535 t : Nat) : Int) + 1) = true := by rw [QS.out, if_pos (by have := HVE.out; omega)]; simp
        exact ⟨congrArg (fun b => Ending.returned (.bool b)) e, below_drewN bl3 nq⟩
  · have e1 : ((v : Int) != 65535) = true := by simp; omega
    have e3 : ((v : Int) == 65535) = false := by simp; omega
    have e2 : decide (n3 ≤ v) = false := decide_eq_false (by omega)
    go_enter Try.func3, Try.ntmps3
    go_wp2_with (first | (go_at_call 6; refine k6.mono ?_; rintro e w' ⟨⟨b6, rfl⟩, rfl⟩) | (go_at_call 7; refine k7.mono ?_; rintro e w' ⟨⟨b7, rfl, h7⟩, rfl⟩; have H7 : Hid (b7 = true → n3 ≤ 1048576 ∧ t ≤ 1048576) := h7; clear h7))
    · go_ret
      exact ⟨rfl, Below.refl _ _⟩
    · go_ret
      exact ⟨rfl, Below.refl _ _⟩
    have hb7 : (!b7) = false := by assumption
    obtain ⟨hn, ht⟩ := H7.out (by simpa using hb7)
    clear k6 k7
    refine (valid_any a4 b4 o4 t c4 n3 V w ht H.tbl).mono ?_
    rintro e w' ⟨⟨b8, rfl, h8⟩, rfl⟩
    cases b8
    · go_wp2
      go_ret
      exact ⟨rfl, Below.refl _ _⟩
    have hv8 := h8 rfl
    have HV : Hid (Valid n3 t V) := hv8
    clear h8 hv8
    go_wp2_with fail
    refine (nodes_any a1 b1 o1 n3 c1 S1 a2 b2 o2 c2 S2 a3 b3 o3 c3 Wt w hn H.ids H.zones H.wat H.wts).mono ?_
    rintro e w1 ⟨rfl, bl1⟩
    have hT1 := H.tbl.below bl1
    have s1 := fun w => slice_front w a4 t c4 k hkt H.cap
    have s2 := fun w => slice_back w a4 t c4 k hkt
    have hno : a4 = none → t = 0 ∧ c4 = 0 := fun h => by
      refine ⟨?_, HN.out h⟩
      rcases Nat.eq_zero_or_pos t with h0 | h0
      · exact h0
      · have := H.tbl.at' h0
        rw [h] at this
        cases this
    have HNO : Hid (a4 = none → t = 0 ∧ c4 = 0) := hno
    have hno2 : restAt a4 c4 k = none → t - k = 0 ∧ c4 - k = 0 := fun h => by
      have : a4 = none := by
        unfold restAt at h
        split at h
        · exact h
        · simpa using h
      have := HNO.out this
      omega
    have HNO2 : Hid (restAt a4 c4 k = none → t - k = 0 ∧ c4 - k = 0) := hno2
    clear hno hno2
    go_wp2_with (first
      | (at_make; refine wpList_make_own _ rfl _ _ 24 rfl w1.heap.size 25 i0 (.int .u16 0) 1 Try.underlying24 hi hz0 hz1 _ _ _ (t + 1) rfl rfl (by omega) (by rw [hz2]; omega) (by unfold maxLen; omega) (Nat.le_refl _) ?_; intro wA hownA hgrowA; have bA := (Below.refl w1.heap.size w1).grown hgrowA (Nat.le_refl _) (fun k h => by cases h))
      | (at_builtin; refine wpList_append_fits_any _ rfl (.tmp 87) (.tmp 90) 24 rfl w1.heap.size 25 i0 1 Try.underlying24 hi hz1 w1.heap.size 0 (t + 1) _ rfl hownA _ k _ (cellsOf V k) rfl (by simp [cellsOf_len]) (fun h => ⟨by have := (HNO.out h).1; omega, (HNO.out h).2⟩) (tbl_news (tbl_front (hT1.below bA) hkt)) (cellsOf_one _ _) (by omega) ?_; intro wB hownB hgrowB; simp only [Nat.zero_add, List.nil_append] at hownB; have bB := bA.grown hgrowB bA.size (fun k hk => by cases hk; exact Nat.le_refl _))
      | (at_builtin; refine wpList_append_fits _ rfl (.tmp 92) (.tmp 94) 24 rfl w1.heap.size 25 i0 1 Try.underlying24 hi hz1 w1.heap.size k (t + 1) _ rfl (hownB.alloc _) ⟨wB.heap.size, 0, none⟩ 1 1 [.int .u16 v] rfl rfl (cell_one_new _ _ _) (by intro u hu; simp at hu; subst hu; rfl) (by omega) ?_; intro wC hownC hgrowC; have bC := (bB.alloc bB.size _).grown hgrowC (by simp; have := bB.size; omega) (fun k hk => by cases hk; exact Nat.le_refl _))
      | (at_builtin; refine wpList_append_fits_any _ rfl (.tmp 96) (.tmp 99) 24 rfl w1.heap.size 25 i0 1 Try.underlying24 hi hz1 w1.heap.size (k + 1) (t + 1) _ rfl hownC _ (t - k) _ (cellsOf (fun i => V (k + i)) (t - k)) rfl (by simp [cellsOf_len]) HNO2.out (tbl_news (tbl_back (hT1.below bC) H.cap hkt)) (cellsOf_one _ _) (by omega) ?_; intro wD hownD hgrowD; have bD := bC.grown hgrowD bC.size (fun k hk => by cases hk; exact Nat.le_refl _)))
    have hTg := tbl_grown hkt (by omega) v1 H.tbl.wf hownD
    have HTg : Hid (Tbl wD (some ⟨w1.heap.size, 0, none⟩) w1.heap.size 0 (t + 1) (ins V k v)) := hTg
    have elen : Hid (k + 1 + (t - k) = t + 1) := by show _ = _; omega
    have b2 : ∀ x y : Obj, Below wD.heap.size wD ((wD.alloc x).alloc y) := fun x y => ((Below.refl _ _).alloc (Nat.le_refl _) _).alloc (by simp) _
    have B2 : Hid (∀ x y : Obj, Below wD.heap.size wD ((wD.alloc x).alloc y)) := b2
    have hTr := hT1.below bD
    clear b2 hTg hownA hownB hownC hownD hgrowA hgrowB hgrowC hgrowD bA bB bC s1 s2 HNO HNO2 hi Hi hz0 hz1 hz2
    refine (held_any wD.heap.size (some ⟨w.heap.size, 0, none⟩) n3 n3 a4 b4 o4 t c4 V _ hn (by omega) (hTr.below (B2.out _ _)) HV.out ?_ ?_).mono ?_
    · exact (box2 _ _ _ _ _).1
    · exact (box2 _ _ _ _ _).1
    rintro e w2 ⟨rfl, h2⟩
    have r2 := h2.row
    have l2 : Below wD.heap.size wD w2 := (B2.out _ _).trans (h2.below.mono (by simp; omega))
    have u0 := (h2.below.cell (p := ⟨wD.heap.size + 1, 2, none⟩) (by simp)).trans (box2 _ _ _ _ _).2
    have u1 := (h2.below.cell (p := ⟨wD.heap.size + 1, 3, none⟩) (by simp)).trans (box2 _ _ _ _ _).2
    have z2 : wD.heap.size + 1 + 1 < w2.heap.size := by have := h2.size; simp at this; omega
    simp at u0 u1 r2
    rw [elen.out] at u1
    clear h2
    go_wp2_with fail
    refine (held_any (wD.heap.size + 1) (some ⟨w.heap.size, 0, none⟩) n3 n3 (some ⟨w1.heap.size, 0, none⟩) w1.heap.size 0 (t + 1) (t + 1) (ins V k v) w2 hn (by omega) (HTg.out.below l2) (valid_ins HV.out hkt HVN.out) u0 u1).mono ?_
    rintro e w3 ⟨rfl, h3⟩
    have r3 := h3.row
    have l3 : Below wD.heap.size wD w3 := l2.trans (h3.below.mono l2.size)
    have r23 := rowIs_below r2 h3.below (by omega)
    have bl3 : Below w.heap.size w w3 := (bl1.trans (bD.mono bl1.size)).trans (l3.mono (by have := bl1.size; have := bD.size; omega))
    clear h3 u0 u1 r2 l2 z2 l3 HTg B2 hTr bD elen
    go_wp2_with fail
    refine (cons_any (wD.heap.size + 1 + 1) n3 (cnt V 65535 t) t (fun i => hc V i t) w3 hn (by omega) r23 (total HV.out (fun i hi => (H.tbl.wf i hi).1))).mono ?_
    rintro e w' ⟨rfl, rfl⟩
    have q2 := cnt_le V 65535 t
    have QS : Hid (cnt (ins V k v) 65535 (t + 1) = cnt V 65535 t + if (v : Int) = 65535 then 1 else 0) := cnt_ins V k t v 65535 hkt
    go_wp2_with fail
    go_loopg [26] n3 (fun g i wx => ∃ s : Nat, s ≤ n3 ∧ g = n3 - s ∧ i = .int .i64 s ∧ ∃ nq, wx = w3.drewN nq)
    case atStart => exact ⟨0, Nat.zero_le _, rfl, rfl, 0, rfl⟩
    case round =>
      obtain ⟨s, hs, rfl, rfl, nq, rfl⟩ := hrel
      by_cases hlt : s < n3
      · have hlz : (s : Int) < (n3 : Int) := by omega
        have g1 : w3.cell? ⟨wD.heap.size + 1 + 1, s, none⟩ = some (.int .i64 (hc V s t : Nat)) := r23.cell hlt
        have g2 : w3.cell? ⟨w2.heap.size, s, none⟩ = some (.int .i64 (hc (ins V k v) s (t + 1) : Nat)) := r3.cell hlt
        have q3 := hc_le V s t
        rw [hc_ins V s k t v hkt] at g2
        by_cases e4 : s = v
        · have e4' : ((v : Int) == (s : Int)) = true := by simp; omega
          rw [if_pos ⟨by omega, by omega⟩] at g2
          clear e4
          go_wp2
          go_roundg (n3 - (s + 1))
          case measure => omega
          case rel =>
            go_light
            exact ⟨s + 1, by omega, rfl, by simp, _, rfl⟩
        · have e4' : ((v : Int) == (s : Int)) = false := by simp; omega
          rw [if_neg (by omega), Nat.add_zero] at g2
          clear e4
          go_wp2
          go_roundg (n3 - (s + 1))
          case measure => omega
          case rel =>
            go_light
            exact ⟨s + 1, by omega, rfl, by simp, _, rfl⟩
      · go_wp2
        go_ret
        have e : (((cnt (ins V k v) 65535 (t + 1) : Nat) : Int) == ((cnt V 65535 t : Nat) : Int)) = true := by rw [QS.out, if_neg (by omega)]; simp
        exact ⟨congrArg (fun b => Ending.returned (.bool b)) e, below_drewN bl3 nq⟩
end Go.Proofs.Qxb6621652a
