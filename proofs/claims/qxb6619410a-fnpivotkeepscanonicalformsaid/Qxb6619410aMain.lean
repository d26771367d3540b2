import Derived.Test.Qxb6619410aLaw
namespace Go.Proofs.Qxb6619410a
open Go.RowKit
attribute [local go_sem] run_add run_sub run_mul run_quo unary_negf run_store_float

/-- What is known of the three slices that came in, in a world. -/
structure Args (w : World) (ga : Option Addr) (gb go m : Nat) (A : Nat → Option Addr) (L C RB RO : Nat → Nat) (F : Nat → Nat → Nat) (oa : Option Addr) (ob oo n : Nat) (O : Nat → Nat) (ba : Option Addr) (bb bo nb : Nat) (B : Nat → Int) : Prop where
  ga : 0 < m → ga = some ⟨gb, go, none⟩
  row : ∀ s, s < m → w.cell? ⟨gb, go + s, none⟩ = some (.slice (A s) (L s) (C s))
  ent : ∀ s, s < m → ∀ k, k < L s → A s = some ⟨RB s, RO s, none⟩ ∧ w.cell? ⟨RB s, RO s + k, none⟩ = some (.float .f64 (F s k))
  oa : 0 < n → oa = some ⟨ob, oo, none⟩
  obj : ∀ k, k < n → w.cell? ⟨ob, oo + k, none⟩ = some (.float .f64 (O k))
  ba : 0 < nb → ba = some ⟨bb, bo, none⟩
  bas : ∀ k, k < nb → w.cell? ⟨bb, bo + k, none⟩ = some (.int .i64 (B k))

theorem Args.below {w w' : World} {ga : Option Addr} {gb go m : Nat} {A : Nat → Option Addr} {L C RB RO : Nat → Nat} {F : Nat → Nat → Nat} {oa : Option Addr} {ob oo n : Nat} {O : Nat → Nat} {ba : Option Addr} {bb bo nb : Nat} {B : Nat → Int}
    (h : Args w ga gb go m A L C RB RO F oa ob oo n O ba bb bo nb B) (k : Below w.heap.size w w') : Args w' ga gb go m A L C RB RO F oa ob oo n O ba bb bo nb B :=
  ⟨h.ga, fun s hs => cell_later k (h.row s hs), fun s hs i hi => ⟨(h.ent s hs i hi).1, cell_later k (h.ent s hs i hi).2⟩, h.oa, fun i hi => cell_later k (h.obj i hi), h.ba, fun i hi => cell_later k (h.bas i hi)⟩

set_option maxHeartbeats 2000000 in
theorem walk (ga : Option Addr) (gb go m gc : Nat) (A : Nat → Option Addr) (L C RB RO : Nat → Nat) (F : Nat → Nat → Nat) (oa : Option Addr) (ob oo n oc : Nat) (O : Nat → Nat) (ba : Option Addr) (bb bo nb bc : Nat) (B : Nat → Int) (r j : Int) (w : World)
    (hm : m ≤ maxLen) (hn : n ≤ maxLen) (hnb : nb ≤ maxLen) (H : Args w ga gb go m A L C RB RO F oa ob oo n O ba bb bo nb B) :
    Calls Try.prog 4 #[.slice ga m gc, .slice oa n oc, .slice ba nb bc, .int .i64 r, .int .i64 j] w fun e w' => e = .returned (.bool true) ∧ Below w.heap.size w w' := by
  have c9 := bytes_any ga gb go m gc A L C oa n oc ba nb bc r j w hm H.ga H.row
  have c6 := fun t => rowsFit_any t ga gb go m gc A L C w hm H.ga H.row
  unfold maxLen at hm hn hnb
  by_cases hn1 : 1048576 < n
  · have hnz : (1048576 : Int) < (n : Int) := by omega
    go_enter Try.func4, Try.ntmps4
    go_wp2_with (go_at_call 9; refine c9.mono ?_; rintro e w' ⟨⟨b9, rfl⟩, rfl⟩)
    all_goals go_ret
    all_goals exact ⟨rfl, Below.refl _ _⟩
  have hnz : ¬ (1048576 : Int) < (n : Int) := by omega
  by_cases hb1 : 1048576 < nb
  · have hbz : (1048576 : Int) < (nb : Int) := by omega
    go_enter Try.func4, Try.ntmps4
    go_wp2_with (go_at_call 9; refine c9.mono ?_; rintro e w' ⟨⟨b9, rfl⟩, rfl⟩)
    all_goals go_ret
    all_goals exact ⟨rfl, Below.refl _ _⟩
  have hbz : ¬ (1048576 : Int) < (nb : Int) := by omega
  have d1 : decide ((1048576 : Int) < (n : Int)) = false := decide_eq_false hnz
  have d2 : decide ((1048576 : Int) < (nb : Int)) = false := decide_eq_false hbz
  go_enter Try.func4, Try.ntmps4
  go_wp2_with (first | (go_at_call 9; refine c9.mono ?_; rintro e w' ⟨⟨b9, rfl⟩, rfl⟩) | (go_at_call 6; refine (c6 _).mono ?_; rintro e w' ⟨⟨b6, rfl, h6⟩, rfl⟩; have H6 : Hid (b6 = true → m ≤ 1048576) := h6; clear h6))
  · go_ret
    exact ⟨rfl, Below.refl _ _⟩
  · go_ret
    exact ⟨rfl, Below.refl _ _⟩
  have hb6 : (!b6) = false := by assumption
  have hm1 : m ≤ 1048576 := H6.out (by simpa using hb6)
  have hn2 : n ≤ 1048576 := by omega
  clear c9 c6 hm hn hnb hn1 hb1 hnz hbz d1 d2
  by_cases hC : nb = m ∧ Canon m n L F O B
  case neg =>
    refine (canon_false ga gb go m gc A L C RB RO F oa ob oo n oc O ba bb bo nb bc B _ hm1 hn2 H.ga H.row H.ent H.oa H.obj H.ba H.bas hC).mono ?_
    rintro e w1 ⟨rfl, hb⟩
    go_wp2
    go_ret
    exact ⟨rfl, hb⟩
  obtain ⟨rfl, hC⟩ := hC
  refine (canon_true ga gb go nb gc A L C RB RO F oa ob oo n oc O ba bb bo bc B _ hm1 hn2 H.ga H.row H.ent H.oa H.obj H.ba H.bas hC).mono ?_
  rintro e w1 ⟨rfl, hb1⟩
  have H1 := H.below hb1
  go_wp2_with fail
  refine (pivotable_any ga gb go nb gc A C RB RO F oa ob oo n oc O ba bb bo bc B r j w1 hm1 hn2 H1.ga (fun s hs => by rw [H1.row s hs, hC.len s hs]) (fun s hs k hk => H1.ent s hs k (by rw [hC.len s hs]; exact hk)) H1.oa H1.obj H1.ba H1.bas).mono ?_
  rintro e w2 ⟨⟨b, rfl, hP⟩, q, hq⟩
  have hb2 : Below w'.heap.size w' w2 := by rw [hq]; exact below_drewN hb1 q
  clear hq q H1 hb1
  cases b
  · go_wp2
    go_ret
    exact ⟨rfl, hb2⟩
  have hP := hP rfl
  obtain ⟨r, rfl⟩ := Int.eq_ofNat_of_zero_le hP.1
  obtain ⟨j, rfl⟩ := Int.eq_ofNat_of_zero_le hP.2.2.1
  have hr : r < nb := by have := hP.2.1; omega
  have hj : j < n := by have := hP.2.2.2.1; omega
  have H2 := H.below hb2
  obtain rfl := H2.ga (by omega)
  obtain rfl := H2.oa (by omega)
  obtain rfl := H2.ba (by omega)
  have HP : Hid (Piv nb n (r : Int) (j : Int) F O B) := hP
  have HC : Hid (Canon nb n L F O B) := hC
  clear hP hC
  go_wp2_with fail
  refine (copyR gb go nb gc n C RB RO F w2 hm1 hn2 (fun s hs => by rw [H2.row s hs, HC.out.len s hs, (H2.ent s hs j (by rw [HC.out.len s hs]; exact hj)).1]) (fun s hs k hk => (H2.ent s hs k (by rw [HC.out.len s hs]; exact hk)).2)).mono ?_
  rintro e w3 ⟨rfl, h3⟩
  have b3 : Below w'.heap.size w' w3 := hb2.trans (h3.below.mono hb2.size)
  have H3 := H.below b3
  go_wp2_with fail
  refine (copyF ob oo n oc O w3 hn2 H3.obj).mono ?_
  rintro e w4 ⟨rfl, h4⟩
  have b4 : Below w'.heap.size w' w4 := b3.trans (h4.below.mono b3.size)
  have H4 := H.below b4
  go_wp2_with fail
  refine (copyI bb bo nb bc B w4 hm1 H4.bas).mono ?_
  rintro e w5 ⟨rfl, h5⟩
  have b5 : Below w'.heap.size w' w5 := b4.trans (h5.below.mono b4.size)
  have b35 : Below w3.heap.size w3 w5 := h4.below.trans (h5.below.mono h4.below.size)
  go_wp2_with fail
  have s3 := h3.size
  refine (copyR w2.heap.size 0 nb nb n (fun _ => n) (fun s => w2.heap.size + 1 + s) (fun _ => 0) F w5 hm1 hn2 (fun s hs => ?_) (fun s hs k hk => ?_)).mono ?_
  · have := (rowIs_below h3.top b35 (by omega)).cell hs
    simpa [topv, hs] using this
  · have := (rowIs_below (h3.done s hs) b35 (by omega)).cell hk
    simpa using this
  rintro e w6 ⟨rfl, h6⟩
  clear s3 H3 H4
  have b6 : Below w'.heap.size w' w6 := b5.trans (h6.below.mono b5.size)
  have b36 : Below w5.heap.size w5 w6 := h6.below
  go_wp2_with fail
  have s5 := h5.size
  have s4 := h4.size
  refine (copyF w3.heap.size 0 n n O w6 hn2 (fun k hk => ?_)).mono ?_
  · have := (rowIs_below (rowIs_below (fill_done h4) h5.below (by omega)) h6.below (by omega)).cell hk
    simpa using this
  rintro e w7 ⟨rfl, h7⟩
  clear s5 s4
  have b7 : Below w'.heap.size w' w7 := b6.trans (h7.below.mono b6.size)
  have bas7 : w7.rowIs w4.heap.size 3 nb (fun k => .int .i64 (B k)) := by
    have s5 := h5.size
    have s6 := h6.size
    exact rowIs_below (rowIs_below (fill_done h5) h6.below (by omega)) h7.below (by omega)
  go_wp2_with fail
  refine (copyI w4.heap.size 0 nb nb B w7 hm1 (fun k hk => ?_)).mono ?_
  · simpa using bas7.cell hk
  rintro e w8 ⟨rfl, h8⟩
  have b8 : Below w'.heap.size w' w8 := b7.trans (h8.below.mono b7.size)
  have hT := tab_made h6 h7 h8
  have o1 : w5.heap.size + nb < w6.heap.size := by have := h6.size; omega
  have o2 : w6.heap.size < w7.heap.size := by have := h7.size; omega
  have o3 : w7.heap.size < w8.heap.size := by have := h8.size; omega
  have o4 : w4.heap.size < w5.heap.size := by have := h5.size; omega
  have bas8 : w8.rowIs w4.heap.size 3 nb (fun k => .int .i64 (B k)) := rowIs_below bas7 h8.below (by omega)
  go_wp2_with fail
  refine (zzPivot_any w5.heap.size w6.heap.size w7.heap.size nb n r j F O B w8 hn2 hm1 hr hj o1 o2 o3 hT).mono ?_
  rintro e w9 ⟨rfl, F', O', hv, k9, hT'⟩
  have b9' : Below w'.heap.size w' w9 := b8.trans (k9.mono (by have := b5.size; omega))
  have bas9 : w9.rowIs w4.heap.size 3 nb (fun k => .int .i64 (B k)) := rowIs_below bas8 k9 (by omega)
  have hCa := canon_after HC.out HP.out hv
  have HCa : Hid (Canon nb n (fun _ => n) F' O' (fun k => if k = r then (j : Int) else B k)) := hCa
  clear hCa bas8 bas7 hT b8 b7 b6 b36 b35 b5 b4 b3 h8 h7 h6 h5 h4 h3 H2 hb2 H k9 o1 o2 o3 o4 hv
  go_wp2_with fail
  go_loopg [15] nb (fun g i wx => ∃ s : Nat, s ≤ nb ∧ g = nb - s ∧ i = .int .i64 s ∧ w9 = wx)
  case atStart => exact ⟨0, Nat.zero_le _, rfl, rfl, rfl⟩
  case round =>
    obtain ⟨s, hs, rfl, rfl, rfl⟩ := hrel
    by_cases hlt : s < nb
    · have hlz : (s : Int) < (nb : Int) := by omega
      have g0 : w9.cell? ⟨w4.heap.size, s, none⟩ = some (.int .i64 (B s)) := bas9.cell hlt
      by_cases hsr : s = r
      · have g1 : w9.cell? ⟨w7.heap.size, s, none⟩ = some (.int .i64 (j : Int)) := by have := hT'.bas.cell hlt; simpa [hsr] using this
        have e1 : ((s : Int) == (r : Int)) = true := by simp; omega
        clear hsr
        go_wp2
        go_roundg (nb - (s + 1))
        case measure => omega
        case rel => exact ⟨s + 1, by omega, rfl, by simp, rfl⟩
      · have g1 : w9.cell? ⟨w7.heap.size, s, none⟩ = some (.int .i64 (B s)) := by have := hT'.bas.cell hlt; simpa [hsr] using this
        have e1 : ((s : Int) == (r : Int)) = false := by simp; omega
        clear hsr
        go_wp2
        go_roundg (nb - (s + 1))
        case measure => omega
        case rel => exact ⟨s + 1, by omega, rfl, by simp, rfl⟩
    go_wp2_with fail
    refine (canon_true (some ⟨w5.heap.size, 0, none⟩) w5.heap.size 0 nb nb (fun s => some ⟨w5.heap.size + 1 + s, 0, none⟩) (fun _ => n) (fun _ => n) (fun s => w5.heap.size + 1 + s) (fun _ => 0) F'
      (some ⟨w6.heap.size, 0, none⟩) w6.heap.size 0 n n O' (some ⟨w7.heap.size, 0, none⟩) w7.heap.size 0 nb (fun k => if k = r then (j : Int) else B k) w9 hm1 hn2 (fun _ => rfl) (fun t ht => ?_) (fun t ht k hk => ⟨rfl, ?_⟩) (fun _ => rfl) (fun k hk => ?_) (fun _ => rfl) (fun k hk => ?_) HCa.out).mono ?_
    · have := hT'.top.cell ht
      simpa [topv, ht] using this
    · simpa using (hT'.row t ht).cell hk
    · simpa using hT'.obj.cell hk
    · simpa using hT'.bas.cell hk
    rintro e wz ⟨rfl, bz⟩
    go_wp2
    go_ret
    exact ⟨rfl, b9'.trans (bz.mono b9'.size)⟩
end Go.Proofs.Qxb6619410a
