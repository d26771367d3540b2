import Derived.Test.Qxb6621652aSplit
namespace Go.Proofs.Qxb6621652a
open Go.RowKit

set_option maxHeartbeats 2000000 in
theorem drop_walk (p q : Int) (a1 : Option Addr) (b1 o1 n1 c1 : Nat) (S1 : Nat → ByteArray) (a2 : Option Addr) (b2 o2 n2 c2 : Nat) (S2 : Nat → ByteArray) (a3 : Option Addr) (b3 o3 n3 c3 : Nat) (Wt : Nat → Nat) (a4 : Option Addr) (b4 o4 t c4 : Nat) (V : Nat → Int) (j : Int) (w : World)
    (H : Ring w a1 b1 o1 n1 S1 a2 b2 o2 n2 S2 a3 b3 o3 n3 Wt a4 b4 o4 t c4 V) :
    Calls Try.prog 5 #[.int .i64 p, .int .i64 q, .slice a1 n1 c1, .slice a2 n2 c2, .slice a3 n3 c3, .slice a4 t c4, .int .i64 j] w fun e w' => e = .returned (.bool true) ∧ Below w.heap.size w w' := by
  have k13 := bytes13_any p q a1 b1 o1 n1 c1 S1 a2 b2 o2 n2 c2 S2 a3 n3 c3 a4 t c4 j w H.m1 H.m2 H.ids H.zones
  have k7 := fit_any a1 b1 o1 n1 c1 S1 a2 b2 o2 n2 c2 S2 a3 n3 c3 a4 t c4 w H.ids H.zones
  by_cases x3 : n2 = n1
  case neg =>
    have x3' : ((n2 : Int) != (n1 : Int)) = true := by simp; omega
    go_enter Try.func5, Try.ntmps5
    go_wp2_with (first | (go_at_call 13; refine k13.mono ?_; rintro e w' ⟨⟨b13, rfl⟩, rfl⟩) | (go_at_call 7; refine k7.mono ?_; rintro e w' ⟨⟨b7, rfl, h7⟩, rfl⟩; clear h7))
    all_goals go_ret
    all_goals exact ⟨rfl, Below.refl _ _⟩
  by_cases x4 : n3 = n1
  case neg =>
    have x3' : ((n2 : Int) != (n1 : Int)) = false := by simp; omega
    have x4' : ((n3 : Int) != (n1 : Int)) = true := by simp; omega
    clear x3
    go_enter Try.func5, Try.ntmps5
    go_wp2_with (first | (go_at_call 13; refine k13.mono ?_; rintro e w' ⟨⟨b13, rfl⟩, rfl⟩) | (go_at_call 7; refine k7.mono ?_; rintro e w' ⟨⟨b7, rfl, h7⟩, rfl⟩; clear h7))
    all_goals go_ret
    all_goals exact ⟨rfl, Below.refl _ _⟩
  subst x3 x4
  by_cases x1 : j < 0
  · go_enter Try.func5, Try.ntmps5
    go_wp2_with (first | (go_at_call 13; refine k13.mono ?_; rintro e w' ⟨⟨b13, rfl⟩, rfl⟩) | (go_at_call 7; refine k7.mono ?_; rintro e w' ⟨⟨b7, rfl, h7⟩, rfl⟩; clear h7))
    all_goals go_ret
    all_goals exact ⟨rfl, Below.refl _ _⟩
  obtain ⟨j, rfl⟩ := Int.eq_ofNat_of_zero_le (show 0 ≤ j by omega)
  have d1 : decide ((j : Int) < 0) = false := decide_eq_false (by omega)
  by_cases x2 : n3 ≤ j
  · have d2 : decide (n3 ≤ j) = true := decide_eq_true x2
    clear x1
    go_enter Try.func5, Try.ntmps5
    go_wp2_with (first | (go_at_call 13; refine k13.mono ?_; rintro e w' ⟨⟨b13, rfl⟩, rfl⟩) | (go_at_call 7; refine k7.mono ?_; rintro e w' ⟨⟨b7, rfl, h7⟩, rfl⟩; clear h7))
    all_goals go_ret
    all_goals exact ⟨rfl, Below.refl _ _⟩
  have hjn : j < n3 := by omega
  have d2 : decide (n3 ≤ j) = false := decide_eq_false (by omega)
  clear x1 x2
  go_enter Try.func5, Try.ntmps5
  go_wp2_with (first | (go_at_call 13; refine k13.mono ?_; rintro e w' ⟨⟨b13, rfl⟩, rfl⟩) | (go_at_call 7; refine k7.mono ?_; rintro e w' ⟨⟨b7, rfl, h7⟩, rfl⟩; have H7 : Hid (b7 = true → n3 ≤ 1048576 ∧ t ≤ 1048576) := h7; clear h7))
  · go_ret
    exact ⟨rfl, Below.refl _ _⟩
  · go_ret
    exact ⟨rfl, Below.refl _ _⟩
  have hb7 : (!b7) = false := by assumption
  obtain ⟨hn, ht⟩ := H7.out (by simpa using hb7)
  clear k13 k7
  refine (valid_any a4 b4 o4 t c4 n3 V w ht H.tbl).mono ?_
  rintro e w' ⟨⟨b8, rfl, h8⟩, rfl⟩
  cases b8
  · go_wp2
    go_ret
    exact ⟨rfl, Below.refl _ _⟩
  have hv := h8 rfl
  have HV : Hid (Valid n3 t V) := hv
  clear h8 hv
  go_wp2_with fail
  refine (nodes_any a1 b1 o1 n3 c1 S1 a2 b2 o2 c2 S2 a3 b3 o3 c3 Wt w hn H.ids H.zones H.wat H.wts).mono ?_
  rintro e w1 ⟨rfl, bl1⟩
  have hT1 := H.tbl.below bl1
  have hmk := run_make_row' (P := Try.prog) 24 25 (.int .u16 0) 2 Try.underlying24 info25 rfl .i64 .i64 t (by omega) (by omega)
  go_wp2_with fail
  clear hmk
  go_loopg [18] t (fun g i wr => ∃ k : Nat, k ≤ t ∧ g = t - k ∧ i = .int .i64 k ∧ Fill w1 wr 25 t k (fun k => .int .u16 (drop V j k)) (.int .u16 0))
  case atStart => exact ⟨0, Nat.zero_le _, rfl, rfl, fill_start w1 25 t _ _⟩
  case round =>
    obtain ⟨k, hk, rfl, rfl, hF⟩ := hrel
    by_cases hlt : k < t
    · obtain rfl := hT1.at' (by omega)
      have hlz : (k : Int) < (t : Int) := by omega
      have g0 : wr.cell? ⟨b4, o4 + k, none⟩ = some (.int .u16 (V k)) := cell_later hF.below (hT1.cell k hlt)
      have g1 : wr.cell? ⟨w1.heap.size, k, none⟩ = some (.int .u16 0) := by simpa using hF.row.cell hlt
      have g2 : wr.frozen? ⟨w1.heap.size, k, none⟩ = false := hF.row.frozen k
      obtain ⟨v0, v1⟩ := H.tbl.wf k hlt
      by_cases e1 : V k = j
      · have e1' : ((V k) == (j : Int)) = true := by simp [e1]
        have E : Hid (V k = j) := e1
        clear e1
        go_wp2
        go_roundg (t - (k + 1))
        case measure => omega
        case rel =>
          go_light
          refine ⟨k + 1, by omega, rfl, by simp, ?_⟩
          have := fill_step hF
          simpa [drop, E.out] using this
      · have e1' : ((V k) == (j : Int)) = false := by simp [e1]
        go_wp2
        go_roundg (t - (k + 1))
        case measure => omega
        case rel =>
          go_light
          refine ⟨k + 1, by omega, rfl, by simp, ?_⟩
          have := fill_step hF
          simpa [drop, e1] using this
    obtain rfl : t = k := by omega
    go_wp2_with fail
    have lF : Below w1.heap.size w1 wr := hF.below
    have rF := fill_done hF
    have zF : w1.heap.size < wr.heap.size := by have := hF.size; omega
    have hTd : ∀ wx, Below wr.heap.size wr wx → Tbl wx (some ⟨w1.heap.size, 0, none⟩) w1.heap.size 0 t (drop V j) := fun wx hb =>
      ⟨fun _ => rfl, fun i hi => by have := (rowIs_below rF hb zF).cell hi; simpa using this, fun i hi => by have := H.tbl.wf i hi; unfold drop; split <;> omega⟩
    have HTd : Hid (∀ wx, Below wr.heap.size wr wx → Tbl wx (some ⟨w1.heap.size, 0, none⟩) w1.heap.size 0 t (drop V j)) := hTd
    have b2 : ∀ x y : Obj, Below wr.heap.size wr ((wr.alloc x).alloc y) := fun x y => ((Below.refl _ _).alloc (Nat.le_refl _) _).alloc (by simp) _
    have B2 : Hid (∀ x y : Obj, Below wr.heap.size wr ((wr.alloc x).alloc y)) := b2
    have hTr := hT1.below lF
    clear b2 hTd hF hlt hk rF
    refine (held_any wr.heap.size (some ⟨w.heap.size, 0, none⟩) n3 n3 a4 b4 o4 t c4 V _ hn (by omega) (hTr.below (B2.out _ _)) HV.out ?_ ?_).mono ?_
    · exact (box2 _ _ _ _ _).1
    · exact (box2 _ _ _ _ _).1
    rintro e w2 ⟨rfl, h2⟩
    have r2 := h2.row
    have l2 : Below wr.heap.size wr w2 := (B2.out _ _).trans (h2.below.mono (by simp; omega))
    have u0 := (h2.below.cell (p := ⟨wr.heap.size + 1, 2, none⟩) (by simp)).trans (box2 _ _ _ _ _).2
    have u1 := (h2.below.cell (p := ⟨wr.heap.size + 1, 3, none⟩) (by simp)).trans (box2 _ _ _ _ _).2
    have z2 : wr.heap.size + 1 + 1 < w2.heap.size := by have := h2.size; simp at this; omega
    simp at u0 u1 r2
    clear h2
    go_wp2_with fail
    refine (held_any (wr.heap.size + 1) (some ⟨w.heap.size, 0, none⟩) n3 n3 (some ⟨w1.heap.size, 0, none⟩) w1.heap.size 0 t t (drop V j) w2 hn (by omega) (HTd.out _ l2) (valid_drop HV.out) u0 u1).mono ?_
    rintro e w3 ⟨rfl, h3⟩
    have r3 := h3.row
    have l3 : Below wr.heap.size wr w3 := l2.trans (h3.below.mono l2.size)
    have r23 := rowIs_below r2 h3.below (by omega)
    have bl3 : Below w.heap.size w w3 := (bl1.trans (lF.mono bl1.size)).trans (l3.mono (by have := bl1.size; have := lF.size; omega))
    clear h3 u0 u1 r2 l2 z2 l3 HTd B2 hTr zF lF
    go_wp2_with fail
    refine (cons_any (wr.heap.size + 1 + 1) n3 (cnt V 65535 t) t (fun i => hc V i t) w3 hn (by omega) r23 (total HV.out (fun i hi => (H.tbl.wf i hi).1))).mono ?_
    rintro e w' ⟨rfl, rfl⟩
    have q2 := cnt_le V 65535 t
    have q3 := hc_le V j t
    have QS : Hid (cnt (drop V j) 65535 t = cnt V 65535 t + hc V j t) := cnt_drop_un V j t
    go_wp2_with fail
    go_loopg [26] n3 (fun g i wx => ∃ s : Nat, s ≤ n3 ∧ g = n3 - s ∧ i = .int .i64 s ∧ ∃ nq, wx = w3.drewN nq)
    case atStart => exact ⟨0, Nat.zero_le _, rfl, rfl, 0, rfl⟩
    case round =>
      obtain ⟨s, hs, rfl, rfl, nq, rfl⟩ := hrel
      by_cases hlt : s < n3
      · have hlz : (s : Int) < (n3 : Int) := by omega
        have g1 : w3.cell? ⟨wr.heap.size + 1 + 1, s, none⟩ = some (.int .i64 (hc V s t : Nat)) := r23.cell hlt
        have g2 : w3.cell? ⟨w2.heap.size, s, none⟩ = some (.int .i64 (hc (drop V j) s t : Nat)) := r3.cell hlt
        by_cases e1 : s = j
        · have e1' : ((s : Int) == (j : Int)) = true := by simp; omega
          rw [e1, hc_drop_j V j t, ← e1] at g2
          clear e1
          go_wp2
          go_roundg (n3 - (s + 1))
          case measure => omega
          case rel =>
            go_light
            exact ⟨s + 1, by omega, rfl, by simp, _, rfl⟩
        · have e1' : ((s : Int) == (j : Int)) = false := by simp; omega
          rw [hc_drop_i V s j t e1] at g2
          clear e1
          go_wp2
          go_region
          all_goals go_wp2
          all_goals
            go_roundg (n3 - (s + 1))
            case measure => omega
            case rel =>
              go_light
              exact ⟨s + 1, by omega, rfl, by simp, _, rfl⟩
      · have g1 : w3.cell? ⟨wr.heap.size + 1 + 1, j, none⟩ = some (.int .i64 (hc V j t : Nat)) := r23.cell hjn
        have hjz : (j : Int) < (n3 : Int) := by omega
        go_wp2
        go_ret
        have e : (((cnt (drop V j) 65535 t : Nat) : Int) == ((cnt V 65535 t : Nat) : Int) + ((hc V j t : Nat) : Int)) = true := by rw [QS.out]; simp
        exact ⟨congrArg (fun b => Ending.returned (.bool b)) e, below_drewN bl3 nq⟩
end Go.Proofs.Qxb6621652a
