import Derived.Test.Qxb6621652aPlain
namespace Go.Proofs.Qxb6621652a
open Go.RowKit

/-- What is known of the four slices that came in. -/
structure Ring (w : World) (a1 : Option Addr) (b1 o1 n1 : Nat) (S1 : Nat → ByteArray) (a2 : Option Addr) (b2 o2 n2 : Nat) (S2 : Nat → ByteArray) (a3 : Option Addr) (b3 o3 n3 : Nat) (Wt : Nat → Nat) (a4 : Option Addr) (b4 o4 t c4 : Nat) (V : Nat → Int) : Prop where
  ids : Strs w a1 b1 o1 n1 S1
  zones : Strs w a2 b2 o2 n2 S2
  wat : 0 < n3 → a3 = some ⟨b3, o3, none⟩
  wts : ∀ i, i < n3 → w.cell? ⟨b3, o3 + i, none⟩ = some (.float .f64 (Wt i))
  tbl : Tbl w a4 b4 o4 t V
  cap : t ≤ c4
  m1 : n1 ≤ maxLen
  m2 : n2 ≤ maxLen
  m4 : t ≤ maxLen

theorem slice_front (w : World) (a : Option Addr) (t c k : Nat) (hk : k ≤ t) (hc : t ≤ c) :
    (Instr.slice 24 (.slice a t c) none (some (.int .i64 (k : Int))) none).run Try.prog w = .ok (.slice a k c) w := by
  have := run_slice_h (P := Try.prog) (w := w) 24 a t c (by rw [Try.underlying24]; rfl) .i64 (k : Int) (by omega) (by omega)
  rw [this]
  simp [go_sem]

/-- Where the rest of the table begins. -/
def restAt (a : Option Addr) (c k : Nat) : Option Addr := if c = k then a else a.map (·.add k)

theorem slice_back (w : World) (a : Option Addr) (t c k : Nat) (hk : k ≤ t) :
    (Instr.slice 24 (.slice a t c) (some (.int .i64 (k : Int))) none none).run Try.prog w = .ok (.slice (restAt a c k) (t - k) (c - k)) w := by
  have := run_slice_l (P := Try.prog) (w := w) 24 a t c (by rw [Try.underlying24]; rfl) .i64 (k : Int) (by omega) (by omega)
  rw [this]
  simp [go_sem, restAt]

theorem tbl_front {w : World} {a : Option Addr} {b off t k : Nat} {V : Nat → Int} (h : Tbl w a b off t V) (hk : k ≤ t) : Tbl w a b off k V :=
  ⟨fun h0 => h.at' (by omega), fun i hi => h.cell i (by omega), fun i hi => h.wf i (by omega)⟩

theorem tbl_back {w : World} {a : Option Addr} {b off t c k : Nat} {V : Nat → Int} (h : Tbl w a b off t V) (hc : t ≤ c) (hk : k ≤ t) : Tbl w (restAt a c k) b (off + k) (t - k) (fun i => V (k + i)) :=
  ⟨fun h0 => by rw [h.at' (by omega)]; unfold restAt; rw [if_neg (by omega)]; simp [Addr.add], fun i hi => by rw [Nat.add_assoc]; exact h.cell (k + i) (by omega), fun i hi => h.wf (k + i) (by omega)⟩

theorem valid_front {n t k : Nat} {V : Nat → Int} (h : Valid n t V) (hk : k ≤ t) : Valid n k V := fun i hi => h i (by omega)
theorem valid_back {n t k : Nat} {V : Nat → Int} (h : Valid n t V) (hk : k ≤ t) : Valid n (t - k) (fun i => V (k + i)) := fun i hi => h (k + i) (by omega)

theorem box2 (w : World) (x y : Array Value) (t : TypeId) (i : Nat) :
    ((w.alloc (.cells x t)).alloc (.cells y t)).cell? ⟨w.heap.size, i, none⟩ = x[i]? ∧ ((w.alloc (.cells x t)).alloc (.cells y t)).cell? ⟨w.heap.size + 1, i, none⟩ = y[i]? := by
  constructor
  · rw [World.cell?_alloc_past _ _ _ (by simp), World.cell?_alloc_at _ _ _ _ rfl]
  · rw [World.cell?_alloc_at _ _ _ _ (by simp)]
theorem box3 (w : World) (x y z : Array Value) (t : TypeId) (i : Nat) :
    (((w.alloc (.cells x t)).alloc (.cells y t)).alloc (.cells z t)).cell? ⟨w.heap.size, i, none⟩ = x[i]? ∧ (((w.alloc (.cells x t)).alloc (.cells y t)).alloc (.cells z t)).cell? ⟨w.heap.size + 1, i, none⟩ = y[i]? ∧
      (((w.alloc (.cells x t)).alloc (.cells y t)).alloc (.cells z t)).cell? ⟨w.heap.size + 1 + 1, i, none⟩ = z[i]? := by
  refine ⟨?_, ?_, ?_⟩
  · rw [World.cell?_alloc_past _ _ _ (by simp; omega)]; exact (box2 w x y t i).1
  · rw [World.cell?_alloc_past _ _ _ (by simp)]; exact (box2 w x y t i).2
  · rw [World.cell?_alloc_at _ _ _ _ (by simp)]

set_option maxHeartbeats 2000000 in
theorem split_walk (p q : Int) (a1 : Option Addr) (b1 o1 n1 c1 : Nat) (S1 : Nat → ByteArray) (a2 : Option Addr) (b2 o2 n2 c2 : Nat) (S2 : Nat → ByteArray) (a3 : Option Addr) (b3 o3 n3 c3 : Nat) (Wt : Nat → Nat) (a4 : Option Addr) (b4 o4 t c4 : Nat) (V : Nat → Int) (cut : Int) (w : World)
    (H : Ring w a1 b1 o1 n1 S1 a2 b2 o2 n2 S2 a3 b3 o3 n3 Wt a4 b4 o4 t c4 V) :
    Calls Try.prog 4 #[.int .i64 p, .int .i64 q, .slice a1 n1 c1, .slice a2 n2 c2, .slice a3 n3 c3, .slice a4 t c4, .int .i64 cut] w fun e w' => e = .returned (.bool true) ∧ Below w.heap.size w w' := by
  have k12 := bytes12_any p q a1 b1 o1 n1 c1 S1 a2 b2 o2 n2 c2 S2 a3 n3 c3 a4 t c4 cut w H.m1 H.m2 H.ids H.zones
  have k7 := fit_any a1 b1 o1 n1 c1 S1 a2 b2 o2 n2 c2 S2 a3 n3 c3 a4 t c4 w H.ids H.zones
  by_cases x1 : cut < 0
  · go_enter Try.func4, Try.ntmps4
    go_wp2_with (first | (go_at_call 12; refine k12.mono ?_; rintro e w' ⟨⟨b12, rfl⟩, rfl⟩) | (go_at_call 7; refine k7.mono ?_; rintro e w' ⟨⟨b7, rfl, h7⟩, rfl⟩; clear h7))
    all_goals go_ret
    all_goals exact ⟨rfl, Below.refl _ _⟩
  by_cases x2 : (t : Int) < cut
  · go_enter Try.func4, Try.ntmps4
    go_wp2_with (first | (go_at_call 12; refine k12.mono ?_; rintro e w' ⟨⟨b12, rfl⟩, rfl⟩) | (go_at_call 7; refine k7.mono ?_; rintro e w' ⟨⟨b7, rfl, h7⟩, rfl⟩; clear h7))
    all_goals go_ret
    all_goals exact ⟨rfl, Below.refl _ _⟩
  by_cases x3 : n2 = n1
  case neg =>
    have x3' : ((n2 : Int) != (n1 : Int)) = true := by simp; omega
    go_enter Try.func4, Try.ntmps4
    go_wp2_with (first | (go_at_call 12; refine k12.mono ?_; rintro e w' ⟨⟨b12, rfl⟩, rfl⟩) | (go_at_call 7; refine k7.mono ?_; rintro e w' ⟨⟨b7, rfl, h7⟩, rfl⟩; clear h7))
    all_goals go_ret
    all_goals exact ⟨rfl, Below.refl _ _⟩
  by_cases x4 : n3 = n1
  case neg =>
    have x3' : ((n2 : Int) != (n1 : Int)) = false := by simp; omega
    have x4' : ((n3 : Int) != (n1 : Int)) = true := by simp; omega
    clear x3
    go_enter Try.func4, Try.ntmps4
    go_wp2_with (first | (go_at_call 12; refine k12.mono ?_; rintro e w' ⟨⟨b12, rfl⟩, rfl⟩) | (go_at_call 7; refine k7.mono ?_; rintro e w' ⟨⟨b7, rfl, h7⟩, rfl⟩; clear h7))
    all_goals go_ret
    all_goals exact ⟨rfl, Below.refl _ _⟩
  subst x3 x4
  obtain ⟨k, rfl⟩ := Int.eq_ofNat_of_zero_le (show 0 ≤ cut by omega)
  have hkt : k ≤ t := by omega
  have d1 : decide ((k : Int) < 0) = false := decide_eq_false (by omega)
  have d2 : decide (t < k) = false := decide_eq_false (by omega)
  clear x1 x2
  go_enter Try.func4, Try.ntmps4
  go_wp2_with (first | (go_at_call 12; refine k12.mono ?_; rintro e w' ⟨⟨b12, rfl⟩, rfl⟩) | (go_at_call 7; refine k7.mono ?_; rintro e w' ⟨⟨b7, rfl, h7⟩, rfl⟩; have H7 : Hid (b7 = true → n3 ≤ 1048576 ∧ t ≤ 1048576) := h7; clear h7))
  · go_ret
    exact ⟨rfl, Below.refl _ _⟩
  · go_ret
    exact ⟨rfl, Below.refl _ _⟩
  have hb7 : (!b7) = false := by assumption
  obtain ⟨hn, ht⟩ := H7.out (by simpa using hb7)
  clear k12 k7
  refine (valid_any a4 b4 o4 t c4 n3 V w ht H.tbl).mono ?_
  rintro e w' ⟨⟨b8, rfl, h8⟩, rfl⟩
  cases b8
  · go_wp2
    go_ret
    exact ⟨rfl, Below.refl _ _⟩
  have hv := h8 rfl
  have HV : Hid (Valid n3 t V) := hv
  clear h8 hv
  go_wp2_with fail
  refine (nodes_any a1 b1 o1 n3 c1 S1 a2 b2 o2 c2 S2 a3 b3 o3 c3 Wt w hn H.ids H.zones H.wat H.wts).mono ?_
  rintro e w1 ⟨rfl, bl1⟩
  have s1 := fun w => slice_front w a4 t c4 k hkt H.cap
  have s2 := fun w => slice_back w a4 t c4 k hkt
  go_wp2_with fail
  clear s1 s2
  have hT1 := H.tbl.below bl1
  have b3 : ∀ x y z : Obj, Below w1.heap.size w1 (((w1.alloc x).alloc y).alloc z) := fun x y z => (((Below.refl _ _).alloc (Nat.le_refl _) _).alloc (by simp) _).alloc (by simp; omega) _
  have B3 : Hid (∀ x y z : Obj, Below w1.heap.size w1 (((w1.alloc x).alloc y).alloc z)) := b3
  clear b3
  refine (held_any w1.heap.size (some ⟨w.heap.size, 0, none⟩) n3 n3 a4 b4 o4 t c4 V _ hn (by omega) (hT1.below (B3.out _ _ _)) HV.out ?_ ?_).mono ?_
  · exact (box3 _ _ _ _ _ _).1
  · exact (box3 _ _ _ _ _ _).1
  rintro e w2 ⟨rfl, h2⟩
  have r2 := h2.row
  have l2 : Below w1.heap.size w1 w2 := (B3.out _ _ _).trans (h2.below.mono (by simp; omega))
  have u0 := (h2.below.cell (p := ⟨w1.heap.size + 1, 2, none⟩) (by simp)).trans (box3 _ _ _ _ _ _).2.1
  have u1 := (h2.below.cell (p := ⟨w1.heap.size + 1, 3, none⟩) (by simp)).trans (box3 _ _ _ _ _ _).2.1
  have u2 := (h2.below.cell (p := ⟨w1.heap.size + 1 + 1, 2, none⟩) (by simp)).trans (box3 _ _ _ _ _ _).2.2
  have u3 := (h2.below.cell (p := ⟨w1.heap.size + 1 + 1, 3, none⟩) (by simp)).trans (box3 _ _ _ _ _ _).2.2
  have z2 : w1.heap.size + 1 + 1 + 1 < w2.heap.size := by have := h2.size; simp at this; omega
  simp at u0 u1 u2 u3 r2
  clear h2
  go_wp2_with fail
  refine (held_any (w1.heap.size + 1) (some ⟨w.heap.size, 0, none⟩) n3 n3 a4 b4 o4 k c4 V w2 hn (by omega) (tbl_front (hT1.below l2) hkt) (valid_front HV.out hkt) u0 u1).mono ?_
  rintro e w3 ⟨rfl, h3⟩
  have r3 := h3.row
  have l3 : Below w1.heap.size w1 w3 := l2.trans (h3.below.mono l2.size)
  have r23 := rowIs_below r2 h3.below (by omega)
  have v2 := (h3.below.cell (p := ⟨w1.heap.size + 1 + 1, 2, none⟩) (by show w1.heap.size + 1 + 1 < w2.heap.size; omega)).trans u2
  have v3 := (h3.below.cell (p := ⟨w1.heap.size + 1 + 1, 3, none⟩) (by show w1.heap.size + 1 + 1 < w2.heap.size; omega)).trans u3
  have z3 : w2.heap.size < w3.heap.size := by have := h3.size; omega
  clear h3 u0 u1 u2 u3 r2
  go_wp2_with fail
  refine (held_any (w1.heap.size + 1 + 1) (some ⟨w.heap.size, 0, none⟩) n3 n3 (restAt a4 c4 k) b4 (o4 + k) (t - k) (c4 - k) (fun i => V (k + i)) w3 hn (by omega) (tbl_back (hT1.below l3) H.cap hkt) (valid_back HV.out hkt) v2 v3).mono ?_
  rintro e w4 ⟨rfl, h4⟩
  have r4 := h4.row
  have l4 : Below w1.heap.size w1 w4 := l3.trans (h4.below.mono l3.size)
  have r24 := rowIs_below r23 h4.below (by omega)
  have r34 := rowIs_below r3 h4.below (by omega)
  have bl4 : Below w.heap.size w w4 := bl1.trans (l4.mono bl1.size)
  clear h4 v2 v3 r23 r3 l2 l3 z2 z3 B3 hT1
  go_wp2_with fail
  refine (cons_any (w1.heap.size + 1 + 1 + 1) n3 (cnt V 65535 t) t (fun i => hc V i t) w4 hn (by omega) r24 (total HV.out (fun i hi => (H.tbl.wf i hi).1))).mono ?_
  rintro e w' ⟨rfl, rfl⟩
  have q2 := cnt_le V 65535 k
  have q3 := cnt_le (fun i => V (k + i)) 65535 (t - k)
  have QS : Hid (cnt V 65535 t = cnt V 65535 k + cnt (fun i => V (k + i)) 65535 (t - k)) := by
    have := cnt_split V 65535 k (t - k)
    rw [Nat.add_sub_cancel' hkt] at this
    exact this
  go_wp2_with fail
  go_loopg [26] n3 (fun g i wx => ∃ s : Nat, s ≤ n3 ∧ g = n3 - s ∧ i = .int .i64 s ∧ ∃ nq, wx = w4.drewN nq)
  case atStart => exact ⟨0, Nat.zero_le _, rfl, rfl, 0, rfl⟩
  case round =>
    obtain ⟨s, hs, rfl, rfl, nq, rfl⟩ := hrel
    by_cases hlt : s < n3
    · have hlz : (s : Int) < (n3 : Int) := by omega
      have g1 : w4.cell? ⟨w1.heap.size + 1 + 1 + 1, s, none⟩ = some (.int .i64 (hc V s t : Nat)) := r24.cell hlt
      have g2 : w4.cell? ⟨w2.heap.size, s, none⟩ = some (.int .i64 (hc V s k : Nat)) := r34.cell hlt
      have g3 : w4.cell? ⟨w3.heap.size, s, none⟩ = some (.int .i64 (hc (fun i => V (k + i)) s (t - k) : Nat)) := r4.cell hlt
      have hsum : hc V s t = hc V s k + hc (fun i => V (k + i)) s (t - k) := by
        have := hc_split V s k (t - k)
        rw [Nat.add_sub_cancel' hkt] at this
        exact this
      rw [hsum] at g1
      have p1 := hc_le V s k
      have p2 := hc_le (fun i => V (k + i)) s (t - k)
      clear hsum
      go_wp2
      go_region
      all_goals go_wp2
      all_goals
        go_roundg (n3 - (s + 1))
        case measure => omega
        case rel =>
          go_light
          exact ⟨s + 1, by omega, rfl, by simp, _, rfl⟩
    · go_wp2
      go_ret
      have e : (((cnt V 65535 t : Nat) : Int) == ((cnt V 65535 k : Nat) : Int) + ((cnt (fun i => V (k + i)) 65535 (t - k) : Nat) : Int)) = true := by rw [QS.out]; simp
      exact ⟨congrArg (fun b => Ending.returned (.bool b)) e, below_drewN bl4 nq⟩
end Go.Proofs.Qxb6621652a
