import Derived.Test.Qxb6619410aCanon
namespace Go.Proofs.Qxb6619410a
open Go.RowKit
attribute [local go_sem] run_add run_sub run_mul run_quo unary_negf run_store_float

set_option maxHeartbeats 1000000 in
theorem canon_short (ga : Option Addr) (m gc : Nat) (oa : Option Addr) (n oc : Nat) (ba : Option Addr) (nb bc : Nat) (L : Nat → Nat) (F : Nat → Nat → Nat) (O : Nat → Nat) (B : Nat → Int) (w : World) (hm : nb ≠ m) :
    Calls Try.prog 10 #[.slice ga m gc, .slice oa n oc, .slice ba nb bc, .int .i64 n, .int .i64 n] w fun e w' => CanonE m nb n L F O B e ∧ Below w.heap.size w w' := by
  have h1 : ((nb : Int) != (m : Int)) = true := by simp; omega
  go_enter Try.func10, Try.ntmps10
  go_wp2
  go_ret
  exact ⟨canon_no (fun h => hm h.1), Below.refl _ _⟩

set_option maxHeartbeats 4000000 in
theorem canon_full (ga : Option Addr) (gb go m gc : Nat) (A : Nat → Option Addr) (L C RB RO : Nat → Nat) (F : Nat → Nat → Nat) (oa : Option Addr) (ob oo n oc : Nat) (O : Nat → Nat) (ba : Option Addr) (bb bo bc : Nat) (B : Nat → Int) (w : World)
    (hm : m ≤ 1048576) (hn : n ≤ 1048576)
    (hga : 0 < m → ga = some ⟨gb, go, none⟩) (hrow : ∀ s, s < m → w.cell? ⟨gb, go + s, none⟩ = some (.slice (A s) (L s) (C s)))
    (hA : ∀ s, s < m → ∀ k, k < L s → A s = some ⟨RB s, RO s, none⟩ ∧ w.cell? ⟨RB s, RO s + k, none⟩ = some (.float .f64 (F s k)))
    (hoa : 0 < n → oa = some ⟨ob, oo, none⟩) (hO : ∀ k, k < n → w.cell? ⟨ob, oo + k, none⟩ = some (.float .f64 (O k)))
    (hba : 0 < m → ba = some ⟨bb, bo, none⟩) (hB : ∀ k, k < m → w.cell? ⟨bb, bo + k, none⟩ = some (.int .i64 (B k))) :
    Calls Try.prog 10 #[.slice ga m gc, .slice oa n oc, .slice ba m bc, .int .i64 n, .int .i64 n] w fun e w' => CanonE m m n L F O B e ∧ Below w.heap.size w w' := by
  have hmk := run_make_row' (P := Try.prog) 22 3 (.int .i64 0) 8 Try.underlying22 info3 rfl .i64 .i64 n (by omega) (by omega)
  go_enter Try.func10, Try.ntmps10
  go_wp2
  clear hmk
  -- the owners, all -1
  go_loopg [12] n (fun g i wr => ∃ k : Nat, k ≤ n ∧ g = n - k ∧ i = .int .i64 k ∧ Fill w wr 3 n k (fun _ => .int .i64 (-1)) (.int .i64 0))
  case atStart => exact ⟨0, Nat.zero_le _, rfl, rfl, fill_start w 3 n _ _⟩
  case round =>
    obtain ⟨k, hk, rfl, rfl, hF⟩ := hrel
    by_cases hlt : k < n
    · have hlz : (k : Int) < (n : Int) := by omega
      have g1 : wr.cell? ⟨w.heap.size, k, none⟩ = some (.int .i64 0) := by simpa using hF.row.cell hlt
      have g2 : wr.frozen? ⟨w.heap.size, k, none⟩ = false := hF.row.frozen k
      go_wp2
      go_roundg (n - (k + 1))
      case measure => omega
      case rel => exact ⟨k + 1, by omega, rfl, by simp, fill_step hF⟩
    obtain rfl : n = k := by omega
    have hO0 : Owned w wr n 0 B := owned_start hF
    clear hF hlt hk
    go_wp2
    -- the basis
    go_loopg [13] m (fun g i wx => ∃ s : Nat, s ≤ m ∧ g = m - s ∧ i = .int .i64 s ∧ Owned w wx n s B)
    case atStart => exact ⟨0, Nat.zero_le _, rfl, rfl, hO0⟩
    case round =>
      obtain ⟨s, hs, rfl, rfl, hW⟩ := hrel
      clear hO0
      by_cases hlt : s < m
      · obtain rfl := hba (by omega)
        have hlz : (s : Int) < (m : Int) := by omega
        have hbb : bb < w.heap.size := World.block_lt_of_cell? _ _ (hB s hlt)
        have g0 : wr.cell? ⟨bb, bo + s, none⟩ = some (.int .i64 (B s)) := by rw [hW.below.cell (p := ⟨bb, bo + s, none⟩) hbb]; exact hB s hlt
        by_cases h0 : B s < 0
        · go_wp2
          go_ret
          exact ⟨canon_no' (fun c => by have := c.lo s hlt; omega), hW.below⟩
        by_cases h1 : (n : Int) ≤ B s
        · go_wp2
          go_ret
          exact ⟨canon_no' (fun c => by have := c.hi s hlt; omega), hW.below⟩
        have g1 : wr.cell? ⟨w.heap.size, (B s).toNat, none⟩ = some (.int .i64 (own B s (B s).toNat)) := hW.row.cell (i := (B s).toNat) (by omega)
        have g2 : wr.frozen? ⟨w.heap.size, (B s).toNat, none⟩ = false := hW.row.frozen _
        by_cases h2 : 0 ≤ own B s (B s).toNat
        · go_wp2
          go_ret
          exact ⟨canon_no' (not_canon_dup hlt (by omega) h2), hW.below⟩
        · have h2' : own B s (B s).toNat < 0 := by omega
          go_wp2
          go_roundg (m - (s + 1))
          case measure => omega
          case rel => exact ⟨s + 1, by omega, rfl, by simp, owned_step hW (by omega) (by omega) h2'⟩
      obtain rfl : m = s := by omega
      clear hlt hs
      go_wp2
      have bl := hW.below
      have gd := hW.good
      have own0 : ∀ k, k < n → wr.cell? ⟨w.heap.size, k, none⟩ = some (.int .i64 (own B m k)) := fun k hk => hW.row.cell hk
      have hrow' : ∀ s, s < m → wr.cell? ⟨gb, go + s, none⟩ = some (.slice (A s) (L s) (C s)) := fun s hs => by
        rw [bl.cell (p := ⟨gb, go + s, none⟩) (World.block_lt_of_cell? _ _ (hrow s hs))]; exact hrow s hs
      have hA' : ∀ s, s < m → ∀ k, k < L s → A s = some ⟨RB s, RO s, none⟩ ∧ wr.cell? ⟨RB s, RO s + k, none⟩ = some (.float .f64 (F s k)) := fun s hs k hk =>
        ⟨(hA s hs k hk).1, by rw [bl.cell (p := ⟨RB s, RO s + k, none⟩) (World.block_lt_of_cell? _ _ (hA s hs k hk).2)]; exact (hA s hs k hk).2⟩
      have hO' : ∀ k, k < n → wr.cell? ⟨ob, oo + k, none⟩ = some (.float .f64 (O k)) := fun k hk => by
        rw [bl.cell (p := ⟨ob, oo + k, none⟩) (World.block_lt_of_cell? _ _ (hO k hk))]; exact hO k hk
      have Hown : Hid (∀ k, k < n → wr.cell? ⟨w.heap.size, k, none⟩ = some (.int .i64 (own B m k))) := own0
      have Hrow : Hid (∀ s, s < m → wr.cell? ⟨gb, go + s, none⟩ = some (.slice (A s) (L s) (C s))) := hrow'
      have HA : Hid (∀ s, s < m → ∀ k, k < L s → A s = some ⟨RB s, RO s, none⟩ ∧ wr.cell? ⟨RB s, RO s + k, none⟩ = some (.float .f64 (F s k))) := hA'
      have HO : Hid (∀ k, k < n → wr.cell? ⟨ob, oo + k, none⟩ = some (.float .f64 (O k))) := hO'
      clear hrow hA hO hB hW hba own0 hrow' hA' hO'
      -- the rows
      go_loopg [15] m (fun g i wx => ∃ s : Nat, s ≤ m ∧ g = m - s ∧ i = .int .i64 s ∧ (∀ t, t < s → L t = n ∧ RowOk m F B t n) ∧ wr = wx)
      case atStart => exact ⟨0, Nat.zero_le _, rfl, rfl, fun t ht => absurd ht (Nat.not_lt_zero _), rfl⟩
      case round =>
        obtain ⟨s, hs, rfl, rfl, hR, rfl⟩ := hrel
        by_cases hlt : s < m
        · obtain rfl := hga (by omega)
          have hlz : (s : Int) < (m : Int) := by omega
          have q0 := Hrow.out s hlt
          by_cases hL : L s = n
          · rw [hL] at q0
            have hA0 := HA.out s hlt
            rw [hL] at hA0
            have hA1 : Hid (∀ k, k < n → A s = some ⟨RB s, RO s, none⟩ ∧ wr.cell? ⟨RB s, RO s + k, none⟩ = some (.float .f64 (F s k))) := hA0
            clear hA0
            have HL : Hid (L s = n) := hL
            clear hL
            go_wp2
            go_loopg [16] n (fun g i wx => ∃ k : Nat, k ≤ n ∧ g = n - k ∧ i = .int .i64 k ∧ RowOk m F B s k ∧ wr = wx)
            case atStart => exact ⟨0, Nat.zero_le _, rfl, rfl, fun j hj => absurd hj (Nat.not_lt_zero _), rfl⟩
            case round =>
              obtain ⟨k, hk, rfl, rfl, hP, rfl⟩ := hrel
              by_cases hlk : k < n
              · have hlkz : (k : Int) < (n : Int) := by omega
                have p0 := Hown.out k hlk
                obtain ⟨pa, p1⟩ := hA1.out k hlk
                rw [pa] at q0
                clear pa
                by_cases hx : own B m k < 0
                · go_wp2
                  go_roundg (n - (k + 1))
                  case measure => omega
                  case rel => exact ⟨k + 1, by omega, rfl, by simp, rowOk_skip hP hx, rfl⟩
                · by_cases hxs : own B m k = s
                  · have hb : ((own B m k) == (s : Int)) = true := by simp [hxs]
                    have HX : Hid (own B m k = s) := hxs
                    have hx0 : 0 ≤ own B m k := by omega
                    clear hxs
                    cases hz : feq (F s k) one
                    · have hz' : (FloatKind.f64.format.order (F s k) 4607182418800017408 != some .eq) = true := by
                        have : (FloatKind.f64.format.order (F s k) 4607182418800017408 == some .eq) = false := hz
                        simp only [bne, this, Bool.not_false]
                      go_wp2
                      go_ret
                      exact ⟨canon_no' (not_canon_ent hlt hx0 (by rw [HX.out]; simpa using hz)), bl⟩
                    · have hz' : (FloatKind.f64.format.order (F s k) 4607182418800017408 != some .eq) = false := by
                        have : (FloatKind.f64.format.order (F s k) 4607182418800017408 == some .eq) = true := hz
                        simp only [bne, this, Bool.not_true]
                      go_wp2
                      go_roundg (n - (k + 1))
                      case measure => omega
                      case rel => exact ⟨k + 1, by omega, rfl, by simp, rowOk_one hP HX.out hz, rfl⟩
                  · have hb : ((own B m k) == (s : Int)) = false := by simp [hxs]
                    have hx0 : 0 ≤ own B m k := by omega
                    cases hz : feq (F s k) 0
                    · have hz' : (FloatKind.f64.format.order (F s k) 0 != some .eq) = true := by
                        have : (FloatKind.f64.format.order (F s k) 0 == some .eq) = false := hz
                        simp only [bne, this, Bool.not_false]
                      go_wp2
                      go_ret
                      exact ⟨canon_no' (not_canon_ent hlt hx0 (by rw [if_neg hxs]; exact hz)), bl⟩
                    · have hz' : (FloatKind.f64.format.order (F s k) 0 != some .eq) = false := by
                        have : (FloatKind.f64.format.order (F s k) 0 == some .eq) = true := hz
                        simp only [bne, this, Bool.not_true]
                      go_wp2
                      go_roundg (n - (k + 1))
                      case measure => omega
                      case rel => exact ⟨k + 1, by omega, rfl, by simp, rowOk_zero hP hxs hz, rfl⟩
              obtain rfl : n = k := by omega
              go_wp2
              go_roundg (m - (s + 1))
              case measure => omega
              case rel =>
                refine ⟨s + 1, by omega, rfl, by simp, fun t ht => ?_, rfl⟩
                rcases Nat.lt_or_eq_of_le (Nat.le_of_lt_succ ht) with h' | h'
                · exact hR t h'
                · subst h'; exact ⟨HL.out, hP⟩
          · have hLz : ((L s : Int) != (n : Int)) = true := by simp; omega
            go_wp2
            go_ret
            exact ⟨canon_no' (fun c => hL (c.len s hlt)), bl⟩
        obtain rfl : m = s := by omega
        clear hlt hs
        go_wp2
        -- the objective
        go_loopg [18] n (fun g i wx => ∃ k : Nat, k ≤ n ∧ g = n - k ∧ i = .int .i64 k ∧ (∀ j, j < k → 0 ≤ own B m j → feq (O j) 0 = true) ∧ wr = wx)
        case atStart => exact ⟨0, Nat.zero_le _, rfl, rfl, fun j hj => absurd hj (Nat.not_lt_zero _), rfl⟩
        case round =>
          obtain ⟨k, hk, rfl, rfl, hP, rfl⟩ := hrel
          by_cases hlk : k < n
          · obtain rfl := hoa (by omega)
            have hlkz : (k : Int) < (n : Int) := by omega
            have p0 := Hown.out k hlk
            have p1 := HO.out k hlk
            by_cases hx : 0 ≤ own B m k
            · cases hz : feq (O k) 0
              · have hz' : (FloatKind.f64.format.order (O k) 0 != some .eq) = true := by
                  have : (FloatKind.f64.format.order (O k) 0 == some .eq) = false := hz
                  simp only [bne, this, Bool.not_false]
                go_wp2
                go_ret
                exact ⟨canon_no' (not_canon_obj hx hz), bl⟩
              · have hz' : (FloatKind.f64.format.order (O k) 0 != some .eq) = false := by
                  have : (FloatKind.f64.format.order (O k) 0 == some .eq) = true := hz
                  simp only [bne, this, Bool.not_true]
                go_wp2
                go_roundg (n - (k + 1))
                case measure => omega
                case rel =>
                  refine ⟨k + 1, by omega, rfl, by simp, fun j hj h0 => ?_, rfl⟩
                  rcases Nat.lt_or_eq_of_le (Nat.le_of_lt_succ hj) with h' | h'
                  · exact hP j h' h0
                  · subst h'; exact hz
            · have hx' : own B m k < 0 := by omega
              go_wp2
              go_roundg (n - (k + 1))
              case measure => omega
              case rel =>
                refine ⟨k + 1, by omega, rfl, by simp, fun j hj h0 => ?_, rfl⟩
                rcases Nat.lt_or_eq_of_le (Nat.le_of_lt_succ hj) with h' | h'
                · exact hP j h' h0
                · subst h'; omega
          obtain rfl : n = k := by omega
          go_wp2
          go_ret
          exact ⟨canon_yes (canon_of gd (fun s hs => (hR s hs).1) (fun s hs => (hR s hs).2) hP), bl⟩
end Go.Proofs.Qxb6619410a
