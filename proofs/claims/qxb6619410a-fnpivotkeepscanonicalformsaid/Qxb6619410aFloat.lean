import Derived.Test.Qxb6619410aPivable
namespace Go.Proofs.Qxb6619410a
open Go.RowKit

/-! ### What a word reads as. The double's numbers, written out. -/
theorem d_sw : Ieee.double.signWeight = 9223372036854775808 := by decide
theorem d_bin : Ieee.double.binade = 4503599627370496 := by decide
theorem d_inf : Ieee.double.infRung = 9218868437227405312 := by decide
theorem d_least : Ieee.double.leastPlace = -1074 := by decide

theorem f64_is : FloatKind.f64.format = Ieee.double := rfl

/-- The word reads as a zero. -/
def Zero (x : Nat) : Prop := ∃ s e, Ieee.double.read x = .number s 0 e
/-- The word reads as a number. -/
def Num (x : Nat) : Prop := ∃ s m e, Ieee.double.read x = .number s m e

theorem read_zero : Ieee.double.read 0 = .number false 0 (-1074) := by decide
theorem read_one : Ieee.double.read one = .number false 4503599627370496 (-52) := by decide

theorem signed_zero (s : Bool) (up : Nat) : Ieee.signed s 0 up = 0 := by
  cases s <;> simp [Ieee.signed]

theorem signed_eq_zero (s : Bool) (m up : Nat) (h : Ieee.signed s m up = 0) : m = 0 := by
  have h2 : m <<< up = 0 := by
    cases s <;> simp [Ieee.signed] at h <;> simpa using h
  rw [Nat.shiftLeft_eq] at h2
  rcases Nat.mul_eq_zero.1 h2 with h | h
  · exact h
  · have := Nat.two_pow_pos up; omega

theorem zero_of_feq {x : Nat} (h : feq x 0 = true) : Zero x := by
  unfold feq at h
  rw [f64_is, beq_iff_eq, Ieee.Format.order, read_zero] at h
  cases hx : Ieee.double.read x with
  | number s m i =>
    rw [hx] at h
    simp only [Ieee.Datum.order, signed_zero, Option.some.injEq, Int.compare_eq_eq] at h
    have := signed_eq_zero _ _ _ h
    subst this
    exact ⟨s, i, hx⟩
  | infinity s => rw [hx] at h; cases s <;> simp [Ieee.Datum.order] at h
  | nan s t => rw [hx] at h; simp [Ieee.Datum.order] at h

theorem feq_of_zero {x : Nat} (h : Zero x) : feq x 0 = true := by
  obtain ⟨s, e, h⟩ := h
  unfold feq
  rw [f64_is, beq_iff_eq, Ieee.Format.order, read_zero, h]
  simp only [Ieee.Datum.order, signed_zero, Option.some.injEq, Int.compare_eq_eq]

theorem read_word_zero (neg : Bool) : ∃ s e, Ieee.double.read (Ieee.double.word neg 0) = .number s 0 e := by
  cases neg
  · exact ⟨false, -1074, by decide⟩
  · exact ⟨true, -1074, by decide⟩

theorem write_zero (s : Bool) (e : Int) : Zero (Ieee.double.write (.number s 0 e)) := by
  show Zero (Ieee.double.nearest s 0 e)
  unfold Ieee.Format.nearest
  rw [if_pos rfl]
  exact read_word_zero s

/-- A NaN off the tape. -/
theorem nan_read (t : Nat) : ∃ s f, Ieee.double.read ((t % 2) * 2 ^ 63 + 0x7ff0000000000000 + 1 + (t / 2) % (2 ^ 52 - 1)) = .nan s f := by
  have h : ((t % 2) * 2 ^ 63 + 0x7ff0000000000000 + 1 + (t / 2) % (2 ^ 52 - 1)) % 9223372036854775808 = 0x7ff0000000000000 + 1 + (t / 2) % (2 ^ 52 - 1) := by omega
  have hx : (t / 2) % (2 ^ 52 - 1) < 2 ^ 52 - 1 := Nat.mod_lt _ (by decide)
  unfold Ieee.Format.read
  simp only [d_sw, d_bin, d_inf, h]
  rw [if_neg (by omega), if_neg (by omega), if_neg (by omega)]
  exact ⟨_, _, rfl⟩

theorem feq_nan {x y : Nat} {s : Bool} {f : Nat} (h : Ieee.double.read x = .nan s f) : feq x y = false := by
  unfold feq
  rw [f64_is, Ieee.Format.order, h]
  cases Ieee.double.read y <;> rfl

/-- x - x == 0: x is a number. -/
theorem num_of_fin {x : Nat} (h : Fin0 x) : Num x := by
  obtain ⟨r, ⟨h1, h2⟩, h3⟩ := h
  have none_no : floatBits .sub .f64 x x ≠ none := fun hn => by
    obtain ⟨t, ht⟩ := h2 hn
    obtain ⟨s, f, hr⟩ := nan_read t
    rw [← ht] at hr
    rw [feq_nan hr] at h3
    cases h3
  cases hx : Ieee.double.read x with
  | number s m i => exact ⟨s, m, i, hx⟩
  | infinity s =>
    refine absurd ?_ none_no
    simp only [floatBits, f64_is, Ieee.Format.sub, hx, Ieee.Datum.opposite, Ieee.Datum.sum]
    cases s <;> rfl
  | nan s t =>
    refine absurd ?_ none_no
    simp only [floatBits, f64_is, Ieee.Format.sub, hx, Ieee.Datum.opposite, Ieee.Datum.sum]
    rfl

theorem num_neg {x : Nat} (h : Num x) : Num (Op.negFloat .f64 x) := by
  have hm : (x ^^^ 9223372036854775808) % 9223372036854775808 = x % 9223372036854775808 := by
    have := Nat.xor_mod_two_pow (a := x) (b := 9223372036854775808) (n := 63)
    have e : (2 : Nat) ^ 63 = 9223372036854775808 := by decide
    rw [e] at this
    rw [this]
    simp
  have hn : Op.negFloat .f64 x = x ^^^ 9223372036854775808 := rfl
  obtain ⟨s, m, e, h⟩ := h
  unfold Num
  rw [hn]
  unfold Ieee.Format.read at h ⊢
  simp only [d_sw, d_bin, d_inf, hm] at h ⊢
  by_cases h1 : x % 9223372036854775808 < 4503599627370496
  · rw [if_pos h1]; exact ⟨_, _, _, rfl⟩
  · rw [if_neg h1] at h ⊢
    by_cases h2 : x % 9223372036854775808 < 9218868437227405312
    · rw [if_pos h2]; exact ⟨_, _, _, rfl⟩
    · rw [if_neg h2] at h
      by_cases h3 : x % 9223372036854775808 = 9218868437227405312
      · rw [if_pos h3] at h; cases h
      · rw [if_neg h3] at h; cases h

/-- Zero divided by a number that is not zero. -/
theorem quo_zero {x p r : Nat} (hx : Zero x) (hp : Num p) (hp0 : feq p 0 = false) (h : FOp .quo x p r) : Zero r := by
  obtain ⟨s, e, hx⟩ := hx
  obtain ⟨t, n, j, hp'⟩ := hp
  have hn : n ≠ 0 := fun e => by
    subst e
    rw [feq_of_zero ⟨t, j, hp'⟩] at hp0
    cases hp0
  have hb : ∃ d, floatBits .quo .f64 x p = some (Ieee.double.write (.number (s ^^ t) 0 d)) := by
    simp only [floatBits, f64_is, Ieee.Format.div, hx, hp', Ieee.Datum.quotient]
    rw [if_neg hn]
    simp only [Nat.zero_shiftLeft, Nat.zero_div, Nat.zero_mod, Nat.mul_zero, bne_self_eq_false, Bool.toNat_false, Option.map_some]
    exact ⟨_, rfl⟩
  obtain ⟨d, hb⟩ := hb
  rw [h.1 _ hb]
  exact write_zero _ _

/-- A number times zero. -/
theorem mul_zero {x p r : Nat} (hx : Num x) (hp : Zero p) (h : FOp .mul x p r) : Zero r := by
  obtain ⟨s, m, e, hx⟩ := hx
  obtain ⟨t, j, hp⟩ := hp
  have hb : floatBits .mul .f64 x p = some (Ieee.double.write (.number (s ^^ t) 0 (e + j))) := by
    simp only [floatBits, f64_is, Ieee.Format.mul, hx, hp, Ieee.Datum.product, Nat.mul_zero, Option.map_some]
  rw [h.1 _ hb]
  exact write_zero _ _

/-- Zero and zero. -/
theorem add_zero_zero {x p r : Nat} (hx : Zero x) (hp : Zero p) (h : FOp .add x p r) : Zero r := by
  obtain ⟨s, e, hx⟩ := hx
  obtain ⟨t, j, hp⟩ := hp
  have hb : ∃ u d, floatBits .add .f64 x p = some (Ieee.double.write (.number u 0 d)) := by
    simp only [floatBits, f64_is, Ieee.Format.add, hx, hp, Ieee.Datum.sum, signed_zero, Int.add_zero, Int.natAbs_zero, Option.map_some]
    exact ⟨_, _, rfl⟩
  obtain ⟨u, d, hb⟩ := hb
  rw [h.1 _ hb]
  exact write_zero _ _

theorem one_core (s : Bool) (m : Nat) (i : Int) (hm : m < 9007199254740992) (hm' : 4503599627370496 ≤ m ∨ i < -52)
    (h : Ieee.signed s m (i - min i (-52)).toNat = Ieee.signed false 4503599627370496 (-52 - min i (-52)).toNat) : s = false ∧ m = 4503599627370496 ∧ i = -52 := by
  have hpos : ∀ b, 4503599627370496 ≤ 4503599627370496 <<< b := fun b => by
    rw [Nat.shiftLeft_eq]
    exact Nat.le_mul_of_pos_right _ (Nat.two_pow_pos b)
  cases s with
  | true =>
    have := hpos (-52 - min i (-52)).toNat
    simp only [Ieee.signed, if_true, Bool.false_eq_true, if_false] at h
    generalize m <<< (i - min i (-52)).toNat = u at h
    generalize 4503599627370496 <<< (-52 - min i (-52)).toNat = v at h this
    omega
  | false =>
    simp only [Ieee.signed, Bool.false_eq_true, if_false] at h
    have h2 : m <<< (i - min i (-52)).toNat = 4503599627370496 <<< (-52 - min i (-52)).toNat := Int.ofNat_inj.1 h
    by_cases hi : i < -52
    · exfalso
      have e1 : (i - min i (-52)).toNat = 0 := by omega
      obtain ⟨b, e2⟩ : ∃ b, (-52 - min i (-52)).toNat = b + 1 := ⟨(-52 - min i (-52)).toNat - 1, by omega⟩
      rw [e1, e2, Nat.shiftLeft_zero, Nat.shiftLeft_succ] at h2
      have := hpos b
      omega
    · have e1 : (-52 - min i (-52)).toNat = 0 := by omega
      have e3 : (i - min i (-52)).toNat = (i + 52).toNat := by omega
      rw [e1, e3, Nat.shiftLeft_zero] at h2
      cases ha : (i + 52).toNat with
      | zero =>
        rw [ha, Nat.shiftLeft_zero] at h2
        exact ⟨rfl, h2, by omega⟩
      | succ a =>
        exfalso
        rw [ha, Nat.shiftLeft_succ] at h2
        have : m ≤ m <<< a := by rw [Nat.shiftLeft_eq]; exact Nat.le_mul_of_pos_right _ (Nat.two_pow_pos a)
        omega

/-- What equals 1 reads as 1 does. -/
theorem one_of_feq {x : Nat} (h : feq x one = true) : Ieee.double.read x = .number false 4503599627370496 (-52) := by
  unfold feq at h
  rw [f64_is, beq_iff_eq, Ieee.Format.order, read_one] at h
  have core : ∀ s m i, Ieee.double.read x = .number s m i → m < 9007199254740992 → (4503599627370496 ≤ m ∨ i < -52) → Ieee.double.read x = .number false 4503599627370496 (-52) := fun s m i hx h1 h2 => by
    rw [hx] at h ⊢
    simp only [Ieee.Datum.order, Option.some.injEq, Int.compare_eq_eq] at h
    obtain ⟨a, b, c⟩ := one_core s m i h1 h2 h
    rw [a, b, c]
  by_cases h1 : x % 9223372036854775808 < 4503599627370496
  · refine core (x / 9223372036854775808 % 2 == 1) (x % 9223372036854775808) (-1074) ?_ (by omega) (.inr (by omega))
    unfold Ieee.Format.read
    simp only [d_sw, d_bin, d_least]
    rw [if_pos h1]
  · by_cases h2 : x % 9223372036854775808 < 9218868437227405312
    · refine core (x / 9223372036854775808 % 2 == 1) (4503599627370496 + x % 9223372036854775808 % 4503599627370496) (-1074 + (x % 9223372036854775808 / 4503599627370496 - 1 : Nat)) ?_ (by omega) (.inl (by omega))
      unfold Ieee.Format.read
      simp only [d_sw, d_bin, d_inf, d_least]
      rw [if_neg h1, if_pos h2]
    · exfalso
      unfold Ieee.Format.read at h
      simp only [d_sw, d_bin, d_inf, d_least] at h
      rw [if_neg h1, if_neg h2] at h
      by_cases h3 : x % 9223372036854775808 = 9218868437227405312
      · rw [if_pos h3] at h
        simp only [Ieee.Datum.order, Option.some.injEq] at h
        split at h <;> cases h
      · rw [if_neg h3] at h
        simp [Ieee.Datum.order] at h

theorem nearest_one (d : Nat) : Ieee.double.nearest false (4503599627370496 <<< d) (-52 - (d : Int)) = one := by
  have e0 : 4503599627370496 <<< d = 2 ^ (52 + d) := by
    rw [Nat.shiftLeft_eq, Nat.pow_add]
  have hne : (2 : Nat) ^ (52 + d) ≠ 0 := Nat.pos_iff_ne_zero.1 (Nat.two_pow_pos _)
  unfold Ieee.Format.nearest
  rw [e0, if_neg hne]
  have hl : Nat.log2 (2 ^ (52 + d)) = 52 + d := Nat.log2_two_pow
  have hf : (Ieee.double.fractionBits : Int) = 52 := rfl
  simp only [hl, d_least, d_bin, d_inf, hf]
  have e1 : max (-52 - (d : Int) + ((52 + d : Nat) : Int) - 52) (-1074) = -52 := by omega
  rw [e1]
  have e2 : (-52 - (d : Int) - -52).toNat = 0 := by omega
  have e3 : (-52 - (-52 - (d : Int))).toNat = d := by omega
  rw [e2, e3, Nat.shiftLeft_zero]
  have e4 : Ieee.Toward.even.cut false (2 ^ (52 + d)) d = 4503599627370496 := by
    unfold Ieee.Toward.cut
    rw [hl]
    have e5 : min d (52 + d + 2) = d := by omega
    have e6 : 1 <<< d = 2 ^ d := by rw [Nat.shiftLeft_eq, Nat.one_mul]
    have hp : 0 < 2 ^ d := Nat.two_pow_pos d
    have e7 : 2 ^ (52 + d) / 2 ^ d = 4503599627370496 := by
      rw [Nat.pow_add]; exact Nat.mul_div_cancel _ hp
    have e8 : 2 ^ (52 + d) % 2 ^ d = 0 := by
      rw [Nat.pow_add]; exact Nat.mul_mod_left _ _
    simp only [e5, e6, e7, e8, Nat.mul_zero, Nat.not_lt_zero, decide_false, Bool.false_or]
    have e9 : (2 ^ d == 0) = false := by simp
    rw [e9]
    rfl
  rw [e4]
  rfl

/-- 1 and zero. -/
theorem add_one_zero {x p r : Nat} (hx : feq x one = true) (hp : Zero p) (h : FOp .add x p r) : r = one := by
  have hx := one_of_feq hx
  obtain ⟨t, j, hp⟩ := hp
  refine h.1 one ?_
  simp only [floatBits, f64_is, Ieee.Format.add, hx, hp, Ieee.Datum.sum, signed_zero, Int.add_zero, Option.map_some, Option.some.injEq]
  obtain ⟨d, hd⟩ : ∃ d : Nat, min (-52) j = -52 - (d : Int) := ⟨(-52 - min (-52) j).toNat, by omega⟩
  rw [hd]
  have e1 : (-52 - (-52 - (d : Int))).toNat = d := by omega
  rw [e1]
  have e2 : Ieee.signed false 4503599627370496 d = ((4503599627370496 <<< d : Nat) : Int) := rfl
  rw [e2]
  have hpos : 0 < 4503599627370496 <<< d := by rw [Nat.shiftLeft_eq]; exact Nat.mul_pos (by decide) (Nat.two_pow_pos d)
  rw [if_neg (by omega)]
  have e3 : decide (((4503599627370496 <<< d : Nat) : Int) < 0) = false := decide_eq_false (by omega)
  rw [e3, Int.natAbs_natCast]
  exact nearest_one d

theorem feq_one : feq one one = true := by decide
end Go.Proofs.Qxb6619410a
