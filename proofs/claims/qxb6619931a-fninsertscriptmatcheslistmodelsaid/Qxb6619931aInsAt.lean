import Derived.Test.Qxb6619931aIns
namespace Go.Proofs.Qxb6619931a
open Go.RowKit

/-- The tokens from place i on, as cells. -/
def tailC (I L : Nat → Int) (n i : Nat) : List Value := (List.range ((n - i) * 14)).map fun x => qf I L n (fun _ => .bool false) (i * 14 + x)
theorem tailC_len (I L : Nat → Int) (n i : Nat) : (tailC I L n i).length = (n - i) * 14 := by simp [tailC]
theorem tailC_at (I L : Nat → Int) (n i j : Nat) (hj : j < (n - i) * 14) : (tailC I L n i)[j]? = some (qf I L n (fun _ => .bool false) (i * 14 + j)) := by simp [tailC, hj]
theorem tailC_one (I L : Nat → Int) (n i : Nat) : ∀ v ∈ tailC I L n i, v.oneCell' = true := by
  intro v hv
  obtain ⟨x, hx, rfl⟩ := List.mem_map.1 hv
  unfold qf
  split
  · exact tok_getD_one _ _ _
  · rfl

theorem insF_lt (V : Nat → Int) (a : Nat) (v : Int) (k : Nat) (h : k < a) : insF V a v k = V k := by unfold insF; rw [if_pos h]
theorem insF_eq (V : Nat → Int) (a : Nat) (v : Int) : insF V a v a = v := by unfold insF; rw [if_neg (Nat.lt_irrefl _), if_pos rfl]
theorem insF_gt (V : Nat → Int) (a : Nat) (v : Int) (k : Nat) (h : a < k) : insF V a v k = V (k - 1) := by unfold insF; rw [if_neg (by omega), if_neg (by omega)]

/-- Append an empty token, move the tail, write the token: the list with the token put in. -/
theorem ins_fun (I L : Nat → Int) (n i : Nat) (hi : i ≤ n) (id fl : Int) (od : Nat) (hod : i < n → od = (i + 1) * 14) (g : Nat → Value) (x : Nat) :
    (if i * 14 ≤ x ∧ x < i * 14 + (tok id fl).toList.length then (tok id fl).toList.getD (x - i * 14) (.bool false) else
      if od ≤ x ∧ x < od + (tailC I L n i).length then (tailC I L n i).getD (x - od) (.bool false) else qf (insF I n 0) (insF L n 0) (n + 1) g x) = qf (insF I i id) (insF L i fl) (n + 1) g x := by
  have hl : (tok id fl).toList.length = 14 := rfl
  rw [hl, tailC_len]
  by_cases hx : x < (n + 1) * 14
  · obtain ⟨q, r, hr, rfl⟩ : ∃ q r, r < 14 ∧ x = q * 14 + r := ⟨x / 14, x % 14, by omega, by omega⟩
    have hq : q < n + 1 := by omega
    rw [qf_at (insF I i id) (insF L i fl) (n + 1) g q r hq hr]
    by_cases h1 : q = i
    · subst h1
      have e : q * 14 + r - q * 14 = r := by omega
      rw [if_pos ⟨by omega, by omega⟩, insF_eq, insF_eq, e]
      simp
    · rw [if_neg (by omega)]
      by_cases h2 : q < i
      · have h3 : ¬ (od ≤ q * 14 + r ∧ q * 14 + r < od + (n - i) * 14) := by
          rintro ⟨a, b⟩
          by_cases hin : i < n
          · have := hod hin; omega
          · have : n - i = 0 := by omega
            rw [this] at b; omega
        rw [if_neg h3, qf_at (insF I n 0) (insF L n 0) (n + 1) g q r hq hr, insF_lt I n 0 q (by omega), insF_lt L n 0 q (by omega), insF_lt I i id q h2, insF_lt L i fl q h2]
      · have hin : i < n := by omega
        have e := hod hin
        subst e
        have h3 : (n - i) * 14 = n * 14 - i * 14 := by rw [Nat.sub_mul]
        rw [if_pos ⟨by omega, by omega⟩, List.getD_eq_getElem?_getD, tailC_at I L n i _ (by omega)]
        have e2 : i * 14 + (q * 14 + r - (i + 1) * 14) = (q - 1) * 14 + r := by omega
        rw [e2, Option.getD_some, qf_at I L n _ (q - 1) r (by omega) hr, insF_gt I i id q (by omega), insF_gt L i fl q (by omega)]
  · have h3 : ¬ (od ≤ x ∧ x < od + (n - i) * 14) := by
      rintro ⟨a, b⟩
      by_cases hin : i < n
      · have e := hod hin
        have h3 : (n - i) * 14 = n * 14 - i * 14 := by rw [Nat.sub_mul]
        omega
      · have : n - i = 0 := by omega
        rw [this] at b; omega
    rw [if_neg (by omega), if_neg h3]
    unfold qf
    rw [if_neg hx, if_neg hx]

theorem tail_src {w : World} {QB m n i : Nat} {I L : Nat → Int} {g : Nat → Value} (h : w.rowIs QB 50 m (qf (insF I n 0) (insF L n 0) (n + 1) g)) (hm : (n + 1) * 14 ≤ m) : ∀ j v, (tailC I L n i)[j]? = some v → w.cell? ((⟨QB, i * 14, none⟩ : Addr).add j) = some v := by
  intro j v hv
  have hj : j < (n - i) * 14 := by
    have := (List.getElem?_eq_some_iff.1 hv).1
    rwa [tailC_len] at this
  have h3 : (n - i) * 14 = n * 14 - i * 14 := by rw [Nat.sub_mul]
  rw [tailC_at I L n i j hj] at hv
  rw [Addr.add_lit, h.cell (by omega), ← hv]
  congr 1
  obtain ⟨q, r, hr, e⟩ : ∃ q r, r < 14 ∧ i * 14 + j = q * 14 + r := ⟨(i * 14 + j) / 14, (i * 14 + j) % 14, by omega, by omega⟩
  have hq : q < n := by omega
  rw [e, qf_at _ _ (n + 1) g q r (by omega) hr, qf_at I L n _ q r hq hr, insF_lt I n 0 q hq, insF_lt L n 0 q hq]

/-- The scanner behind the three steps. -/
theorem scan_ins {w2 : World} {sb : Nat} {fl tk : Int} {dc : Bool} {QB qc n SB sc : Nat} {I L : Nat → Int} (h : Scan w2 sb fl tk dc QB qc (n + 1) SB sc (insF I n 0) (insF L n 0)) (i : Nat) (hi : i ≤ n) (id lv : Int) (od : Nat) (hod : i < n → od = (i + 1) * 14) :
    Scan ((w2.setCells QB od (tailC I L n i)).setCells QB (i * 14) (tok id lv).toList) sb fl tk dc QB qc (n + 1) SB sc (insF I i id) (insF L i lv) ∧
      Kept (fun k => k = sb ∨ k = QB) w2 ((w2.setCells QB od (tailC I L n i)).setCells QB (i * 14) (tok id lv).toList) := by
  obtain ⟨f, hr, hf⟩ := h.row
  obtain ⟨g, hq⟩ := h.qrow
  obtain ⟨g', hs⟩ := h.srow
  generalize hvs : (tok id lv).toList = vs
  have hq2 : ((w2.setCells QB od (tailC I L n i)).setCells QB (i * 14) vs).rowIs QB 50 (qc * 14) (qf (insF I i id) (insF L i lv) (n + 1) g) :=
    (rowIs_setCells vs (i * 14) _ _ (rowIs_setCells (tailC I L n i) od w2 _ hq)).congr (fun x _ => by rw [← hvs]; exact ins_fun I L n i hi id lv od hod g x)
  have hs2 : ∃ g2, ((w2.setCells QB od (tailC I L n i)).setCells QB (i * 14) vs).rowIs SB 50 (sc * 14) g2 := by
    by_cases e : QB = SB
    · subst e
      have := h.one rfl
      rw [← this]
      exact ⟨_, hq2⟩
    · exact ⟨g', rowIs_setCells_other (fun x => e x.symm) vs (i * 14) _ (rowIs_setCells_other (fun x => e x.symm) (tailC I L n i) od w2 hs)⟩
  refine ⟨⟨⟨f, rowIs_setCells_other h.hq.symm vs (i * 14) _ (rowIs_setCells_other h.hq.symm (tailC I L n i) od w2 hr), hf⟩, h.hn, h.hq, h.hs, h.one, ⟨g, hq2⟩, hs2⟩, ?_⟩
  exact Kept.setCells (T := fun k => k = sb ∨ k = QB) (g := QB) (.inr rfl) vs (i * 14) _ (Kept.setCells (T := fun k => k = sb ∨ k = QB) (g := QB) (.inr rfl) (tailC I L n i) od w2 (Kept.refl _ _))

theorem slice47_back (w : World) (QB t c k : Nat) (hk : k ≤ t) (hc : k < c) (kz : Int) (hkz : kz = (k : Int)) :
    (Instr.slice 47 (.slice (some ⟨QB, 0, none⟩) t c) (some (.int .i64 kz)) none none).run Try.prog w = .ok (.slice (some ⟨QB, k * 14, none⟩) (t - k) (c - k)) w := by
  subst hkz
  have := run_slice_l (P := Try.prog) (w := w) 47 (some ⟨QB, 0, none⟩) t c (by rw [Try.underlying47]; rfl) .i64 (k : Int) (by omega) (by omega)
  rw [this]
  simp [go_sem, show ¬ c = k by omega]
theorem slice47_end (w : World) (QB t c k : Nat) (hk : k ≤ t) (hc : k = c) (kz : Int) (hkz : kz = (k : Int)) :
    (Instr.slice 47 (.slice (some ⟨QB, 0, none⟩) t c) (some (.int .i64 kz)) none none).run Try.prog w = .ok (.slice (some ⟨QB, 0, none⟩) (t - k) (c - k)) w := by
  subst hkz
  have := run_slice_l (P := Try.prog) (w := w) 47 (some ⟨QB, 0, none⟩) t c (by rw [Try.underlying47]; rfl) .i64 (k : Int) (by omega) (by omega)
  rw [this]
  simp [go_sem, hc]

/-- Where 'queue[i+1:]' begins. -/
theorem slice47_next (QB n c i : Nat) (hi : i ≤ n) (hn : n < c) : ∃ od, (∀ w, (Instr.slice 47 (.slice (some ⟨QB, 0, none⟩) (n + 1) c) (some (.int .i64 ((i : Int) + 1))) none none).run Try.prog w = .ok (.slice (some ⟨QB, od, none⟩) (n - i) (c - (i + 1))) w) ∧ (i < n → od = (i + 1) * 14) := by
  have e : n + 1 - (i + 1) = n - i := by omega
  by_cases h : i + 1 = c
  · refine ⟨0, fun w => ?_, fun h' => by omega⟩
    have := slice47_end w QB (n + 1) c (i + 1) (by omega) h ((i : Int) + 1) (by omega)
    rwa [e] at this
  · refine ⟨(i + 1) * 14, fun w => ?_, fun _ => rfl⟩
    have := slice47_back w QB (n + 1) c (i + 1) (by omega) (by omega) ((i : Int) + 1) (by omega)
    rwa [e] at this
end Go.Proofs.Qxb6619931a
