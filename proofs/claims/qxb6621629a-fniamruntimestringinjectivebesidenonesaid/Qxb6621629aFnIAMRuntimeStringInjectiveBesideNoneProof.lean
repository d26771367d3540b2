/-
  The law over config.IAMRuntime.String: the frame is the guide's template at this function; the walk and the small facts are ours.
-/
import Derived.Test.Qxb6621629aRows
import Derived.WalkKit
import Derived.ProofKit
import Derived.OpenShut
import Derived.ShutString
import Derived.WalkSpells
import Derived.Deep.RegionWith
import Derived.RowKit3
namespace Go.Proofs.Qxb6621629a.fnIAMRuntimeStringInjectiveBesideNone
open Go.ChangeShapes Go.WideShapes Go.ChangeAt Go.RowKit
open Go.ChangeMaps (open_string shut_string)
set_option linter.unusedVariables false      -- a walk need not use every 'w<i>' (that an integer argument fits its kind)

theorem own : ownKnob Try.prog.godebug = none := by kernel_rfl

set_option maxHeartbeats 400000 in
theorem bytes_any (a b : ByteArray) (w0 : a.size ≤ maxLen) (w1 : b.size ≤ maxLen) (w : World) :
    Calls Try.prog 4 #[.string a, .string b] w fun e w' => (∃ b, e = .returned (.bool b)) ∧ w' = w := by
  unfold maxLen at w0 w1
  go_enter Try.func4, Try.ntmps4
  go_wp2
  all_goals go_ret
  all_goals exact ⟨⟨_, rfl⟩, rfl⟩

set_option maxHeartbeats 400000 in
theorem str_empty (a : ByteArray) (h : a.toList.isEmpty = true) (w : World) :
    Calls Try.prog 5 #[.agg #[.string a]] w fun e w' => e = .returned (.string ⟨#[110, 111, 110, 101]⟩) ∧ w' = w.alloc (.cells #[.string a] 24) := by
  go_enter Try.func5, Try.ntmps5
  go_wp2
  go_ret
  exact ⟨rfl, rfl⟩

set_option maxHeartbeats 400000 in
theorem str_full (a : ByteArray) (h : a.toList.isEmpty = false) (w : World) :
    Calls Try.prog 5 #[.agg #[.string a]] w fun e w' => e = .returned (.string a) ∧ w' = w.alloc (.cells #[.string a] 24) := by
  go_enter Try.func5, Try.ntmps5
  go_wp2
  go_ret
  exact ⟨rfl, rfl⟩

def isNone (a : ByteArray) : Bool := a.toList.isEmpty || a.toList == [110, 111, 110, 101]
set_option maxHeartbeats 400000 in
theorem none_any (a : ByteArray) (w : World) :
    Calls Try.prog 6 #[.string a] w fun e w' => e = .returned (.bool (isNone a)) ∧ w' = w := by
  unfold isNone
  cases h : a.toList.isEmpty
  · go_enter Try.func6, Try.ntmps6
    go_wp2
    go_ret
    exact ⟨rfl, rfl⟩
  · go_enter Try.func6, Try.ntmps6
    go_wp2
    go_ret
    exact ⟨rfl, rfl⟩

theorem bs_nil_eq (a b : ByteArray) (h : a.toList.isEmpty = true) (k : b.toList.isEmpty = false) : (a.toList == b.toList) = false := by
  rw [List.isEmpty_iff] at h
  rw [h]
  cases hb : b.toList with
  | nil => rw [hb] at k; cases k
  | cons x xs => rfl

theorem isNone_empty (a : ByteArray) (h : a.toList.isEmpty = true) : isNone a = true := by simp [isNone, h]

theorem isNone_full (a : ByteArray) (h : a.toList.isEmpty = false) : isNone a = (a.toList == [110, 111, 110, 101]) := by simp [isNone, h]


theorem bs_eq_nil (a b : ByteArray) (h : a.toList.isEmpty = false) (k : b.toList.isEmpty = true) : (a.toList == b.toList) = false := by
  rw [List.isEmpty_iff] at k
  rw [k]
  cases hb : a.toList with
  | nil => rw [hb] at h; cases h
  | cons x xs => rfl

theorem none_sym (a : ByteArray) : (([110, 111, 110, 101] : List UInt8) == a.toList) = (a.toList == [110, 111, 110, 101]) := by
  rw [Bool.eq_iff_iff, beq_iff_eq, beq_iff_eq]; exact ⟨fun h => h.symm, fun h => h.symm⟩

theorem not_both (a b : ByteArray) (h : a.toList.isEmpty = false) (k : b.toList.isEmpty = false) (hq : (a.toList == b.toList) = false) (i : isNone a = true) : isNone b = false := by
  rw [isNone_full a h] at i
  rw [isNone_full b k]
  cases hb : (b.toList == [110, 111, 110, 101])
  · rfl
  · rw [beq_iff_eq] at i hb
    rw [i, hb] at hq
    cases hq

set_option maxHeartbeats 1000000 in
theorem walk (a0 : ByteArray) (a1 : ByteArray) (w0 : a0.size ≤ maxLen) (w1 : a1.size ≤ maxLen) (w : World) :
    Calls Try.prog 3 #[.string a0, .string a1] w fun e w' => e = .returned (.bool true) ∧ Grown w w' := by
  have c4 := fun w => bytes_any a0 a1 w0 w1 w
  unfold maxLen at w0 w1
  cases h0 : a0.toList.isEmpty
  · cases h1 : a1.toList.isEmpty
    · cases hq : (a0.toList == a1.toList)
      · cases i0 : isNone a0
        · skip
          go_enter Try.func3, Try.ntmps3
          go_wp2_with (first
        | (go_at_call 4; refine (c4 _).mono ?_; rintro e w' ⟨⟨bb, rfl⟩, rfl⟩)
        | (go_at_call_of 5 (Value.agg #[Value.string a0]); refine (str_full a0 h0 _).mono ?_; rintro e w' ⟨rfl, rfl⟩)
        | (go_at_call_of 5 (Value.agg #[Value.string a1]); refine (str_full a1 h1 _).mono ?_; rintro e w' ⟨rfl, rfl⟩)
        | (go_at_call_of 6 (Value.string a0); refine (none_any a0 _).mono ?_; rintro e w' ⟨rfl, rfl⟩)
        | (go_at_call_of 6 (Value.string a1); refine (none_any a1 _).mono ?_; rintro e w' ⟨rfl, rfl⟩))
          all_goals go_ret
          all_goals exact ⟨rfl, by repeat (first | exact Grown.refl _ | apply Grown.drew | apply Grown.alloc)⟩
        · have i1 := not_both a0 a1 h0 h1 hq i0
          go_enter Try.func3, Try.ntmps3
          go_wp2_with (first
        | (go_at_call 4; refine (c4 _).mono ?_; rintro e w' ⟨⟨bb, rfl⟩, rfl⟩)
        | (go_at_call_of 5 (Value.agg #[Value.string a0]); refine (str_full a0 h0 _).mono ?_; rintro e w' ⟨rfl, rfl⟩)
        | (go_at_call_of 5 (Value.agg #[Value.string a1]); refine (str_full a1 h1 _).mono ?_; rintro e w' ⟨rfl, rfl⟩)
        | (go_at_call_of 6 (Value.string a0); refine (none_any a0 _).mono ?_; rintro e w' ⟨rfl, rfl⟩)
        | (go_at_call_of 6 (Value.string a1); refine (none_any a1 _).mono ?_; rintro e w' ⟨rfl, rfl⟩))
          all_goals go_ret
          all_goals exact ⟨rfl, by repeat (first | exact Grown.refl _ | apply Grown.drew | apply Grown.alloc)⟩
      · skip
        go_enter Try.func3, Try.ntmps3
        go_wp2_with (first
        | (go_at_call 4; refine (c4 _).mono ?_; rintro e w' ⟨⟨bb, rfl⟩, rfl⟩)
        | (go_at_call_of 5 (Value.agg #[Value.string a0]); refine (str_full a0 h0 _).mono ?_; rintro e w' ⟨rfl, rfl⟩)
        | (go_at_call_of 5 (Value.agg #[Value.string a1]); refine (str_full a1 h1 _).mono ?_; rintro e w' ⟨rfl, rfl⟩)
        | (go_at_call_of 6 (Value.string a0); refine (none_any a0 _).mono ?_; rintro e w' ⟨rfl, rfl⟩)
        | (go_at_call_of 6 (Value.string a1); refine (none_any a1 _).mono ?_; rintro e w' ⟨rfl, rfl⟩))
        all_goals go_ret
        all_goals exact ⟨rfl, by repeat (first | exact Grown.refl _ | apply Grown.drew | apply Grown.alloc)⟩
    · have hq := bs_eq_nil a0 a1 h0 h1
      have i1 := isNone_empty a1 h1
      have i0 := isNone_full a0 h0
      cases k0 : (a0.toList == [110, 111, 110, 101])
      all_goals
        rw [k0] at i0
        go_enter Try.func3, Try.ntmps3
        go_wp2_with (first
        | (go_at_call 4; refine (c4 _).mono ?_; rintro e w' ⟨⟨bb, rfl⟩, rfl⟩)
        | (go_at_call_of 5 (Value.agg #[Value.string a0]); refine (str_full a0 h0 _).mono ?_; rintro e w' ⟨rfl, rfl⟩)
        | (go_at_call_of 5 (Value.agg #[Value.string a1]); refine (str_empty a1 h1 _).mono ?_; rintro e w' ⟨rfl, rfl⟩)
        | (go_at_call_of 6 (Value.string a0); refine (none_any a0 _).mono ?_; rintro e w' ⟨rfl, rfl⟩)
        | (go_at_call_of 6 (Value.string a1); refine (none_any a1 _).mono ?_; rintro e w' ⟨rfl, rfl⟩))
        all_goals go_ret
        all_goals exact ⟨rfl, by repeat (first | exact Grown.refl _ | apply Grown.drew | apply Grown.alloc)⟩
  · have i0 := isNone_empty a0 h0
    cases h1 : a1.toList.isEmpty
    · have hq := bs_nil_eq a0 a1 h0 h1
      have i1 := isNone_full a1 h1
      have k1 := none_sym a1
      cases k0 : (a1.toList == [110, 111, 110, 101])
      all_goals
        rw [k0] at i1 k1
        go_enter Try.func3, Try.ntmps3
        go_wp2_with (first
        | (go_at_call 4; refine (c4 _).mono ?_; rintro e w' ⟨⟨bb, rfl⟩, rfl⟩)
        | (go_at_call_of 5 (Value.agg #[Value.string a0]); refine (str_empty a0 h0 _).mono ?_; rintro e w' ⟨rfl, rfl⟩)
        | (go_at_call_of 5 (Value.agg #[Value.string a1]); refine (str_full a1 h1 _).mono ?_; rintro e w' ⟨rfl, rfl⟩)
        | (go_at_call_of 6 (Value.string a0); refine (none_any a0 _).mono ?_; rintro e w' ⟨rfl, rfl⟩)
        | (go_at_call_of 6 (Value.string a1); refine (none_any a1 _).mono ?_; rintro e w' ⟨rfl, rfl⟩))
        all_goals go_ret
        all_goals exact ⟨rfl, by repeat (first | exact Grown.refl _ | apply Grown.drew | apply Grown.alloc)⟩
    · have i1 := isNone_empty a1 h1
      go_enter Try.func3, Try.ntmps3
      go_wp2_with (first
        | (go_at_call 4; refine (c4 _).mono ?_; rintro e w' ⟨⟨bb, rfl⟩, rfl⟩)
        | (go_at_call_of 5 (Value.agg #[Value.string a0]); refine (str_empty a0 h0 _).mono ?_; rintro e w' ⟨rfl, rfl⟩)
        | (go_at_call_of 5 (Value.agg #[Value.string a1]); refine (str_empty a1 h1 _).mono ?_; rintro e w' ⟨rfl, rfl⟩)
        | (go_at_call_of 6 (Value.string a0); refine (none_any a0 _).mono ?_; rintro e w' ⟨rfl, rfl⟩)
        | (go_at_call_of 6 (Value.string a1); refine (none_any a1 _).mono ?_; rintro e w' ⟨rfl, rfl⟩))
      all_goals go_ret
      all_goals exact ⟨rfl, by repeat (first | exact Grown.refl _ | apply Grown.drew | apply Grown.alloc)⟩

/-! ### THE ROW's STEP: WRITTEN OUT: LEAVE IT -/
set_option maxRecDepth 100000 in
theorem lifted (os : Os) (started : os.Started) (H : Type) (enc : TypeId × Value → H) :
    ReturnsInHanded {} Try.checked os 3 .any (Rows.fnIAMRuntimeStringInjectiveBesideNoneSpec.pre6 enc Try.prog Try.f3 Rows.fnIAMRuntimeStringInjectiveBesideNoneRow.domain false) (Rows.fnIAMRuntimeStringInjectiveBesideNoneSpec.post enc Try.prog Try.f3 false true false false) := by
  refine returnsInHanded_of_change (C := Try.checked) own started (by kernel_rfl) Try.func3
    (ChangeSpec.witness6 (enc := enc) (C := Try.checked) false ⟨#[], #[.string ByteArray.empty, .string ByteArray.empty], []⟩ 8 (by kernel_rfl) (by kernel_rfl) (by kernel_rfl) (by kernel_rfl)) ?_
  intro W base args ds gs before hval0 hW hcnd _
  have hval : ∀ (j : Nat) t v, Try.f3.params[j]? = some t → args[j]? = some v → Value.okWide Try.prog W .any base t v := hval0
  have hW' := hW
  obtain ⟨p, q, hA0, hV, rfl, hfz, hnd⟩ := hW
  have hA : DataW.TrodAll enc Try.prog W 0 (fun _ => true) true Try.f3.params.toList args.toList ds p := hA0
  rw [Try.params3] at hA hval
  obtain ⟨v0, vs0, d0, ds0, p0, q0, hargs, rfl, rfl, h0, r0⟩ := trodAll_cons hA
  obtain ⟨v1, vs1, d1, ds1, p1, q1, rfl, rfl, rfl, h1, r1⟩ := trodAll_cons r0
  obtain ⟨rfl, rfl, rfl⟩ := trodAll_nil r1
  obtain rfl : args = #[v0, v1] := by cases args; simp_all
  obtain ⟨rfl, rfl⟩ := trodVars_none hV
  obtain ⟨a0, rfl, rfl, rfl, w0⟩ := open_string Try.underlying9 (hval 0 9 v0 rfl rfl) h0
  obtain ⟨a1, rfl, rfl, rfl, w1⟩ := open_string Try.underlying9 (hval 1 9 v1 rfl rfl) h1
  clear hA0 hval0
  simp only [List.append_nil] at hW'
  refine (walk a0 a1 w0 w1 W).mono fun e W' ⟨he, hg⟩ => ?_
  subst he
  exact ⟨_, rfl, post_of_same (pa := []) (pv := []) hW' (fun _ _ _ => (trodAll_cons_mk (shut_bool Try.underlying4 _) trodAll_mk0)) (fun sp _ => (trodAll_cons_mk (shut_string Try.underlying9 w0) (trodAll_cons_mk (shut_string Try.underlying9 w1) trodAll_mk0))) (fun _ _ => rfl) rfl
    (hg.frame _) hg.2.1 (ok_one (by kernel_rfl) rfl (okWide_bool_mk Try.underlying4 _))⟩

theorem over : Rows.fnIAMRuntimeStringInjectiveBesideNoneRow.holds Try.pinned (OpenSpec.ofChange Rows.fnIAMRuntimeStringInjectiveBesideNoneSpec) :=
  OpenClaim.holds_of_wide 3 Try.f3 rfl rfl rfl rfl rfl rfl rfl ⟨rfl, rfl, rfl, rfl, rfl⟩ rfl rfl rfl rfl rfl (by kernel_rfl) Try.func3 (by kernel_rfl)
    (of_decide_eq_true (by kernel_rfl)) (by unfold Func.isWrapper; first | (rw [if_pos (by decide +kernel)]; kernel_rfl) | (rw [if_neg (by decide +kernel)]; exact ⟨rfl, rfl⟩))
    (fun os started H enc _ => lifted os started H enc)

/-- ████ THE STATEMENT ████ -/
theorem proved : Rows.FnIAMRuntimeStringInjectiveBesideNoneSaid :=
  over
#print axioms proved
end Go.Proofs.Qxb6621629a.fnIAMRuntimeStringInjectiveBesideNone
