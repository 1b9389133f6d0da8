/-
  THE SHELL OF A PROOF OF 'Rows.FnMostListensDecidedByItsFirstSixteenBytesSaid' ('example.com/jumpseat/jumpseat/zzlaws_internal_quirks_b1.FnMostListensDecidedByItsFirstSixteenBytes'), WRITTEN BY PROGRAM (proof-skeleton.mjs) off the guide's own print for that function.
  The walk is ours; all else is the guide's template at this function's number and types.
-/
import Derived.Test.Qxb6627866aWalks
import Derived.WalkKit
import Derived.ProofKit
import Derived.OpenShut
import Derived.ShutString
namespace Go.Proofs.Qxb6627866a.fnMostListensDecidedByItsFirstSixteenBytes
open Go.ChangeShapes Go.WideShapes Go.ChangeAt Go.RowKit
open Go.ChangeMaps (open_string shut_string)
set_option linter.unusedVariables false      -- a walk need not use every 'w<i>' (that an integer argument fits its kind)

theorem own : ownKnob Try.prog.godebug = none := by kernel_rfl

/-! ### STEP 1: THE WALK, a theorem a way through the tests -/
/-- v shorter than the name. -/
theorem walk_short (a0 a1 : ByteArray) (w0 : a0.size ≤ maxLen) (c1 : a0.size + a1.size ≤ 1048576) (c2 : a0.size ≤ 65536) (c3 : a1.size ≤ 65536) (c4 : a0.size < 16) (w : World) :
    Calls Try.prog 3 #[.string a0, .string a1] w fun e w' => e = .returned (.bool true) ∧ Grown w w' := by
  have e1 := ml_name a1
  have s1 := size_name a1 c3
  have e2 := ml_of_short a0 c4
  go_enter Try.func3, Try.ntmps3
  go_wp2_with (first | (go_at_call 6; refine (ml_any _ _ (by assumption)).mono ?_; rintro e w' ⟨rfl, rfl⟩) | (go_at_call 5; go_in))
  go_ret
  exact ⟨rfl, Grown.refl _⟩
set_option maxHeartbeats 400000 in
/-- v as long as the name, and no Dropbear. -/
theorem walk_no (a0 a1 : ByteArray) (w0 : a0.size ≤ maxLen) (c1 : a0.size + a1.size ≤ 1048576) (c2 : a0.size ≤ 65536) (c3 : a1.size ≤ 65536) (c5 : 16 ≤ a0.size) (e2 : ml a0 = 0) (w : World) :
    Calls Try.prog 3 #[.string a0, .string a1] w fun e w' => e = .returned (.bool true) ∧ Grown w w' := by
  have e1 := ml_name a1
  have s1 := size_name a1 c3
  have s2 := size_cut a0 w0
  have s3 := size_app a0 a1 c1
  have e3 := (ml_cut a0).trans e2
  have e4 := (ml_app a0 a1 c5).trans e2
  go_enter Try.func3, Try.ntmps3
  go_wp2_with (go_at_call 5; go_in)
  refine (ml_any _ _ s1).mono ?_
  rintro e w' ⟨rfl, rfl⟩
  go_wp2_with fail
  refine (ml_any _ _ w0).mono ?_
  rintro e w' ⟨rfl, rfl⟩
  go_wp2_with fail
  refine (ml_any _ _ s2).mono ?_
  rintro e w' ⟨rfl, rfl⟩
  go_wp2_with fail
  refine (ml_any _ _ s3).mono ?_
  rintro e w' ⟨rfl, rfl⟩
  go_wp2_with fail
  go_ret
  exact ⟨rfl, Grown.refl _⟩
set_option maxHeartbeats 400000 in
/-- v as long as the name, and Dropbear. -/
theorem walk_yes (a0 a1 : ByteArray) (w0 : a0.size ≤ maxLen) (c1 : a0.size + a1.size ≤ 1048576) (c2 : a0.size ≤ 65536) (c3 : a1.size ≤ 65536) (c5 : 16 ≤ a0.size) (e2 : ml a0 = 21) (w : World) :
    Calls Try.prog 3 #[.string a0, .string a1] w fun e w' => e = .returned (.bool true) ∧ Grown w w' := by
  have e1 := ml_name a1
  have s1 := size_name a1 c3
  have s2 := size_cut a0 w0
  have s3 := size_app a0 a1 c1
  have e3 := (ml_cut a0).trans e2
  have e4 := (ml_app a0 a1 c5).trans e2
  go_enter Try.func3, Try.ntmps3
  go_wp2_with (go_at_call 5; go_in)
  refine (ml_any _ _ s1).mono ?_
  rintro e w' ⟨rfl, rfl⟩
  go_wp2_with fail
  refine (ml_any _ _ w0).mono ?_
  rintro e w' ⟨rfl, rfl⟩
  go_wp2_with fail
  refine (ml_any _ _ s2).mono ?_
  rintro e w' ⟨rfl, rfl⟩
  go_wp2_with fail
  refine (ml_any _ _ s3).mono ?_
  rintro e w' ⟨rfl, rfl⟩
  go_wp2_with fail
  go_ret
  exact ⟨rfl, Grown.refl _⟩
/-- Too long: the law answers true at once. -/
theorem walk_big1 (a0 a1 : ByteArray) (w0 : a0.size ≤ 9223372036854775807) (w1 : a1.size ≤ 9223372036854775807) (c1 : a0.size + a1.size ≤ 1048576) (c2 : 65536 < a0.size) (w : World) :
    Calls Try.prog 3 #[.string a0, .string a1] w fun e w' => e = .returned (.bool true) ∧ Grown w w' := by
  go_enter Try.func3, Try.ntmps3
  go_wp2
  go_ret
  exact ⟨rfl, Grown.refl _⟩
theorem walk_big2 (a0 a1 : ByteArray) (w0 : a0.size ≤ 9223372036854775807) (w1 : a1.size ≤ 9223372036854775807) (c1 : a0.size + a1.size ≤ 1048576) (c2 : a0.size ≤ 65536) (c3 : 65536 < a1.size) (w : World) :
    Calls Try.prog 3 #[.string a0, .string a1] w fun e w' => e = .returned (.bool true) ∧ Grown w w' := by
  go_enter Try.func3, Try.ntmps3
  go_wp2
  go_ret
  exact ⟨rfl, Grown.refl _⟩
theorem walk_over0 (a0 a1 : ByteArray) (w0 : a0.size ≤ 9223372036854775807) (w1 : a1.size ≤ 9223372036854775807) (c1 : 1048576 < a0.size) (w : World) :
    Calls Try.prog 3 #[.string a0, .string a1] w fun e w' => e = .returned (.bool true) ∧ Grown w w' := by
  go_enter Try.func3, Try.ntmps3
  go_wp2
  go_ret
  exact ⟨rfl, Grown.refl _⟩
theorem walk_over1 (a0 a1 : ByteArray) (w0 : a0.size ≤ 9223372036854775807) (w1 : a1.size ≤ 9223372036854775807) (c0 : a0.size ≤ 1048576) (c1 : 1048576 < a1.size) (w : World) :
    Calls Try.prog 3 #[.string a0, .string a1] w fun e w' => e = .returned (.bool true) ∧ Grown w w' := by
  go_enter Try.func3, Try.ntmps3
  go_wp2
  go_ret
  exact ⟨rfl, Grown.refl _⟩
theorem walk_over2 (a0 a1 : ByteArray) (w0 : a0.size ≤ 9223372036854775807) (w1 : a1.size ≤ 9223372036854775807) (c0 : a0.size ≤ 1048576) (c1 : a1.size ≤ 1048576) (c2 : 1048576 < a0.size + a1.size) (w : World) :
    Calls Try.prog 3 #[.string a0, .string a1] w fun e w' => e = .returned (.bool true) ∧ Grown w w' := by
  go_enter Try.func3, Try.ntmps3
  go_wp2
  go_ret
  exact ⟨rfl, Grown.refl _⟩

theorem walk (a0 : ByteArray) (a1 : ByteArray) (w0 : a0.size ≤ maxLen) (w1 : a1.size ≤ maxLen) (w : World) :
    Calls Try.prog 3 #[.string a0, .string a1] w fun e w' => e = .returned (.bool true) ∧ Grown w w' := by
  have w0' : a0.size ≤ 9223372036854775807 := w0
  have w1' : a1.size ≤ 9223372036854775807 := w1
  by_cases c1 : a0.size + a1.size ≤ 1048576
  · by_cases c2 : a0.size ≤ 65536
    · by_cases c3 : a1.size ≤ 65536
      · by_cases c4 : a0.size < 16
        · exact walk_short a0 a1 w0 c1 c2 c3 c4 w
        · rcases ml_two a0 with e2 | e2
          · exact walk_no a0 a1 w0 c1 c2 c3 (Nat.le_of_not_lt c4) e2 w
          · exact walk_yes a0 a1 w0 c1 c2 c3 (Nat.le_of_not_lt c4) e2 w
      · exact walk_big2 a0 a1 w0' w1' c1 c2 (Nat.lt_of_not_le c3) w
    · exact walk_big1 a0 a1 w0' w1' c1 (Nat.lt_of_not_le c2) w
  · by_cases c2 : a0.size ≤ 1048576
    · by_cases c3 : a1.size ≤ 1048576
      · exact walk_over2 a0 a1 w0' w1' c2 c3 (Nat.lt_of_not_le c1) w
      · exact walk_over1 a0 a1 w0' w1' c2 (Nat.lt_of_not_le c3) w
    · exact walk_over0 a0 a1 w0' w1' (Nat.lt_of_not_le c2) w

/-! ### THE ROW's STEP: WRITTEN OUT: LEAVE IT -/
set_option maxRecDepth 100000 in
theorem lifted (os : Os) (started : os.Started) (H : Type) (enc : TypeId × Value → H) :
    ReturnsInHanded {} Try.checked os 3 .any (Rows.fnMostListensDecidedByItsFirstSixteenBytesSpec.pre6 enc Try.prog Try.f3 Rows.fnMostListensDecidedByItsFirstSixteenBytesRow.domain false) (Rows.fnMostListensDecidedByItsFirstSixteenBytesSpec.post enc Try.prog Try.f3 false true false false) := by
  refine returnsInHanded_of_change (C := Try.checked) own started (by kernel_rfl) Try.func3
    (ChangeSpec.witness6 (enc := enc) (C := Try.checked) false ⟨#[], #[.string ByteArray.empty, .string ByteArray.empty], []⟩ 8 (by kernel_rfl) (by kernel_rfl) (by kernel_rfl) (by kernel_rfl)) ?_
  intro W base args ds gs before hval0 hW hcnd _
  have hval : ∀ (j : Nat) t v, Try.f3.params[j]? = some t → args[j]? = some v → Value.okWide Try.prog W .any base t v := hval0
  have hW' := hW
  obtain ⟨p, q, hA0, hV, rfl, hfz, hnd⟩ := hW
  have hA : DataW.TrodAll enc Try.prog W 0 (fun _ => true) true Try.f3.params.toList args.toList ds p := hA0
  rw [Try.params3] at hA hval
  obtain ⟨v0, vs0, d0, ds0, p0, q0, hargs, rfl, rfl, h0, r0⟩ := trodAll_cons hA
  obtain ⟨v1, vs1, d1, ds1, p1, q1, rfl, rfl, rfl, h1, r1⟩ := trodAll_cons r0
  obtain ⟨rfl, rfl, rfl⟩ := trodAll_nil r1
  obtain rfl : args = #[v0, v1] := by cases args; simp_all
  obtain ⟨rfl, rfl⟩ := trodVars_none hV
  obtain ⟨a0, rfl, rfl, rfl, w0⟩ := open_string Try.underlying9 (hval 0 9 v0 rfl rfl) h0
  obtain ⟨a1, rfl, rfl, rfl, w1⟩ := open_string Try.underlying9 (hval 1 9 v1 rfl rfl) h1
  clear hA0 hval0
  simp only [List.append_nil] at hW'
  refine (walk a0 a1 w0 w1 W).mono fun e W' ⟨he, hg⟩ => ?_
  subst he
  exact ⟨_, rfl, post_of_same (pa := []) (pv := []) hW' (fun _ _ _ => (trodAll_cons_mk (shut_bool Try.underlying4 _) trodAll_mk0)) (fun sp _ => (trodAll_cons_mk (shut_string Try.underlying9 w0) (trodAll_cons_mk (shut_string Try.underlying9 w1) trodAll_mk0))) (fun _ _ => rfl) rfl
    (hg.frame _) hg.2.1 (ok_one (by kernel_rfl) rfl (okWide_bool_mk Try.underlying4 _))⟩

theorem over : Rows.fnMostListensDecidedByItsFirstSixteenBytesRow.holds Try.pinned (OpenSpec.ofChange Rows.fnMostListensDecidedByItsFirstSixteenBytesSpec) :=
  OpenClaim.holds_of_wide 3 Try.f3 rfl rfl rfl rfl rfl rfl rfl ⟨rfl, rfl, rfl, rfl, rfl⟩ rfl rfl rfl rfl rfl (by kernel_rfl) Try.func3 (by kernel_rfl)
    (of_decide_eq_true (by kernel_rfl)) (by unfold Func.isWrapper; first | (rw [if_pos (by decide +kernel)]; kernel_rfl) | (rw [if_neg (by decide +kernel)]; exact ⟨rfl, rfl⟩))
    (fun os started H enc _ => lifted os started H enc)

/-- ████ THE STATEMENT ████ -/
theorem proved : Rows.FnMostListensDecidedByItsFirstSixteenBytesSaid :=
  over
end Go.Proofs.Qxb6627866a.fnMostListensDecidedByItsFirstSixteenBytes
