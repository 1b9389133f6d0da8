/-
  THE SHELL OF A PROOF OF 'Rows.FnMostListensRefusesEveryNearMissOfTheNameSaid' ('example.com/jumpseat/jumpseat/zzlaws_internal_quirks_b1.FnMostListensRefusesEveryNearMissOfTheName'), WRITTEN BY PROGRAM (proof-skeleton.mjs) off the guide's own print for that function.
  The walk is ours; all else is the guide's template at this function's number and types.
-/
import Derived.Test.Qxb6627866aNear
import Derived.WalkKit
import Derived.ProofKit
import Derived.OpenShut
import Derived.ShutString
namespace Go.Proofs.Qxb6627866a.fnMostListensRefusesEveryNearMissOfTheName
open Go.ChangeShapes Go.WideShapes Go.ChangeAt Go.RowKit
open Go.ChangeMaps (open_string shut_string)
set_option linter.unusedVariables false      -- a walk need not use every 'w<i>' (that an integer argument fits its kind)

theorem own : ownKnob Try.prog.godebug = none := by kernel_rfl

/-! ### STEP 1: THE WALK, a theorem a way through the tests -/
set_option maxHeartbeats 400000 in
/-- i in range, c another byte than the name's there. -/
theorem walk_in (a0 : ByteArray) (n : Nat) (a2 : Int) (h0 : a0.size ≤ 65536) (h1 : n < 16) (h2 : 0 ≤ a2) (h3 : a2 ≤ 255)
    (hne : ∀ hp : n < (ByteArray.mk #[83, 83, 72, 45, 50, 46, 48, 45, 100, 114, 111, 112, 98, 101, 97, 114]).size, (a2 == (((ByteArray.mk #[83, 83, 72, 45, 50, 46, 48, 45, 100, 114, 111, 112, 98, 101, 97, 114])[n]'hp).toNat : Int)) = false) (hml : ml (near n a2 ++ a0) = 0) (w : World) :
    Calls Try.prog 4 #[.string a0, .int .i64 n, .int .u8 a2] w fun e w' => e = .returned (.bool true) ∧ Grown w w' := by
  have hmk : ∀ w, (Instr.makeSlice 25 (.int .i64 16) (.int .i64 16)).run Try.prog w = .ok (.slice (some ⟨w.heap.size, 0, none⟩) 16 16) (w.alloc (.cells (fill 0) 5)) := fun _ => by kernel_rfl
  have hcv := conv w n a2 h2 h3
  have e1 := ml_name a0
  have s1 := size_name a0 h0
  have s2 : (near n a2).size = 16 := near_size n a2
  have s3 := size_near n a2 a0 h0
  go_enter Try.func4, Try.ntmps4
  go_wp2_with (go_at_call 7; go_in)
  go_loopw [8] (fun i wr => ∃ k : Nat, k ≤ 16 ∧ i = .int .i64 k ∧ wr = w.alloc (.cells (fill k) 5)) (fun i _ => 16 - (intOf i).toNat)
  case atStart => exact ⟨0, by omega, rfl, rfl⟩
  case round =>
    obtain ⟨k, hk, rfl, rfl⟩ := hrel
    have hfs := fill_size k hk
    by_cases hlt : k < 16
    · go_wp2
      go_roundw
      case rel => exact ⟨k + 1, by omega, by go_num, by rw [fill_step k hlt]⟩
      case measure => simp [intOf]; omega
    · obtain rfl : k = 16 := by omega
      go_wp2_with fail
      refine (ml_any _ _ s1).mono ?_
      rintro e w' ⟨rfl, rfl⟩
      go_wp2_with fail
      refine (ml_any _ _ s3).mono ?_
      rintro e w' ⟨rfl, rfl⟩
      go_wp2_with fail
      go_ret
      exact ⟨rfl, (Grown.refl _).alloc _ _⟩
/-- i in range, c the name's own byte there. -/
theorem walk_same (a0 : ByteArray) (n : Nat) (a2 : Int) (h0 : a0.size ≤ 65536) (h1 : n < 16)
    (heq : ∀ hp : n < (ByteArray.mk #[83, 83, 72, 45, 50, 46, 48, 45, 100, 114, 111, 112, 98, 101, 97, 114]).size, (a2 == (((ByteArray.mk #[83, 83, 72, 45, 50, 46, 48, 45, 100, 114, 111, 112, 98, 101, 97, 114])[n]'hp).toNat : Int)) = true) (w : World) :
    Calls Try.prog 4 #[.string a0, .int .i64 n, .int .u8 a2] w fun e w' => e = .returned (.bool true) ∧ Grown w w' := by
  go_enter Try.func4, Try.ntmps4
  go_wp2_with (go_at_call 7; go_in)
  go_ret
  exact ⟨rfl, Grown.refl _⟩
/-- i out of range. -/
theorem walk_low (a0 : ByteArray) (a1 a2 : Int) (h0 : a0.size ≤ 65536) (h1 : a1 < 0) (w : World) :
    Calls Try.prog 4 #[.string a0, .int .i64 a1, .int .u8 a2] w fun e w' => e = .returned (.bool true) ∧ Grown w w' := by
  go_enter Try.func4, Try.ntmps4
  go_wp2_with (go_at_call 7; go_in)
  go_ret
  exact ⟨rfl, Grown.refl _⟩
theorem walk_high (a0 : ByteArray) (a1 a2 : Int) (h0 : a0.size ≤ 65536) (h1 : 16 ≤ a1) (w : World) :
    Calls Try.prog 4 #[.string a0, .int .i64 a1, .int .u8 a2] w fun e w' => e = .returned (.bool true) ∧ Grown w w' := by
  go_enter Try.func4, Try.ntmps4
  go_wp2_with (go_at_call 7; go_in)
  go_ret
  exact ⟨rfl, Grown.refl _⟩
/-- s too long. -/
theorem walk_long (a0 : ByteArray) (a1 a2 : Int) (h0 : 65536 < a0.size) (h1 : a0.size ≤ 1048576) (w : World) :
    Calls Try.prog 4 #[.string a0, .int .i64 a1, .int .u8 a2] w fun e w' => e = .returned (.bool true) ∧ Grown w w' := by
  go_enter Try.func4, Try.ntmps4
  go_wp2_with (go_at_call 7; go_in)
  go_ret
  exact ⟨rfl, Grown.refl _⟩
theorem walk_over (a0 : ByteArray) (a1 a2 : Int) (h0 : 1048576 < a0.size) (h1 : a0.size ≤ 9223372036854775807) (w : World) :
    Calls Try.prog 4 #[.string a0, .int .i64 a1, .int .u8 a2] w fun e w' => e = .returned (.bool true) ∧ Grown w w' := by
  go_enter Try.func4, Try.ntmps4
  go_wp2_with (go_at_call 7; go_in)
  go_ret
  exact ⟨rfl, Grown.refl _⟩

theorem walk (a0 : ByteArray) (a1 : Int) (a2 : Int) (w0 : a0.size ≤ maxLen) (w1 : (Lit.int .i64 a1).wf = true) (w2 : (Lit.int .u8 a2).wf = true) (w : World) :
    Calls Try.prog 4 #[.string a0, .int .i64 a1, .int .u8 a2] w fun e w' => e = .returned (.bool true) ∧ Grown w w' := by
  obtain ⟨b1, b2⟩ := bounds_u8 w2
  by_cases c1 : a0.size ≤ 65536
  · by_cases c2 : a1 < 0
    · exact walk_low a0 a1 a2 c1 c2 w
    · by_cases c3 : 16 ≤ a1
      · exact walk_high a0 a1 a2 c1 c3 w
      · obtain ⟨n, rfl⟩ := Int.eq_ofNat_of_zero_le (Int.not_lt.1 c2)
        have hn : n < 16 := by omega
        by_cases c4 : a2 = ((nm[n]'hn).toNat : Int)
        · refine walk_same a0 n a2 c1 hn (fun hp => ?_) w
          rw [beq_iff_eq, c4]; rfl
        · refine walk_in a0 n a2 c1 hn b1 b2 (fun hp => ?_) (ml_near n a2 a0 hn b1 b2 c4) w
          rw [beq_eq_false_iff_ne]; exact c4
  · by_cases c2 : a0.size ≤ 1048576
    · exact walk_long a0 a1 a2 (Nat.lt_of_not_le c1) c2 w
    · exact walk_over a0 a1 a2 (Nat.lt_of_not_le c2) w0 w

/-! ### THE ROW's STEP: WRITTEN OUT: LEAVE IT -/
set_option maxRecDepth 100000 in
theorem lifted (os : Os) (started : os.Started) (H : Type) (enc : TypeId × Value → H) :
    ReturnsInHanded {} Try.checked os 4 .any (Rows.fnMostListensRefusesEveryNearMissOfTheNameSpec.pre6 enc Try.prog Try.f4 Rows.fnMostListensRefusesEveryNearMissOfTheNameRow.domain false) (Rows.fnMostListensRefusesEveryNearMissOfTheNameSpec.post enc Try.prog Try.f4 false true false false) := by
  refine returnsInHanded_of_change (C := Try.checked) own started (by kernel_rfl) Try.func4
    (ChangeSpec.witness6 (enc := enc) (C := Try.checked) false ⟨#[], #[.string ByteArray.empty, .int .i64 0, .int .u8 0], []⟩ 8 (by kernel_rfl) (by kernel_rfl) (by kernel_rfl) (by kernel_rfl)) ?_
  intro W base args ds gs before hval0 hW hcnd _
  have hval : ∀ (j : Nat) t v, Try.f4.params[j]? = some t → args[j]? = some v → Value.okWide Try.prog W .any base t v := hval0
  have hW' := hW
  obtain ⟨p, q, hA0, hV, rfl, hfz, hnd⟩ := hW
  have hA : DataW.TrodAll enc Try.prog W 0 (fun _ => true) true Try.f4.params.toList args.toList ds p := hA0
  rw [Try.params4] at hA hval
  obtain ⟨v0, vs0, d0, ds0, p0, q0, hargs, rfl, rfl, h0, r0⟩ := trodAll_cons hA
  obtain ⟨v1, vs1, d1, ds1, p1, q1, rfl, rfl, rfl, h1, r1⟩ := trodAll_cons r0
  obtain ⟨v2, vs2, d2, ds2, p2, q2, rfl, rfl, rfl, h2, r2⟩ := trodAll_cons r1
  obtain ⟨rfl, rfl, rfl⟩ := trodAll_nil r2
  obtain rfl : args = #[v0, v1, v2] := by cases args; simp_all
  obtain ⟨rfl, rfl⟩ := trodVars_none hV
  obtain ⟨a0, rfl, rfl, rfl, w0⟩ := open_string Try.underlying9 (hval 0 9 v0 rfl rfl) h0
  obtain ⟨a1, rfl, rfl, rfl, w1⟩ := open_int Try.underlying3 (hval 1 3 v1 rfl rfl) h1
  obtain ⟨a2, rfl, rfl, rfl, w2⟩ := open_int Try.underlying5 (hval 2 5 v2 rfl rfl) h2
  clear hA0 hval0
  simp only [List.append_nil] at hW'
  refine (walk a0 a1 a2 w0 w1 w2 W).mono fun e W' ⟨he, hg⟩ => ?_
  subst he
  exact ⟨_, rfl, post_of_same (pa := []) (pv := []) hW' (fun _ _ _ => (trodAll_cons_mk (shut_bool Try.underlying4 _) trodAll_mk0)) (fun sp _ => (trodAll_cons_mk (shut_string Try.underlying9 w0) (trodAll_cons_mk (shut_int Try.underlying3 w1) (trodAll_cons_mk (shut_int Try.underlying5 w2) trodAll_mk0)))) (fun _ _ => rfl) rfl
    (hg.frame _) hg.2.1 (ok_one (by kernel_rfl) rfl (okWide_bool_mk Try.underlying4 _))⟩

theorem over : Rows.fnMostListensRefusesEveryNearMissOfTheNameRow.holds Try.pinned (OpenSpec.ofChange Rows.fnMostListensRefusesEveryNearMissOfTheNameSpec) :=
  OpenClaim.holds_of_wide 4 Try.f4 rfl rfl rfl rfl rfl rfl rfl ⟨rfl, rfl, rfl, rfl, rfl⟩ rfl rfl rfl rfl rfl (by kernel_rfl) Try.func4 (by kernel_rfl)
    (of_decide_eq_true (by kernel_rfl)) (by unfold Func.isWrapper; first | (rw [if_pos (by decide +kernel)]; kernel_rfl) | (rw [if_neg (by decide +kernel)]; exact ⟨rfl, rfl⟩))
    (fun os started H enc _ => lifted os started H enc)

/-- ████ THE STATEMENT ████ -/
theorem proved : Rows.FnMostListensRefusesEveryNearMissOfTheNameSaid :=
  over
end Go.Proofs.Qxb6627866a.fnMostListensRefusesEveryNearMissOfTheName
