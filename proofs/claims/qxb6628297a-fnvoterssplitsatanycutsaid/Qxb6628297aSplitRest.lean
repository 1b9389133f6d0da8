/-
  seat b6628297a: the first law: the ways on which it answers true at once; no member.
-/
import Derived.Test.Qxb6628297aVoters
import Derived.Test.Qxb6628297aFits
namespace Go.Proofs.Qxb6628297a
open Go.RowKit

set_option maxRecDepth 100000 in
/-- More members than 2^20. -/
theorem split_over (ao : Option Addr) (len cap : Nat) (ra : Option Addr) (rn rc : Nat) (at' k : Int) (h : 1048576 < len) (hl : len ≤ 9223372036854775807) (w : World) :
    Calls Try.prog 3 #[.slice ao len cap, .slice ra rn rc, .int .u64 at', .int .i64 k] w fun e w' => e = .returned (.bool true) ∧ Below w.heap.size w w' := by
  go_enter Try.func3, Try.ntmps3
  go_wp2_with (go_at_call 5; go_in)
  go_ret
  exact ⟨rfl, Below.refl _ _⟩
theorem bytes5_any (M : Nat → Mem) (ao : Option Addr) (len cap : Nat) (ra : Option Addr) (rn rc : Nat) (at' k : Int) (hl : len ≤ 1048576) (hr : rn ≤ 9223372036854775807) (w : World) (hM : IsMems w ao len M) :
    Calls Try.prog 5 #[.slice ao len cap, .slice ra rn rc, .int .u64 at', .int .i64 k] w fun e w' => SomeBool e ∧ w' = w := by
  rcases hM with rfl | ⟨b, off, rfl, hM⟩
  · exact bytes5_empty ao cap ra rn rc at' k hr w
  · exact bytes5_some M b off len cap ra rn rc at' k hl hr w hM

set_option maxRecDepth 100000 in
set_option maxHeartbeats 1600000 in
/-- The cut out of range. -/
theorem split_out (M : Nat → Mem) (ao : Option Addr) (len cap : Nat) (ra : Option Addr) (rn rc : Nat) (at' k : Int) (hk : k < 0 ∨ (len : Int) < k) (hl : len ≤ 1048576) (hr : rn ≤ 9223372036854775807) (w : World) (hM : IsMems w ao len M) :
    Calls Try.prog 3 #[.slice ao len cap, .slice ra rn rc, .int .u64 at', .int .i64 k] w fun e w' => e = .returned (.bool true) ∧ Below w.heap.size w w' := by
  have HM : Hid (IsMems w ao len M) := hM
  clear hM
  rcases hk with hk | hk
  all_goals
    go_enter Try.func3, Try.ntmps3
    go_wp2_with fail
    refine (bytes5_any M ao len cap ra rn rc at' k hl hr w HM.out).mono ?_
    rintro e w1 ⟨⟨r, rfl⟩, hw1⟩
    rw [hw1]
    clear hw1 w1
    cases r with
    | false =>
      go_wp2
      go_ret
      exact ⟨rfl, Below.refl _ _⟩
    | true =>
      go_wp2_with fail
      have hfit := fits_any M ao len cap ra rn rc ⟨0, ⟨#[]⟩, ⟨#[]⟩, false, 0, 0⟩ w HM.out
      dsimp only at hfit
      refine hfit.mono ?_
      rintro e w2 ⟨⟨r, rfl⟩, hb2⟩
      clear hfit
      cases r with
      | false =>
        go_wp2
        go_ret
        exact ⟨rfl, hb2⟩
      | true =>
        go_wp2
        go_ret
        exact ⟨rfl, hb2⟩

set_option maxRecDepth 100000 in
set_option maxHeartbeats 3200000 in
/-- No member. -/
theorem split_empty (ao : Option Addr) (cap : Nat) (ra : Option Addr) (rn rc : Nat) (at' : Int) (hr : rn ≤ 9223372036854775807) (w : World) :
    Calls Try.prog 3 #[.slice ao 0 cap, .slice ra rn rc, .int .u64 at', .int .i64 0] w fun e w' => e = .returned (.bool true) ∧ Below w.heap.size w w' := by
  go_enter Try.func3, Try.ntmps3
  go_wp2_with fail
  refine (bytes5_empty ao cap ra rn rc at' 0 hr w).mono ?_
  rintro e w1 ⟨⟨r, rfl⟩, hw1⟩
  rw [hw1]
  clear hw1 w1
  cases r with
  | false =>
    go_wp2
    go_ret
    exact ⟨rfl, Below.refl _ _⟩
  | true =>
  go_wp2_with fail
  have hfit := fits_any (fun _ => ⟨0, ⟨#[]⟩, ⟨#[]⟩, false, 0, 0⟩) ao 0 cap ra rn rc ⟨0, ⟨#[]⟩, ⟨#[]⟩, false, 0, 0⟩ w (.inl rfl)
  dsimp only at hfit
  refine hfit.mono ?_
  rintro e w2 ⟨⟨r, rfl⟩, hb2⟩
  clear hfit
  have HB2 : Hid (Below w.heap.size w w2) := hb2
  clear hb2
  cases r with
  | false =>
    go_wp2
    go_ret
    exact ⟨rfl, HB2.out⟩
  | true =>
  go_wp2_with fail
  refine (toMembers_empty ao cap w2).mono ?_
  rintro e w3 ⟨⟨a3, rfl⟩, hb3⟩
  have HB3 : Hid (Below w.heap.size w w3) := HB2.out.trans (hb3.mono HB2.out.size)
  clear hb3
  go_wp2_with fail
  refine (voters_none a3 0 ra rn rc at' w3).mono ?_
  rintro e w4 ⟨⟨v4, he, hO4⟩, hb4⟩
  obtain ⟨a4, c4, hv4, -⟩ := hO4.reads
  rw [hv4] at he
  subst he
  have HB4 : Hid (Below w.heap.size w w4) := HB3.out.trans (hb4.mono HB3.out.size)
  clear hO4 hb4 hv4
  go_wp2_with fail
  refine (voters_none a3 0 none 0 0 0 w4).mono ?_
  rintro e w5 ⟨⟨v5, he, hO5⟩, hb5⟩
  obtain ⟨a5, c5, hv5, -⟩ := hO5.reads
  rw [hv5] at he
  subst he
  have HB5 : Hid (Below w.heap.size w w5) := HB4.out.trans (hb5.mono HB4.out.size)
  clear hO5 hb5 hv5
  go_wp2_with fail
  refine (voters_none a3 0 ra rn rc at' w5).mono ?_
  rintro e w6 ⟨⟨v6, he, hO6⟩, hb6⟩
  obtain ⟨a6, c6, hv6, -⟩ := hO6.reads
  rw [hv6] at he
  subst he
  have HB6 : Hid (Below w.heap.size w w6) := HB5.out.trans (hb6.mono HB5.out.size)
  clear hO6 hb6 hv6
  go_wp2_with fail
  refine wp_loop_rounds 1 ?_
  rw [rounds_succ]
  go_wp2_with fail
  refine wp_loop_rounds 1 ?_
  rw [rounds_succ]
  go_wp2_with fail
  refine wp_loop_rounds 1 ?_
  rw [rounds_succ]
  go_wp2
  go_ret
  exact ⟨rfl, HB6.out⟩
end Go.Proofs.Qxb6628297a
