/-
  THE WALKS that both laws of seat b6627866a share: quirks.MostListens, with dropbear, strings.CutPrefix and its two callees walked in place.
-/
import Derived.Test.Qxb6627866aRows
import Derived.Test.Qxb6627866aPlain
import Derived.WalkKit
import Derived.WalkSpells
import Derived.WalkLawsBesides
import Derived.RowKit3
namespace Go.Proofs.Qxb6627866a
open Go.RowKit

theorem ret_int {k : IntKind} {a b : Int} (h : a = b) : Ending.returned (.int k a) = .returned (.int k b) := by rw [h]

theorem size_name (s : ByteArray) (h : s.size ≤ 65536) : ((ByteArray.mk #[83, 83, 72, 45, 50, 46, 48, 45, 100, 114, 111, 112, 98, 101, 97, 114]) ++ s).size ≤ maxLen := by
  rw [ByteArray.size_append]
  have : (ByteArray.mk #[83, 83, 72, 45, 50, 46, 48, 45, 100, 114, 111, 112, 98, 101, 97, 114]).size = 16 := rfl
  unfold maxLen; omega
theorem size_app (v s : ByteArray) (h : v.size + s.size ≤ 1048576) : (v ++ s).size ≤ maxLen := by
  rw [ByteArray.size_append]; unfold maxLen; omega
theorem size_cut (v : ByteArray) (h : v.size ≤ maxLen) : (v.extract 0 16).size ≤ maxLen := by
  rw [ByteArray.size_extract]; omega

/-- MostListens: whatever the string, the answer is 'ml'; the world stands. -/
theorem ml_any (v : ByteArray) (w : World) (h2 : v.size ≤ maxLen) :
    Calls Try.prog 6 #[.string v] w fun e w' => e = .returned (.int .i64 (ml v)) ∧ w' = w := by
  unfold maxLen at h2
  by_cases h : v.size < 16
  · have H : Hid (ml v = 0) := ml_of_short v h
    go_enter Try.func6, Try.ntmps6
    go_wp2
    go_ret
    exact ⟨ret_int H.out.symm, rfl⟩
  · have h' : 16 ≤ v.size := by omega
    have H1 := ml_of_yes v
    have H0 := ml_of_no v
    unfold nm at H1 H0
    cases hb : ((v.extract 0 16).toList == [83, 83, 72, 45, 50, 46, 48, 45, 100, 114, 111, 112, 98, 101, 97, 114]) with
    | true =>
      have H : Hid (ml v = 21) := H1 hb
      clear H1 H0
      go_enter Try.func6, Try.ntmps6
      go_wp2
      go_ret
      exact ⟨ret_int H.out.symm, rfl⟩
    | false =>
      have H : Hid (ml v = 0) := H0 hb
      clear H1 H0
      go_enter Try.func6, Try.ntmps6
      go_wp2
      go_ret
      exact ⟨ret_int H.out.symm, rfl⟩
end Go.Proofs.Qxb6627866a
