/-
  seat b6628175a: the law: the ways on which it answers true at once, and the first loop.
-/
import Derived.Test.Qxb6628175aSeen
import Derived.Test.Qxb6628175aGraph
import Derived.Deep.QuietTactic
import Derived.BigQuiet
namespace Go.Proofs.Qxb6628175a
open Go.RowKit Go.Maps

set_option maxRecDepth 100000 in
/-- More pairs than 2^20. -/
theorem law_over (n : Int) (ao : Option Addr) (len cap : Nat) (h : 1048576 < len) (hl : len ≤ 9223372036854775807) (w : World) :
    Calls Try.prog 3 #[.int .i64 n, .slice ao len cap] w fun e w' => e = .returned (.bool true) ∧ Below w.heap.size w w' := by
  go_enter Try.func3, Try.ntmps3
  go_wp2_with (go_at_call 4; go_in)
  go_ret
  exact ⟨rfl, Below.refl _ _⟩
set_option maxRecDepth 100000 in
/-- More pairs than 4096. -/
theorem law_many (n : Int) (ao : Option Addr) (len cap : Nat) (h : 4096 < len) (hl : len ≤ 1048576) (w : World) :
    Calls Try.prog 3 #[.int .i64 n, .slice ao len cap] w fun e w' => e = .returned (.bool true) ∧ Below w.heap.size w w' := by
  go_enter Try.func3, Try.ntmps3
  go_wp2_with (go_at_call 4; go_in)
  go_ret
  exact ⟨rfl, Below.refl _ _⟩
set_option maxRecDepth 100000 in
/-- n out of range. -/
theorem law_neg (n : Int) (ao : Option Addr) (len cap : Nat) (hl : len ≤ 4096) (hn : n < 0) (w : World) :
    Calls Try.prog 3 #[.int .i64 n, .slice ao len cap] w fun e w' => e = .returned (.bool true) ∧ Below w.heap.size w w' := by
  go_enter Try.func3, Try.ntmps3
  go_wp2_with (go_at_call 4; go_in)
  go_ret
  exact ⟨rfl, Below.refl _ _⟩
set_option maxRecDepth 100000 in
theorem law_big (n : Int) (ao : Option Addr) (len cap : Nat) (hl : len ≤ 4096) (hn : 4096 < n) (w : World) :
    Calls Try.prog 3 #[.int .i64 n, .slice ao len cap] w fun e w' => e = .returned (.bool true) ∧ Below w.heap.size w w' := by
  go_enter Try.func3, Try.ntmps3
  go_wp2_with (go_at_call 4; go_in)
  go_ret
  exact ⟨rfl, Below.refl _ _⟩
set_option maxRecDepth 100000 in
set_option maxHeartbeats 3200000 in
/-- A pair that is none: the first of them stands at j. -/
theorem law_invalid (n : Nat) (X Y : Nat → Int) (b off len cap : Nat) (hl : len ≤ 4096) (hn : n ≤ 4096) (w : World)
    (hX : ∀ j, j < len → w.cell? ⟨b, off + j * 2, none⟩ = some (.int .i64 (X j))) (hY : ∀ j, j < len → w.cell? ⟨b, off + j * 2 + 1, none⟩ = some (.int .i64 (Y j)))
    (j : Nat) (hj : j < len) (hbad : vpB n (X j) (Y j) = false) (hgood : ∀ i, i < j → vpB n (X i) (Y i) = true) :
    Calls Try.prog 3 #[.int .i64 n, .slice (some ⟨b, off, none⟩) len cap] w fun e w' => e = .returned (.bool true) ∧ Below w.heap.size w w' := by
  have HB : Hid (vpB n (X j) (Y j) = false) := hbad
  have HG : Hid (∀ i, i < j → vpB n (X i) (Y i) = true) := hgood
  clear hbad hgood
  go_enter Try.func3, Try.ntmps3
  go_wp2_with (go_at_call 4; go_in)
  go_loopw [5] (fun s5 wr => ∃ k : Nat, k ≤ j ∧ s5 = .int .i64 k ∧ Below w.heap.size w wr) (fun s5 _ => j - (intOf s5).toNat)
  case atStart => exact ⟨0, by omega, rfl, Below.refl _ _⟩
  case round =>
    obtain ⟨k, hk, rfl, hb⟩ := hrel
    have hbw : b < w.heap.size := World.block_lt_of_cell? w _ (hX k (by omega))
    have h1 : wr.cell? ⟨b, off + k * 2, none⟩ = some (.int .i64 (X k)) := (hb.cell (by exact hbw)).trans (hX k (by omega))
    have h2 : wr.cell? ⟨b, off + k * 2 + 1, none⟩ = some (.int .i64 (Y k)) := (hb.cell (by exact hbw)).trans (hY k (by omega))
    have hk0 : (0 : Int) ≤ (k : Int) := by omega
    have hk1 : (k : Int) < (len : Int) := by omega
    by_cases hkj : k = j
    · subst hkj
      have hv := HB.out
      go_wp2_with fail
      go_quiet ((go_at_call 5; exact Calls.quiet_of_same (vp_any _ _ _ _)))
      go_wp2
      go_ret
      exact ⟨rfl, below_drewN hb _⟩
    · have hv := HG.out k (by omega)
      go_wp2_with fail
      go_quiet ((go_at_call 5; exact Calls.quiet_of_same (vp_any _ _ _ _)))
      go_wp2
      go_roundw
      case rel => exact ⟨k + 1, by omega, by go_num, below_drewN hb _⟩
      case measure => simp [intOf]; omega
end Go.Proofs.Qxb6628175a
