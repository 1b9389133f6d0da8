/-
  WALKS of seat b6628175a: zzSeenBefore: it reads the first i pairs; each round lays one block (the pair's own box).
-/
import Derived.Test.Qxb6628175aLeaf
namespace Go.Proofs.Qxb6628175a
open Go.RowKit

set_option maxHeartbeats 1000000 in
theorem seen_any (X Y : Nat → Int) (b off len cap i : Nat) (x y : Int) (hi : i ≤ len) (hl : len ≤ 4096) (w : World)
    (hX : ∀ j, j < len → w.cell? ⟨b, off + j * 2, none⟩ = some (.int .i64 (X j))) (hY : ∀ j, j < len → w.cell? ⟨b, off + j * 2 + 1, none⟩ = some (.int .i64 (Y j))) :
    Calls Try.prog 7 #[.slice (some ⟨b, off, none⟩) len cap, .int .i64 i, .int .i64 x, .int .i64 y] w fun e w' => e = .returned (.bool (seenB X Y i x y)) ∧ Below w.heap.size w w' := by
  go_enter Try.func7, Try.ntmps7
  go_wp2
  go_loopw [9] (fun a wr => ∃ k : Nat, k ≤ i ∧ a = .int .i64 k ∧ seenB X Y k x y = false ∧ Below w.heap.size w wr) (fun a _ => i - (intOf a).toNat)
  case atStart => exact ⟨0, Nat.zero_le _, rfl, rfl, Below.refl _ _⟩
  case round =>
    obtain ⟨k, hk, rfl, hs, hb⟩ := hrel
    by_cases hlt : k < i
    · have hb' : b < w.heap.size := World.block_lt_of_cell? w _ (hX k (by omega))
      have h1 : wr.cell? ⟨b, off + k * 2, none⟩ = some (.int .i64 (X k)) := (hb.cell (by exact hb')).trans (hX k (by omega))
      have h2 : wr.cell? ⟨b, off + k * 2 + 1, none⟩ = some (.int .i64 (Y k)) := (hb.cell (by exact hb')).trans (hY k (by omega))
      have HS : Hid (seenB X Y k x y = false) := hs
      clear hs
      go_wp2_with fail
      refine (sp_any _ _ _ _ _).mono ?_
      rintro e w' ⟨rfl, c, rfl⟩
      cases hsp : spB (X k) (Y k) x y with
      | true =>
        have H : Hid (seenB X Y i x y = true) := seen_hit X Y x y k i hlt hsp
        go_wp2
        go_ret
        exact ⟨ret_bool H.out.symm, hb.alloc hb.size _⟩
      | false =>
        have H : Hid (seenB X Y (k + 1) x y = false) := seen_miss X Y x y k HS.out hsp
        go_wp2
        go_roundw
        case rel => exact ⟨k + 1, by omega, by go_num, H.out, hb.alloc hb.size _⟩
        case measure => simp [intOf]; omega
    · obtain rfl : k = i := by omega
      have HS : Hid (seenB X Y k x y = false) := hs
      clear hs
      go_wp2
      go_ret
      exact ⟨ret_bool HS.out.symm, hb⟩
end Go.Proofs.Qxb6628175a
