/-
  WALKS of seat b6628175a: zzItoa, for 0 ≤ i < 10000: SOME string of at most 24 bytes; new blocks alone.
-/
import Derived.Test.Qxb6628175aRows
import Derived.WalkKit
import Derived.WalkSpells
import Derived.WalkLawsBesides
import Derived.RowKit3
import Derived.Laws.BytesArg
namespace Go.Proofs.Qxb6628175a
open Go.RowKit

/-- The buffer's cells. -/
def bufC (zs : List Int) : Array Value := (zs.map (Value.int .u8)).toArray
theorem bufC_size (zs : List Int) (h : zs.length = 24) : (bufC zs).size = 24 := by simp [bufC, h]
theorem bufC_set (zs : List Int) (p : Nat) (v : Int) : (bufC zs).setIfInBounds p (.int .u8 v) = bufC (zs.set p v) := by
  simp [bufC]
theorem conv_itoa (w : World) (zs : List Int) (p len : Nat) (hz : zs.length = 24) (h : p + len = 24) :
    (convert 46 9 (.slice (some ⟨w.heap.size, p, none⟩) len len)).run Try.prog (w.alloc (.cells (bufC zs) 45)) = .ok (.string (strOfNums (zs.drop p))) (w.alloc (.cells (bufC zs) 45)) := by
  refine run_convert_bytes_arg (P := Try.prog) (w.alloc (.cells (bufC zs) 45)) 46 5 Try.underlying46 Try.underlying5 w.heap.size p len len (zs.drop p) (by simp; omega) (fun i hi => ?_) 9 Try.underlying9
  rw [World.cell?_alloc_at _ _ _ _ rfl]
  have : p + i < zs.length := by omega
  simp [bufC, this]

set_option maxHeartbeats 1000000 in
theorem itoa_pos (i : Int) (h0 : 0 < i) (h1 : i < 10000) (w : World) :
    Calls Try.prog 11 #[.int .i64 i] w fun e w' => ∃ s : ByteArray, e = .returned (.string s) ∧ s.size ≤ 24 ∧ Below w.heap.size w w' := by
  have hi0 : (i == 0) = false := by rw [beq_eq_false_iff_ne]; omega
  go_enter Try.func11, Try.ntmps11
  go_wp2
  go_loopw [0, 4] (fun a c wr => ∃ (j : Int) (p : Nat) (zs : List Int), zs.length = 24 ∧ a = .int .i64 j ∧ c = .int .i64 p ∧ wr = w.alloc (.cells (bufC zs) 45) ∧ 0 ≤ j ∧
      ((p = 24 ∧ 0 < j ∧ j < 10000) ∨ (p = 23 ∧ j < 1000) ∨ (p = 22 ∧ j < 100) ∨ (p = 21 ∧ j < 10) ∨ (p = 20 ∧ j < 1))) (fun _ c _ => (intOf c).toNat)
  case atStart => exact ⟨i, 24, List.replicate 24 0, rfl, rfl, rfl, rfl, by omega, .inl ⟨rfl, h0, h1⟩⟩
  case round =>
    obtain ⟨j, p, zs, hz, rfl, rfl, rfl, hj, hp⟩ := hrel
    have hbs := bufC_size zs hz
    by_cases hlt : 0 < j
    · rcases hp with ⟨rfl, _, hp⟩ | ⟨rfl, hp⟩ | ⟨rfl, hp⟩ | ⟨rfl, hp⟩ | ⟨rfl, hp⟩
      · go_wp2
        go_roundw
        case rel => exact ⟨j / 10, 23, zs.set 23 _, by simp [hz], rfl, rfl, by rw [bufC_set], by omega, .inr (.inl ⟨rfl, by omega⟩)⟩
        case measure => simp [intOf]
      · go_wp2
        go_roundw
        case rel => exact ⟨j / 10, 22, zs.set 22 _, by simp [hz], rfl, rfl, by rw [bufC_set], by omega, .inr (.inr (.inl ⟨rfl, by omega⟩))⟩
        case measure => simp [intOf]
      · go_wp2
        go_roundw
        case rel => exact ⟨j / 10, 21, zs.set 21 _, by simp [hz], rfl, rfl, by rw [bufC_set], by omega, .inr (.inr (.inr (.inl ⟨rfl, by omega⟩)))⟩
        case measure => simp [intOf]
      · go_wp2
        go_roundw
        case rel => exact ⟨j / 10, 20, zs.set 20 _, by simp [hz], rfl, rfl, by rw [bufC_set], by omega, .inr (.inr (.inr (.inr ⟨rfl, by omega⟩)))⟩
        case measure => simp [intOf]
      · omega
    · rcases hp with ⟨rfl, _, hp⟩ | ⟨rfl, hp⟩ | ⟨rfl, hp⟩ | ⟨rfl, hp⟩ | ⟨rfl, hp⟩
      · omega
      · have hcv := conv_itoa w zs 23 1 hz rfl
        go_wp2
        go_ret
        exact ⟨_, rfl, by rw [strOfNums_size]; simp [hz], (Below.refl _ _).alloc (Nat.le_refl _) _⟩
      · have hcv := conv_itoa w zs 22 2 hz rfl
        go_wp2
        go_ret
        exact ⟨_, rfl, by rw [strOfNums_size]; simp [hz], (Below.refl _ _).alloc (Nat.le_refl _) _⟩
      · have hcv := conv_itoa w zs 21 3 hz rfl
        go_wp2
        go_ret
        exact ⟨_, rfl, by rw [strOfNums_size]; simp [hz], (Below.refl _ _).alloc (Nat.le_refl _) _⟩
      · have hcv := conv_itoa w zs 20 4 hz rfl
        go_wp2
        go_ret
        exact ⟨_, rfl, by rw [strOfNums_size]; simp [hz], (Below.refl _ _).alloc (Nat.le_refl _) _⟩

theorem itoa_zero (w : World) :
    Calls Try.prog 11 #[.int .i64 0] w fun e w' => ∃ s : ByteArray, e = .returned (.string s) ∧ s.size ≤ 24 ∧ Below w.heap.size w w' := by
  go_enter Try.func11, Try.ntmps11
  go_wp2
  go_ret
  exact ⟨_, rfl, by decide, Below.refl _ _⟩

theorem itoa_any (i : Int) (h0 : 0 ≤ i) (h1 : i < 10000) (w : World) :
    Calls Try.prog 11 #[.int .i64 i] w fun e w' => ∃ s : ByteArray, e = .returned (.string s) ∧ s.size ≤ 24 ∧ Below w.heap.size w w' := by
  by_cases h : i = 0
  · subst h; exact itoa_zero w
  · exact itoa_pos i (by omega) h1 w
end Go.Proofs.Qxb6628175a
