/-
  WALKS of seat b6628297a: the two byte guards and fitsSize: SOME bool; no old memory is written.
-/
import Derived.Test.Qxb6628297aRows
import Derived.Test.Qxb6628297aPlain
import Derived.WalkKit
import Derived.WalkSpells
import Derived.WalkLawsBesides
import Derived.RowKit3
import Derived.Deep.QuietTactic
import Derived.BigQuiet
namespace Go.Proofs.Qxb6628297a
open Go.RowKit

/-- Member m lies in block b from offset o on. -/
structure IsMem (w : World) (b o : Nat) (m : Mem) : Prop where
  c0 : w.cell? ⟨b, o, none⟩ = some (.int .i64 m.id)
  c1 : w.cell? ⟨b, o + 1, none⟩ = some (.string m.ad)
  c2 : w.cell? ⟨b, o + 2, none⟩ = some (.string m.cl)
  c3 : w.cell? ⟨b, o + 3, none⟩ = some (.bool m.cu)
  c4 : w.cell? ⟨b, o + 4, none⟩ = some (.int .u64 m.si)
  c5 : w.cell? ⟨b, o + 5, none⟩ = some (.int .u64 m.ic)
theorem IsMem.below {w w' : World} {b o : Nat} {m : Mem} (h : IsMem w b o m) {B : Nat} (hb : b < B) (hw : Below B w w') : IsMem w' b o m :=
  ⟨(hw.cell (by exact hb)).trans h.c0, (hw.cell (by exact hb)).trans h.c1, (hw.cell (by exact hb)).trans h.c2, (hw.cell (by exact hb)).trans h.c3, (hw.cell (by exact hb)).trans h.c4, (hw.cell (by exact hb)).trans h.c5⟩
theorem IsMem.lt {w : World} {b o : Nat} {m : Mem} (h : IsMem w b o m) : b < w.heap.size := World.block_lt_of_cell? w _ h.c0
/-- The members: none; or they lie in a row of cells, six a member. -/
def IsMems (w : World) (a : Option Addr) (len : Nat) (M : Nat → Mem) : Prop :=
  len = 0 ∨ ∃ b off, a = some ⟨b, off, none⟩ ∧ ∀ i, i < len → IsMem w b (off + i * 6) (M i)

/-- It has come back with a bool. -/
def SomeBool (e : Ending) : Prop := ∃ r, e = .returned (.bool r)

set_option maxRecDepth 100000 in
set_option maxHeartbeats 1600000 in
theorem bytes5_some (M : Nat → Mem) (b off len cap : Nat) (ra : Option Addr) (rn rc : Nat) (at' k : Int) (hl : len ≤ 1048576) (hr : rn ≤ 9223372036854775807) (w : World) (hM : ∀ i, i < len → IsMem w b (off + i * 6) (M i)) :
    Calls Try.prog 5 #[.slice (some ⟨b, off, none⟩) len cap, .slice ra rn rc, .int .u64 at', .int .i64 k] w fun e w' => SomeBool e ∧ w' = w := by
  have HM : Hid (∀ i, i < len → IsMem w b (off + i * 6) (M i)) := hM
  clear hM
  go_enter Try.func5, Try.ntmps5
  go_wp2
  go_loop [9, 10] (fun s9 s10 => ∃ (z : Int) (i : Nat), i ≤ len ∧ 0 ≤ z ∧ z ≤ 1048576 ∧ s9 = .int .i64 z ∧ s10 = .int .i64 i) (fun _ s10 => len - (intOf s10).toNat)
  case atStart => exact ⟨len, 0, Nat.zero_le _, by omega, by omega, by go_num, rfl⟩
  case round =>
    obtain ⟨z, i, hi, hz0, hz1, rfl, rfl⟩ := hrel
    by_cases hlt : i < len
    · obtain ⟨c0, c1, c2, c3, c4, c5⟩ := HM.out i hlt
      by_cases t1 : (M i).ad.size ≤ 1048576
      · by_cases t2 : z + (M i).ad.size ≤ 1048576
        · by_cases t3 : (M i).cl.size ≤ 1048576
          · by_cases t4 : z + (M i).ad.size + (M i).cl.size ≤ 1048576
            · go_wp2
              go_round
              case rel => exact ⟨z + (M i).ad.size + (M i).cl.size, i + 1, by omega, by omega, by omega, by go_num, by go_num⟩
              case measure => simp [intOf]; omega
            · go_wp2
              go_ret
              exact ⟨⟨_, rfl⟩, rfl⟩
          · go_wp2
            go_ret
            exact ⟨⟨_, rfl⟩, rfl⟩
        · go_wp2
          go_ret
          exact ⟨⟨_, rfl⟩, rfl⟩
      · go_wp2
        go_ret
        exact ⟨⟨_, rfl⟩, rfl⟩
    · go_wp2
      all_goals
        go_ret
        exact ⟨⟨_, rfl⟩, rfl⟩
theorem bytes5_empty (ao : Option Addr) (cap : Nat) (ra : Option Addr) (rn rc : Nat) (at' k : Int) (hr : rn ≤ 9223372036854775807) (w : World) :
    Calls Try.prog 5 #[.slice ao 0 cap, .slice ra rn rc, .int .u64 at', .int .i64 k] w fun e w' => SomeBool e ∧ w' = w := by
  go_enter Try.func5, Try.ntmps5
  go_wp2
  refine wp_loop_rounds 1 ?_
  rw [rounds_succ]
  go_wp2
  all_goals
    go_ret
    exact ⟨⟨_, rfl⟩, rfl⟩

set_option maxRecDepth 100000 in
set_option maxHeartbeats 1600000 in
theorem bytes9_some (M : Nat → Mem) (b off len cap : Nat) (ra : Option Addr) (rn rc : Nat) (at' k : Int) (m : Mem) (hl : len ≤ 1048576) (hr : rn ≤ 9223372036854775807) (w : World) (hM : ∀ i, i < len → IsMem w b (off + i * 6) (M i)) :
    Calls Try.prog 9 #[.slice (some ⟨b, off, none⟩) len cap, .slice ra rn rc, .int .u64 at', .agg #[.int .i64 m.id, .string m.ad, .string m.cl, .bool m.cu, .int .u64 m.si, .int .u64 m.ic], .int .i64 k] w fun e w' => SomeBool e ∧ Below w.heap.size w w' := by
  have HM : Hid (∀ i, i < len → IsMem w b (off + i * 6) (M i)) := hM
  clear hM
  go_enter Try.func9, Try.ntmps9
  go_wp2
  go_loop [11, 12] (fun s11 s12 => ∃ (z : Int) (i : Nat), i ≤ len ∧ 0 ≤ z ∧ z ≤ 1048576 ∧ s11 = .int .i64 z ∧ s12 = .int .i64 i) (fun _ s12 => len - (intOf s12).toNat)
  case atStart => exact ⟨len, 0, Nat.zero_le _, by omega, by omega, by go_num, rfl⟩
  case round =>
    obtain ⟨z, i, hi, hz0, hz1, rfl, rfl⟩ := hrel
    by_cases hlt : i < len
    · obtain ⟨c0, c1, c2, c3, c4, c5⟩ := HM.out i hlt
      have lb : b < w.heap.size := World.block_lt_of_cell? w _ c0
      by_cases t1 : (M i).ad.size ≤ 1048576
      · by_cases t2 : z + (M i).ad.size ≤ 1048576
        · by_cases t3 : (M i).cl.size ≤ 1048576
          · by_cases t4 : z + (M i).ad.size + (M i).cl.size ≤ 1048576
            · go_wp2
              go_round
              case rel => exact ⟨z + (M i).ad.size + (M i).cl.size, i + 1, by omega, by omega, by omega, by go_num, by go_num⟩
              case measure => simp [intOf]; omega
            · go_wp2
              go_ret
              exact ⟨⟨_, rfl⟩, (Below.refl _ _).alloc (Nat.le_refl _) _⟩
          · go_wp2
            go_ret
            exact ⟨⟨_, rfl⟩, (Below.refl _ _).alloc (Nat.le_refl _) _⟩
        · go_wp2
          go_ret
          exact ⟨⟨_, rfl⟩, (Below.refl _ _).alloc (Nat.le_refl _) _⟩
      · go_wp2
        go_ret
        exact ⟨⟨_, rfl⟩, (Below.refl _ _).alloc (Nat.le_refl _) _⟩
    · go_wp2
      all_goals
        go_ret
        exact ⟨⟨_, rfl⟩, (Below.refl _ _).alloc (Nat.le_refl _) _⟩

set_option maxRecDepth 100000 in
set_option maxHeartbeats 1600000 in
theorem bytes9_empty (ao : Option Addr) (cap : Nat) (ra : Option Addr) (rn rc : Nat) (at' k : Int) (m : Mem) (hr : rn ≤ 9223372036854775807) (w : World) :
    Calls Try.prog 9 #[.slice ao 0 cap, .slice ra rn rc, .int .u64 at', .agg #[.int .i64 m.id, .string m.ad, .string m.cl, .bool m.cu, .int .u64 m.si, .int .u64 m.ic], .int .i64 k] w fun e w' => SomeBool e ∧ Below w.heap.size w w' := by
  go_enter Try.func9, Try.ntmps9
  go_wp2
  refine wp_loop_rounds 1 ?_
  rw [rounds_succ]
  go_wp2
  all_goals
    go_ret
    exact ⟨⟨_, rfl⟩, (Below.refl _ _).alloc (Nat.le_refl _) _⟩
end Go.Proofs.Qxb6628297a
