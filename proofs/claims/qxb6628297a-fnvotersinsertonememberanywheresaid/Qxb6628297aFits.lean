/-
  WALKS of seat b6628297a: fitsSize: SOME bool; no old memory is written.
-/
import Derived.Test.Qxb6628297aLeaf
import Derived.Deep.DeepCutAuto
namespace Go.Proofs.Qxb6628297a
open Go.RowKit

set_option maxRecDepth 100000 in
set_option maxHeartbeats 3200000 in
theorem fits_some (M : Nat → Mem) (b off len cap : Nat) (ra : Option Addr) (rn rc : Nat) (m : Mem) (w : World) (hM : ∀ i, i < len → IsMem w b (off + i * 6) (M i)) (q1 : len ≤ 65536) (q2 : rn ≤ 131072) :
    Calls Try.prog 6 #[.slice (some ⟨b, off, none⟩) len cap, .slice ra rn rc, .agg #[.int .i64 m.id, .string m.ad, .string m.cl, .bool m.cu, .int .u64 m.si, .int .u64 m.ic]] w fun e w' => SomeBool e ∧ Below w.heap.size w w' := by
  have HM : Hid (∀ i, i < len → IsMem w b (off + i * 6) (M i)) := hM
  clear hM
  go_enter Try.func6, Try.ntmps6
  go_upto_region 3 with fail
  go_cut [7] (fun s7 wx => ∃ z : Int, 0 ≤ z ∧ z ≤ 10000000 ∧ s7 = .int .i64 z ∧ wx = w.alloc (.cells #[.int .i64 m.id, .string m.ad, .string m.cl, .bool m.cu, .int .u64 m.si, .int .u64 m.ic] 28))
  case first =>
    go_wp2_with fail
    go_meet
    exact ⟨_, by omega, by omega, rfl, rfl⟩
  obtain ⟨z, hz0, hz1, rfl, rfl⟩ := hcut
  by_cases q3 : z ≤ 1048576
  · by_cases q4 : m.ad.size ≤ 1048576
    · by_cases q5 : m.cl.size ≤ 1048576
      · by_cases q6 : z + (m.ad.size + m.cl.size) ≤ 1048576
        · go_wp2
          go_loopw [7, 8] (fun s7 s8 wr => ∃ (z : Int) (i : Nat), i ≤ len ∧ 0 ≤ z ∧ z ≤ 1048576 ∧ s7 = .int .i64 z ∧ s8 = .int .i64 i ∧ Below w.heap.size w wr) (fun _ s8 _ => len - (intOf s8).toNat)
          case atStart => exact ⟨_, 0, Nat.zero_le _, by omega, by omega, rfl, rfl, (Below.refl _ _).alloc (Nat.le_refl _) _⟩
          case round =>
            obtain ⟨z, i, hi, hz0, hz1, rfl, rfl, hb⟩ := hrel
            have HB : Hid (Below w.heap.size w wr) := hb
            clear hb
            by_cases hlt : i < len
            · have hm := HM.out i hlt
              obtain ⟨c0, c1, c2, c3, c4, c5⟩ := hm.below hm.lt HB.out
              clear hm
              have hk0 : (0 : Int) ≤ (i : Int) := by omega
              have hk1 : (i : Int) < (len : Int) := by omega
              by_cases t1 : (M i).ad.size ≤ 1048576
              · by_cases t2 : (M i).cl.size ≤ 1048576
                · by_cases t3 : z + ((M i).ad.size + (M i).cl.size) ≤ 1048576
                  · go_wp2_with fail
                    go_quiet (fail)
                    go_wp2
                    go_roundw
                    case rel => exact ⟨z + ((M i).ad.size + (M i).cl.size), i + 1, by omega, by omega, by omega, by go_num, by go_num, below_drewN HB.out _⟩
                    case measure => simp [intOf]; omega
                  · go_wp2_with fail
                    go_quiet (fail)
                    go_wp2
                    go_ret
                    exact ⟨⟨_, rfl⟩, below_drewN HB.out _⟩
                · go_wp2
                  go_ret
                  exact ⟨⟨_, rfl⟩, HB.out⟩
              · go_wp2
                go_ret
                exact ⟨⟨_, rfl⟩, HB.out⟩
            · go_wp2
              go_ret
              exact ⟨⟨_, rfl⟩, HB.out⟩
        · go_wp2
          go_ret
          exact ⟨⟨_, rfl⟩, (Below.refl _ _).alloc (Nat.le_refl _) _⟩
      · go_wp2
        go_ret
        exact ⟨⟨_, rfl⟩, (Below.refl _ _).alloc (Nat.le_refl _) _⟩
    · go_wp2
      go_ret
      exact ⟨⟨_, rfl⟩, (Below.refl _ _).alloc (Nat.le_refl _) _⟩
  · go_wp2
    go_ret
    exact ⟨⟨_, rfl⟩, (Below.refl _ _).alloc (Nat.le_refl _) _⟩

set_option maxRecDepth 100000 in
set_option maxHeartbeats 3200000 in
theorem fits_none (ao : Option Addr) (cap : Nat) (ra : Option Addr) (rn rc : Nat) (m : Mem) (w : World) (q2 : rn ≤ 131072) :
    Calls Try.prog 6 #[.slice ao 0 cap, .slice ra rn rc, .agg #[.int .i64 m.id, .string m.ad, .string m.cl, .bool m.cu, .int .u64 m.si, .int .u64 m.ic]] w fun e w' => SomeBool e ∧ Below w.heap.size w w' := by
  go_enter Try.func6, Try.ntmps6
  go_upto_region 3 with fail
  go_cut [7] (fun s7 wx => ∃ z : Int, 0 ≤ z ∧ z ≤ 10000000 ∧ s7 = .int .i64 z ∧ wx = w.alloc (.cells #[.int .i64 m.id, .string m.ad, .string m.cl, .bool m.cu, .int .u64 m.si, .int .u64 m.ic] 28))
  case first =>
    go_wp2_with fail
    go_meet
    exact ⟨_, by omega, by omega, rfl, rfl⟩
  obtain ⟨z, hz0, hz1, rfl, rfl⟩ := hcut
  by_cases q3 : z ≤ 1048576
  · by_cases q4 : m.ad.size ≤ 1048576
    · by_cases q5 : m.cl.size ≤ 1048576
      · by_cases q6 : z + (m.ad.size + m.cl.size) ≤ 1048576
        · go_wp2
          refine wp_loop_rounds 1 ?_
          rw [rounds_succ]
          go_wp2
          go_ret
          exact ⟨⟨_, rfl⟩, (Below.refl _ _).alloc (Nat.le_refl _) _⟩
        · go_wp2
          go_ret
          exact ⟨⟨_, rfl⟩, (Below.refl _ _).alloc (Nat.le_refl _) _⟩
      · go_wp2
        go_ret
        exact ⟨⟨_, rfl⟩, (Below.refl _ _).alloc (Nat.le_refl _) _⟩
    · go_wp2
      go_ret
      exact ⟨⟨_, rfl⟩, (Below.refl _ _).alloc (Nat.le_refl _) _⟩
  · go_wp2
    go_ret
    exact ⟨⟨_, rfl⟩, (Below.refl _ _).alloc (Nat.le_refl _) _⟩

/-- Too many members, or too many removed. -/
theorem fits_many (ao : Option Addr) (len cap : Nat) (ra : Option Addr) (rn rc : Nat) (m : Mem) (w : World) (q1 : 65536 < len) :
    Calls Try.prog 6 #[.slice ao len cap, .slice ra rn rc, .agg #[.int .i64 m.id, .string m.ad, .string m.cl, .bool m.cu, .int .u64 m.si, .int .u64 m.ic]] w fun e w' => SomeBool e ∧ Below w.heap.size w w' := by
  go_enter Try.func6, Try.ntmps6
  go_wp2
  go_ret
  exact ⟨⟨_, rfl⟩, (Below.refl _ _).alloc (Nat.le_refl _) _⟩
theorem fits_gone (ao : Option Addr) (len cap : Nat) (ra : Option Addr) (rn rc : Nat) (m : Mem) (w : World) (q1 : len ≤ 65536) (q2 : 131072 < rn) :
    Calls Try.prog 6 #[.slice ao len cap, .slice ra rn rc, .agg #[.int .i64 m.id, .string m.ad, .string m.cl, .bool m.cu, .int .u64 m.si, .int .u64 m.ic]] w fun e w' => SomeBool e ∧ Below w.heap.size w w' := by
  go_enter Try.func6, Try.ntmps6
  go_wp2
  go_ret
  exact ⟨⟨_, rfl⟩, (Below.refl _ _).alloc (Nat.le_refl _) _⟩
/-- fitsSize, at every input. -/
theorem fits_any (M : Nat → Mem) (ao : Option Addr) (len cap : Nat) (ra : Option Addr) (rn rc : Nat) (m : Mem) (w : World) (hM : IsMems w ao len M) :
    Calls Try.prog 6 #[.slice ao len cap, .slice ra rn rc, .agg #[.int .i64 m.id, .string m.ad, .string m.cl, .bool m.cu, .int .u64 m.si, .int .u64 m.ic]] w fun e w' => SomeBool e ∧ Below w.heap.size w w' := by
  by_cases q1 : 65536 < len
  · exact fits_many ao len cap ra rn rc m w q1
  by_cases q2 : 131072 < rn
  · exact fits_gone ao len cap ra rn rc m w (Nat.le_of_not_lt q1) q2
  rcases hM with rfl | ⟨b, off, rfl, hM⟩
  · exact fits_none ao cap ra rn rc m w (Nat.le_of_not_lt q2)
  · exact fits_some M b off len cap ra rn rc m w hM (Nat.le_of_not_lt q1) (Nat.le_of_not_lt q2)
end Go.Proofs.Qxb6628297a
