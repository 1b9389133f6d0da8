/-
  WALKS of seat b6628297a: toMember, toMembers.
-/
import Derived.Test.Qxb6628297aLeaf
import Derived.Deep.OwnRows
import Derived.Lib.SliceRun
namespace Go.Proofs.Qxb6628297a
open Go.RowKit

/-- The six cells of a member. -/
def mc (m : Mem) : Nat → Value
  | 0 => .int .i64 m.id
  | 1 => .string m.ad
  | 2 => .string m.cl
  | 3 => .bool m.cu
  | 4 => .int .u64 m.si
  | _ => .int .u64 m.ic

set_option maxRecDepth 100000 in
theorem toMember_any (m : Mem) (w : World) :
    Calls Try.prog 10 #[.agg #[.int .i64 m.id, .string m.ad, .string m.cl, .bool m.cu, .int .u64 m.si, .int .u64 m.ic]] w fun e w' =>
      e = .returned (.agg #[.int .i64 m.id, .string m.ad, .string m.cl, .bool m.cu, .int .u64 m.si, .int .u64 m.ic]) ∧ Below w.heap.size w w' := by
  go_enter Try.func10, Try.ntmps10
  go_wp2
  refine bodyPost_ret (v := .agg #[.int .i64 m.id, .string m.ad, .string m.cl, .bool m.cu, .int .u64 m.si, .int .u64 m.ic]) (by simp [results, Try.results10, go_sem]) rfl ⟨rfl, ?_⟩
  exact ((Below.refl _ _).alloc (Nat.le_refl _) _).alloc (by simp) _

theorem Try.info35 : (Try.prog.info? 35).map (fun i => (i.zero, i.size, i.bytes)) = some (some (.agg #[.int .i64 0, .string ByteArray.empty, .string ByteArray.empty, .bool false, .int .u64 0, .int .u64 0]), 6, 64) := by kernel_rfl
/-- The zero member. -/
def zmem : Mem := ⟨0, ByteArray.empty, ByteArray.empty, false, 0, 0⟩
theorem make35 (n : Nat) (hn : n ≤ 1048576) (w : World) : (Instr.makeSlice 29 (.int .i64 n) (.int .i64 n)).run Try.prog w = .ok (.slice (some ⟨w.heap.size, 0, none⟩) n n) (w.alloc (.cells (madeCells #[.int .i64 0, .string ByteArray.empty, .string ByteArray.empty, .bool false, .int .u64 0, .int .u64 0] (n * 6)) 35)) := by
  obtain ⟨i, hi, hz0, hz1, hz2⟩ := info_parts Try.info35
  have := run_make (P := Try.prog) w 29 35 i _ Try.underlying29 hi hz0 .i64 .i64 n n (by omega) (Int.le_refl _) (by rw [hz2]; omega) (by omega)
  rw [hz1] at this
  simpa [Value.cells] using this

/-- Block Bo is a row of n members, the first i of them M's. -/
def MRow (w : World) (Bo n : Nat) (M : Nat → Mem) (i : Nat) : Prop := ∃ f, w.rowIs Bo 35 (n * 6) f ∧ ∀ j, j < i → ∀ q, q < 6 → f (j * 6 + q) = mc (M j) q
theorem MRow.step {w : World} {Bo n i : Nat} {M : Nat → Mem} (h : MRow w Bo n M i) :
    MRow ((((((w.setCell ⟨Bo, i * 6, none⟩ (.int .i64 (M i).id)).setCell ⟨Bo, i * 6 + 1, none⟩ (.string (M i).ad)).setCell ⟨Bo, i * 6 + 2, none⟩ (.string (M i).cl)).setCell ⟨Bo, i * 6 + 3, none⟩ (.bool (M i).cu)).setCell
      ⟨Bo, i * 6 + 4, none⟩ (.int .u64 (M i).si)).setCell ⟨Bo, i * 6 + 5, none⟩ (.int .u64 (M i).ic)) Bo n M (i + 1) := by
  obtain ⟨f, hf, h1⟩ := h
  refine ⟨_, (((((hf.set (i * 6) _).set (i * 6 + 1) _).set (i * 6 + 2) _).set (i * 6 + 3) _).set (i * 6 + 4) _).set (i * 6 + 5) _, ?_⟩
  intro j hj q hq
  by_cases e : j = i
  · subst e
    rcases (show q = 0 ∨ q = 1 ∨ q = 2 ∨ q = 3 ∨ q = 4 ∨ q = 5 from by omega) with rfl | rfl | rfl | rfl | rfl | rfl
    all_goals simp [mc]
  · rw [if_neg (by omega), if_neg (by omega), if_neg (by omega), if_neg (by omega), if_neg (by omega), if_neg (by omega)]
    exact h1 j (by omega) q hq
theorem MRow.mem {w : World} {Bo n i : Nat} {M : Nat → Mem} (h : MRow w Bo n M i) (hi : i ≤ n) {j : Nat} (hj : j < i) : IsMem w Bo (j * 6) (M j) := by
  obtain ⟨f, hf, h1⟩ := h
  have c : ∀ q, q < 6 → w.cell? ⟨Bo, j * 6 + q, none⟩ = some (mc (M j) q) := fun q hq => by rw [← h1 j hj q hq]; exact hf.cell (by omega)
  exact ⟨c 0 (by omega), c 1 (by omega), c 2 (by omega), c 3 (by omega), c 4 (by omega), c 5 (by omega)⟩
theorem MRow.block {w w' : World} {Bo n i : Nat} {M : Nat → Mem} (h : MRow w Bo n M i) (e : w'.heap[Bo]? = w.heap[Bo]?) : MRow w' Bo n M i := by
  obtain ⟨f, hf, h1⟩ := h
  exact ⟨f, hf.of_block e, h1⟩
theorem MRow.lt {w : World} {Bo n i : Nat} {M : Nat → Mem} (h : MRow w Bo n M i) : Bo < w.heap.size := by
  obtain ⟨f, hf, _⟩ := h
  exact hf.lt
theorem MRow.below {w w' : World} {Bo n i : Nat} {M : Nat → Mem} (h : MRow w Bo n M i) {B : Nat} (hB : Bo < B) (hb : Below B w w') : MRow w' Bo n M i := h.block (hb.block _ hB)
theorem MRow.start (w : World) (z : Array Value) (n : Nat) (M : Nat → Mem) : MRow (w.alloc (.cells (madeCells z (n * 6)) 35)) w.heap.size n M 0 := by
  refine ⟨fun j => (madeCells z (n * 6))[j]!, ?_, fun j hj => by omega⟩
  have hs : (madeCells z (n * 6)).size = n * 6 := size_madeCells _ _
  have := World.rowIs_alloc w (madeCells z (n * 6)) 35 (fun j => (madeCells z (n * 6))[j]!) (fun i hi => by simp [hi])
  rw [hs] at this
  exact this

set_option maxRecDepth 100000 in
set_option maxHeartbeats 1600000 in
theorem toMembers_some (M : Nat → Mem) (b off len cap : Nat) (hl : len ≤ 1048576) (w : World) (hM : ∀ i, i < len → IsMem w b (off + i * 6) (M i)) :
    Calls Try.prog 7 #[.slice (some ⟨b, off, none⟩) len cap] w fun e w' => e = .returned (.slice (some ⟨w.heap.size, 0, none⟩) len len) ∧ MRow w' w.heap.size len M len ∧ Below w.heap.size w w' := by
  have HM : Hid (∀ i, i < len → IsMem w b (off + i * 6) (M i)) := hM
  clear hM
  have heq := fun (w : World) (a : Option Addr) (n c : Nat) => Lib.run_eql_slice_nil (P := Try.prog) w 22 28 a n c 0 0 Try.underlying22
  have hmk := make35 len hl
  go_enter Try.func7, Try.ntmps7
  go_wp2
  go_loopw [4] (fun s4 wr => ∃ i : Nat, i ≤ len ∧ s4 = .int .i64 i ∧ MRow wr w.heap.size len M i ∧ Below w.heap.size w wr) (fun s4 _ => len - (intOf s4).toNat)
  case atStart => exact ⟨0, Nat.zero_le _, rfl, MRow.start w _ len M, (Below.refl _ _).alloc (Nat.le_refl _) _⟩
  case round =>
    obtain ⟨i, hi, rfl, hR, hb⟩ := hrel
    clear heq hmk
    have HR : Hid (MRow wr w.heap.size len M i) := hR
    have HB : Hid (Below w.heap.size w wr) := hb
    clear hR hb
    by_cases hlt : i < len
    · have hm := HM.out i hlt
      obtain ⟨c0, c1, c2, c3, c4, c5⟩ := hm.below hm.lt HB.out
      clear hm
      go_wp2_with fail
      refine (toMember_any (M i) _).mono ?_
      rintro e w1 ⟨rfl, hb1⟩
      have HR1 : Hid (MRow w1 w.heap.size len M i) := HR.out.below HR.out.lt hb1
      have HB1 : Hid (Below w.heap.size w w1) := HB.out.trans (hb1.mono HB.out.size)
      obtain ⟨f, hf1, _⟩ := HR1.out
      have d0 : w1.cell? ⟨w.heap.size, i * 6, none⟩ = some (f (i * 6)) := hf1.cell (by omega)
      have d1 : w1.cell? ⟨w.heap.size, i * 6 + 1, none⟩ = some (f (i * 6 + 1)) := hf1.cell (by omega)
      have d2 : w1.cell? ⟨w.heap.size, i * 6 + 2, none⟩ = some (f (i * 6 + 2)) := hf1.cell (by omega)
      have d3 : w1.cell? ⟨w.heap.size, i * 6 + 3, none⟩ = some (f (i * 6 + 3)) := hf1.cell (by omega)
      have d4 : w1.cell? ⟨w.heap.size, i * 6 + 4, none⟩ = some (f (i * 6 + 4)) := hf1.cell (by omega)
      have d5 : w1.cell? ⟨w.heap.size, i * 6 + 5, none⟩ = some (f (i * 6 + 5)) := hf1.cell (by omega)
      have e0 : ∀ q, w1.frozen? ⟨w.heap.size, q, none⟩ = false := fun q => hf1.frozen q
      clear hf1 hb1
      go_wp2
      go_roundw
      case rel => exact ⟨i + 1, by omega, by go_num, HR1.out.step, (((((HB1.out.setCell (Nat.le_refl _) _).setCell (Nat.le_refl _) _).setCell (Nat.le_refl _) _).setCell (Nat.le_refl _) _).setCell (Nat.le_refl _) _).setCell (Nat.le_refl _) _⟩
      case measure => simp [intOf]; omega
    · obtain rfl : i = len := by omega
      go_wp2
      go_ret
      exact ⟨rfl, HR.out, HB.out⟩

set_option maxRecDepth 100000 in
theorem toMembers_nil (cap : Nat) (w : World) : Calls Try.prog 7 #[.slice none 0 cap] w fun e w' => (∃ ao, e = .returned (.slice ao 0 0)) ∧ Below w.heap.size w w' := by
  have heq := fun (w : World) (a : Option Addr) (n c : Nat) => Lib.run_eql_slice_nil (P := Try.prog) w 22 28 a n c 0 0 Try.underlying22
  go_enter Try.func7, Try.ntmps7
  go_wp2
  go_ret
  exact ⟨⟨none, rfl⟩, Below.refl _ _⟩
set_option maxRecDepth 100000 in
theorem toMembers_bare (a : Addr) (cap : Nat) (w : World) : Calls Try.prog 7 #[.slice (some a) 0 cap] w fun e w' => (∃ ao, e = .returned (.slice ao 0 0)) ∧ Below w.heap.size w w' := by
  have heq := fun (w : World) (a : Option Addr) (n c : Nat) => Lib.run_eql_slice_nil (P := Try.prog) w 22 28 a n c 0 0 Try.underlying22
  have hmk : ∀ w : World, (Instr.makeSlice 29 (.int .i64 0) (.int .i64 0)).run Try.prog w = .ok (.slice (some ⟨w.heap.size, 0, none⟩) 0 0) (w.alloc (.cells #[] 35)) := fun _ => by kernel_rfl
  go_enter Try.func7, Try.ntmps7
  go_wp2
  refine wp_loop_rounds 1 ?_
  rw [rounds_succ]
  go_wp2
  go_ret
  exact ⟨⟨_, rfl⟩, (Below.refl _ _).alloc (Nat.le_refl _) _⟩
theorem toMembers_empty (ao : Option Addr) (cap : Nat) (w : World) : Calls Try.prog 7 #[.slice ao 0 cap] w fun e w' => (∃ ao, e = .returned (.slice ao 0 0)) ∧ Below w.heap.size w w' := by
  cases ao with
  | none => exact toMembers_nil cap w
  | some a => exact toMembers_bare a cap w
end Go.Proofs.Qxb6628297a
