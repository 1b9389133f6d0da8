/-
  WALKS of seat b6628175a: zzGraphOf: a new graph of n members: the struct's block, the row of n nil lists; new blocks alone.
-/
import Derived.Test.Qxb6628175aItoa
import Derived.Deep.OwnRows
import Derived.Maps.OwnSet
namespace Go.Proofs.Qxb6628175a
open Go.RowKit Go.Maps

theorem Try.info9 : (Try.prog.info? 9).map (fun i => (i.zero, i.size, i.bytes)) = some (some (.string ByteArray.empty), 1, 16) := by kernel_rfl
theorem Try.info33 : (Try.prog.info? 33).map (fun i => (i.zero, i.size, i.bytes)) = some (some (.slice none 0 0), 1, 24) := by kernel_rfl
theorem law9 : Keyed Try.prog 9 := string_keyed Try.underlying9
theorem run_makeMapN (n : Int) (w : World) : (Instr.makeMap 39 (some (.int .i64 n))).run Try.prog w = .ok (.map (some w.heap.size)) (w.alloc (.map #[] 0)) := by
  simp [Instr.makeMap, run_underlying Try.underlying39, Result.andThen, asInt]
  rfl
/-- The four cells of a graph. -/
def gcell (x0 x1 : Value) (Ba n : Nat) (L : Value) : Nat → Value
  | 0 => x0
  | 1 => x1
  | 2 => .slice (some ⟨Ba, 0, none⟩) n n
  | _ => L
theorem Below.by {w w' : World} (h : Below w.heap.size w w') : w.grownBy w' none := ⟨h.os, h.tape, h.output, h.size, fun k hk _ => h.block k hk⟩

/-- What holds of zzGraphOf's world behind k rounds. -/
structure GR (w wr : World) (n k : Nat) : Prop where
  nm : ∃ f, wr.rowIs w.heap.size 9 n f
  mp : ∃ D : DataW Unit, wr.ownsMap Try.prog 9 (plainElem Try.prog 3) (w.heap.size + 1) k D
  aj : wr.rowIs (w.heap.size + 1 + 1) 33 n (fun _ => .slice none 0 0)
  be : Below w.heap.size w wr
theorem GR.start (w : World) (n : Nat) : GR w (((w.alloc (.cells (madeCells #[.string ByteArray.empty] n) 9)).alloc (.map #[] 0)).alloc (.cells (madeCells #[.slice none 0 0] n) 33)) n 0 := by
  have h1 := World.rowIs_made w (.string ByteArray.empty) n 9
  have h2 := World.ownsMap_made (H := Unit) (w.alloc (.cells (madeCells #[.string ByteArray.empty] n) 9)) Try.prog 9 (plainElem Try.prog 3)
  have h3 := World.rowIs_made ((w.alloc (.cells (madeCells #[.string ByteArray.empty] n) 9)).alloc (.map #[] 0)) (.slice none 0 0) n 33
  simp only [World.size_alloc] at h2 h3
  refine ⟨⟨_, (h1.alloc _).alloc _⟩, ⟨_, h2.alloc _⟩, h3, ?_⟩
  exact (((Below.refl _ _).alloc (Nat.le_refl _) _).alloc (by simp) _).alloc (by simp; omega) _
theorem GR.step {w wr w1 w3 : World} {n k : Nat} {v : Value} {D' : DataW Unit} (h : GR w wr n k) (h1 : Below wr.heap.size wr w1) 
    (h3 : w3.ownsMap Try.prog 9 (plainElem Try.prog 3) (w.heap.size + 1) (k + 1) D') (hg : (w1.setCell ⟨w.heap.size, k, none⟩ v).grownBy w3 (some (w.heap.size + 1))) : GR w w3 n (k + 1) := by
  obtain ⟨⟨f, hf⟩, _, ha, hb⟩ := h
  have l1 := hf.lt
  have l2 := ha.lt
  have hs := h1.size
  have f1 : w1.rowIs w.heap.size 9 n f := hf.of_block (h1.block _ l1)
  have a1 : w1.rowIs (w.heap.size + 1 + 1) 33 n (fun _ => .slice none 0 0) := ha.of_block (h1.block _ l2)
  have f2 := f1.set k v
  have a2 : (w1.setCell ⟨w.heap.size, k, none⟩ v).rowIs (w.heap.size + 1 + 1) 33 n (fun _ => .slice none 0 0) := a1.setOther (by show w.heap.size + 1 + 1 ≠ w.heap.size; omega) v
  have b2 : Below w.heap.size w (w1.setCell ⟨w.heap.size, k, none⟩ v) := (hb.trans (h1.mono (Nat.le_of_lt l1))).setCell (Nat.le_refl _) v
  refine ⟨⟨_, f2.of_block (hg.block _ f2.lt (by simp))⟩, ⟨_, h3⟩, a2.of_block (hg.block _ a2.lt (by simp)), ?_⟩
  exact b2.grown hg (Nat.le_of_lt f2.lt) (fun j hj => by cases hj; omega)

set_option maxHeartbeats 1000000 in
theorem graph_any (n : Nat) (hn : n ≤ 4096) (w : World) :
    Calls Try.prog 6 #[.int .i64 n] w fun e w' => ∃ Bg Ba x0 x1, e = .returned (.pointer (some ⟨Bg, 0, none⟩)) ∧ w'.rowIs Bg 44 4 (gcell x0 x1 Ba n (.map none)) ∧ w'.rowIs Ba 33 n (fun _ => .slice none 0 0) ∧
      w.heap.size ≤ Ba ∧ Ba < Bg ∧ Below w.heap.size w w' := by
  have hmk1 := run_make_row' (P := Try.prog) 38 9 (.string ByteArray.empty) 16 Try.underlying38 Try.info9 rfl .i64 .i64 n (by omega) (by omega)
  have hmk2 := run_make_row' (P := Try.prog) 31 33 (.slice none 0 0) 24 Try.underlying31 Try.info33 rfl .i64 .i64 n (by omega) (by omega)
  have hmm := run_makeMapN n
  go_enter Try.func6, Try.ntmps6
  go_wp2
  go_loopw [6] (fun a wr => ∃ k : Nat, k ≤ n ∧ a = .int .i64 k ∧ GR w wr n k) (fun a _ => n - (intOf a).toNat)
  case atStart => exact ⟨0, Nat.zero_le _, rfl, GR.start w n⟩
  case round =>
    obtain ⟨k, hk, rfl, hr⟩ := hrel
    by_cases hlt : k < n
    · obtain ⟨⟨f, hf⟩, ⟨D, hD⟩, ha, hb⟩ := id hr
      go_wp2_with fail
      refine (itoa_any _ (by omega) (by omega) _).mono ?_
      rintro e w1 ⟨s, rfl, hsz, hb1⟩
      have l1 := hf.lt
      have hc : w1.cell? ⟨w.heap.size, k, none⟩ = some (f k) := (hf.of_block (hb1.block _ l1)).cell hlt
      have hfz : w1.frozen? ⟨w.heap.size, k, none⟩ = false := (hf.of_block (hb1.block _ l1)).frozen k
      have hm1 : w1.ownsMap Try.prog 9 (plainElem Try.prog 3) (w.heap.size + 1) k D := hD.kept (Below.by hb1) (by simp)
      clear hmk1 hmk2 hmm ha hb hf hD
      have hs9 : ((ByteArray.mk #[109]) ++ s).size ≤ maxLen := by
        rw [ByteArray.size_append]
        have : (ByteArray.mk #[109]).size = 1 := rfl
        unfold maxLen; omega
      go_wp2_with (at_mapUpdate; refine wpList_mapUpdate_own _ rfl _ _ _ 39 rfl 9 3 law9 Try.underlying39 _ (w.heap.size + 1) k _ rfl (hm1.setCell (a := ⟨w.heap.size, k, none⟩) (by simp) _) (by unfold maxLen; omega) _ _ _ rfl rfl (WideMaps.keyOf_string_mk Try.underlying9 hs9) _ [] (plainElem_int Try.underlying3 (WalkArith.wf_i64 (by omega))) ?_; intro w3 h3 hg)
      have R := hr.step hb1 h3 hg
      clear hg h3 hm1 hc hfz
      go_wp2
      go_roundw
      case rel => exact ⟨k + 1, by omega, by go_num, R⟩
      case measure => simp [intOf]; omega
    · obtain rfl : k = n := by omega
      clear hmk1 hmk2 hmm
      obtain ⟨_, _, ha, hb⟩ := hr
      go_wp2_with (go_at_call 12; go_in)
      go_ret
      refine ⟨_, _, .slice (some ⟨w.heap.size, 0, none⟩) k k, .map (some (w.heap.size + 1)), rfl, World.rowIs_alloc _ _ _ _ ?_, ha.alloc _, by omega, ha.lt, hb.alloc hb.size _⟩
      intro i hi
      match i, hi with
      | 0, _ => rfl
      | 1, _ => rfl
      | 2, _ => rfl
      | 3, _ => rfl
end Go.Proofs.Qxb6628175a
