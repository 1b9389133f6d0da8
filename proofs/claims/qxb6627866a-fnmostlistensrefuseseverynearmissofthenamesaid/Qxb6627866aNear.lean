/-
  WHAT THE SECOND LAW OF SEAT b6627866a WANTS BESIDES: the near miss as bytes and as cells.
-/
import Derived.Test.Qxb6627866aWalks
import Derived.Laws.IdiomStrings
namespace Go.Proofs.Qxb6627866a
open Go.RowKit

/-- The cells of b behind k rounds. -/
def fill (k : Nat) : Array Value := ((nm.take k).map (fun c => Value.int .u8 (c.toNat : Int)) ++ List.replicate (16 - k) (Value.int .u8 0)).toArray
/-- The near miss: the name with byte n turned into c. -/
def near (n : Nat) (c : Int) : ByteArray := ⟨(nm.set n (UInt8.ofNat c.toNat)).toArray⟩

theorem fill_size (k : Nat) (h : k ≤ 16) : (fill k).size = 16 := by
  simp [fill, nm]; omega
theorem fill_step (k : Nat) (h : k < 16) (hp : k < (ByteArray.mk #[83, 83, 72, 45, 50, 46, 48, 45, 100, 114, 111, 112, 98, 101, 97, 114]).size) :
    (fill k).setIfInBounds k (.int .u8 (((ByteArray.mk #[83, 83, 72, 45, 50, 46, 48, 45, 100, 114, 111, 112, 98, 101, 97, 114])[k]'hp).toNat : Int)) = fill (k + 1) := by
  rcases (show k = 0 ∨ k = 1 ∨ k = 2 ∨ k = 3 ∨ k = 4 ∨ k = 5 ∨ k = 6 ∨ k = 7 ∨ k = 8 ∨ k = 9 ∨ k = 10 ∨ k = 11 ∨ k = 12 ∨ k = 13 ∨ k = 14 ∨ k = 15 from by omega) with
    rfl | rfl | rfl | rfl | rfl | rfl | rfl | rfl | rfl | rfl | rfl | rfl | rfl | rfl | rfl | rfl
  all_goals rfl
theorem near_size (n : Nat) (c : Int) : (near n c).size = 16 := by
  simp [near, ByteArray.size, nm]
theorem byte_back (c : Int) (h2 : 0 ≤ c) (h3 : c ≤ 255) : ((UInt8.ofNat c.toNat).toNat : Int) = c := by
  rw [UInt8.toNat_ofNat']; omega
theorem fill_all : fill 16 = (nm.map (fun c => Value.int .u8 (c.toNat : Int))).toArray := rfl
theorem near_cell (w : World) (n : Nat) (c : Int) (h2 : 0 ≤ c) (h3 : c ≤ 255) (j : Nat) (hj : j < (nm.set n (UInt8.ofNat c.toNat)).length) :
    (w.alloc (.cells ((fill 16).setIfInBounds n (.int .u8 c)) 5)).cell? ((⟨w.heap.size, 0, none⟩ : Addr).add j) = some (.int .u8 ((nm.set n (UInt8.ofNat c.toNat))[j].toNat : Int)) := by
  have e : (⟨w.heap.size, 0, none⟩ : Addr).add j = ⟨w.heap.size, j, none⟩ := by unfold Addr.add; split <;> simp_all
  rw [e, World.cell?_alloc_at _ _ _ _ rfl, fill_all, Array.getElem?_setIfInBounds, List.getElem_set]
  have hj' : j < nm.length := by simpa using hj
  by_cases hn : n = j
  · subst hn
    simp [hj']; omega
  · simp [hn, hj']
theorem conv (w : World) (n : Nat) (c : Int) (h2 : 0 ≤ c) (h3 : c ≤ 255) :
    (convert 25 9 (.slice (some ⟨w.heap.size, 0, none⟩) 16 16)).run Try.prog (w.alloc (.cells ((fill 16).setIfInBounds n (.int .u8 c)) 5)) = .ok (.string (near n c)) (w.alloc (.cells ((fill 16).setIfInBounds n (.int .u8 c)) 5)) := by
  have h := run_convert_bytes_back (P := Try.prog) (w.alloc (.cells ((fill 16).setIfInBounds n (.int .u8 c)) 5)) 25 9 5 ⟨w.heap.size, 0, none⟩ 16 (nm.set n (UInt8.ofNat c.toNat)) Try.underlying25 Try.underlying5 Try.underlying9 (near_cell w n c h2 h3)
  have e : (nm.set n (UInt8.ofNat c.toNat)).length = 16 := by simp [nm]
  rw [e] at h
  exact h
theorem ml_near (n : Nat) (c : Int) (s : ByteArray) (h1 : n < nm.length) (h2 : 0 ≤ c) (h3 : c ≤ 255) (hne : c ≠ ((nm[n]'h1).toNat : Int)) : ml (near n c ++ s) = 0 := by
  rw [ml_app _ _ (by rw [near_size]; exact Nat.le_refl _)]
  unfold ml
  have e : isDb (near n c).data.toList = false := by
    unfold isDb near
    rw [beq_eq_false_iff_ne]
    intro h
    have h16 : (nm.set n (UInt8.ofNat c.toNat)).length = 16 := by simp [nm]
    rw [List.take_of_length_le (by simp [nm])] at h
    have hg := congrArg (fun l => l[n]?) h
    simp [h1] at hg
    apply hne
    rw [← hg, byte_back c h2 h3]
  rw [e]; rfl
theorem size_near (n : Nat) (c : Int) (s : ByteArray) (h : s.size ≤ 65536) : (near n c ++ s).size ≤ maxLen := by
  rw [ByteArray.size_append, near_size]; unfold maxLen; omega
end Go.Proofs.Qxb6627866a
