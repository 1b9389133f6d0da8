/-
  seat b6628297a: the fourth law's leaves: the cells of a row of members with one put in; the ways on which the law answers true at once.
-/
import Derived.Test.Qxb6628297aVoters
import Derived.Test.Qxb6628297aFits
namespace Go.Proofs.Qxb6628297a
open Go.RowKit

/-- The six cells of a member, in a row. -/
def memC (m : Mem) : List Value := [.int .i64 m.id, .string m.ad, .string m.cl, .bool m.cu, .int .u64 m.si, .int .u64 m.ic]
/-- The cells of the first n members. -/
def memL (M : Nat → Mem) : Nat → List Value
  | 0 => []
  | i + 1 => memL M i ++ memC (M i)
theorem memL_len (M : Nat → Mem) : ∀ n, (memL M n).length = n * 6
  | 0 => rfl
  | i + 1 => by rw [memL, List.length_append, memL_len M i, Nat.add_mul]; rfl
theorem memC_one (m : Mem) : ∀ u ∈ memC m, u.oneCell' = true := by
  intro u hu
  simp only [memC, List.mem_cons, List.not_mem_nil, or_false] at hu
  rcases hu with rfl | rfl | rfl | rfl | rfl | rfl <;> rfl
theorem memL_one (M : Nat → Mem) : ∀ n, ∀ u ∈ memL M n, u.oneCell' = true
  | 0 => by intro u hu; cases hu
  | i + 1 => by
    intro u hu
    rw [memL, List.mem_append] at hu
    rcases hu with hu | hu
    · exact memL_one M i u hu
    · exact memC_one _ u hu
theorem memC_get (m : Mem) : ∀ q, q < 6 → (memC m)[q]? = some (mc m q) := by
  intro q hq
  rcases (show q = 0 ∨ q = 1 ∨ q = 2 ∨ q = 3 ∨ q = 4 ∨ q = 5 from by omega) with rfl | rfl | rfl | rfl | rfl | rfl <;> rfl
theorem memL_get (M : Nat → Mem) : ∀ n i q, i < n → q < 6 → (memL M n)[i * 6 + q]? = some (mc (M i) q)
  | 0, i, q, hi, _ => by omega
  | n + 1, i, q, hi, hq => by
    rw [memL]
    by_cases e : i < n
    · rw [List.getElem?_append_left (by rw [memL_len]; omega)]
      exact memL_get M n i q e hq
    · obtain rfl : i = n := by omega
      rw [List.getElem?_append_right (by rw [memL_len]; omega), memL_len, Nat.add_sub_cancel_left]
      exact memC_get _ q hq
theorem memL_split (M : Nat → Mem) (k : Nat) : ∀ d, memL M (k + d) = memL M k ++ memL (fromK M k) d
  | 0 => by simp [memL]
  | d + 1 => by
    show memL M (k + d) ++ memC (M (k + d)) = _
    rw [memL_split M k d]
    simp [memL, fromK]
theorem memL_congr (M M' : Nat → Mem) : ∀ n, (∀ i, i < n → M i = M' i) → memL M n = memL M' n
  | 0, _ => rfl
  | i + 1, h => by
    simp only [memL]
    rw [memL_congr M M' i (fun j hj => h j (by omega)), h i (by omega)]
/-- The cells with m put in at place k. -/
theorem memL_put (M : Nat → Mem) (k d : Nat) (m : Mem) : memL (putIn M k m) (k + d + 1) = memL M k ++ memC m ++ memL (fromK M k) d := by
  rw [show k + d + 1 = k + 1 + d from by omega, memL_split (putIn M k m) (k + 1) d]
  have e1 : memL (putIn M k m) k = memL M k := memL_congr _ _ k (fun i hi => by simp [putIn, hi])
  have e2 : memL (fromK (putIn M k m) (k + 1)) d = memL (fromK M k) d := by
    refine memL_congr _ _ d (fun i _ => ?_)
    simp only [fromK, putIn]
    rw [if_neg (by omega), if_neg (by omega)]
    congr 1; omega
  have e3 : putIn M k m k = m := by simp [putIn]
  rw [e2, memL, e1, e3]

/-- A part of a row of members, as cells. -/
theorem MRow.news {w : World} {Bo n : Nat} {M : Nat → Mem} (h : MRow w Bo n M n) (k d : Nat) (hkd : k + d ≤ n) : ∀ j u, (memL (fromK M k) d)[j]? = some u → w.cell? ((⟨Bo, k * 6, none⟩ : Addr).add j) = some u := by
  intro j u hu
  obtain ⟨f, hf, h1⟩ := h
  have hj : j < d * 6 := by
    have := (List.getElem?_eq_some_iff.1 hu).1
    rwa [memL_len] at this
  have e := memL_get (fromK M k) d (j / 6) (j % 6) (by omega) (by omega)
  rw [show j / 6 * 6 + j % 6 = j from by omega, hu] at e
  have hadd : (⟨Bo, k * 6, none⟩ : Addr).add j = ⟨Bo, k * 6 + j, none⟩ := by unfold Addr.add; split <;> simp_all
  rw [hadd, hf.cell (by omega), e]
  have := h1 (k + j / 6) (by omega) (j % 6) (by omega)
  rw [show (k + j / 6) * 6 + j % 6 = k * 6 + j from by omega] at this
  rw [this]; rfl
theorem MRow.news0 {w : World} {Bo n : Nat} {M : Nat → Mem} (h : MRow w Bo n M n) (d : Nat) (hkd : d ≤ n) : ∀ j u, (memL M d)[j]? = some u → w.cell? ((⟨Bo, 0, none⟩ : Addr).add j) = some u := by
  have := h.news 0 d (by omega)
  rw [show fromK M 0 = M from by funext i; simp [fromK], Nat.zero_mul] at this
  exact this
/-- A grown row's members. -/
theorem grown_mems {w : World} {B : Nat} {v : Value} {n : Nat} {M : Nat → Mem} (h : w.ownsRow B 35 6 v n (memL M n)) (h0 : 0 < n) :
    ∃ g cap, v = .slice (some ⟨g, 0, none⟩) n cap ∧ ∀ i, i < n → IsMem w g (0 + i * 6) (M i) := by
  rcases h.2 with ⟨h1, h2⟩ | ⟨g, cap, cur, h1, hB, hg, _, _, _, _⟩
  · omega
  · refine ⟨g, cap, h1, fun i hi => ?_⟩
    have c : ∀ q, q < 6 → w.cell? ⟨g, i * 6 + q, none⟩ = some (mc (M i) q) := by
      intro q hq
      have e := h.cells (g := g) (by rw [h1]; rfl) (i * 6 + q) (mc (M i) q) (memL_get M n i q hi hq)
      have hadd : (⟨g, 0, none⟩ : Addr).add (i * 6 + q) = ⟨g, i * 6 + q, none⟩ := by unfold Addr.add; split <;> simp_all
      rw [hadd] at e
      exact e
    rw [Nat.zero_add]
    exact ⟨c 0 (by omega), c 1 (by omega), c 2 (by omega), c 3 (by omega), c 4 (by omega), c 5 (by omega)⟩

/-- What toMembers hands back. -/
def MsForm (w : World) (Bo : Nat) (mo : Option Addr) (len : Nat) (M : Nat → Mem) : Prop := (mo = none ∧ len = 0) ∨ (mo = some ⟨Bo, 0, none⟩ ∧ MRow w Bo len M len)
set_option maxRecDepth 100000 in
theorem toMembers_bare' (M : Nat → Mem) (a : Addr) (cap : Nat) (w : World) : Calls Try.prog 7 #[.slice (some a) 0 cap] w fun e w' => (∃ mo, e = .returned (.slice mo 0 0) ∧ MsForm w' w.heap.size mo 0 M) ∧ Below w.heap.size w w' := by
  have heq := fun (w : World) (a : Option Addr) (n c : Nat) => Lib.run_eql_slice_nil (P := Try.prog) w 22 28 a n c 0 0 Try.underlying22
  have hmk : ∀ w : World, (Instr.makeSlice 29 (.int .i64 0) (.int .i64 0)).run Try.prog w = .ok (.slice (some ⟨w.heap.size, 0, none⟩) 0 0) (w.alloc (.cells #[] 35)) := fun _ => by kernel_rfl
  go_enter Try.func7, Try.ntmps7
  go_wp2
  refine wp_loop_rounds 1 ?_
  rw [rounds_succ]
  go_wp2
  go_ret
  refine ⟨⟨_, rfl, .inr ⟨rfl, ?_⟩⟩, (Below.refl _ _).alloc (Nat.le_refl _) _⟩
  have h := MRow.start w #[] 0 M
  rw [show madeCells #[] (0 * 6) = #[] from Array.eq_empty_of_size_eq_zero (size_madeCells _ _)] at h
  exact h
set_option maxRecDepth 100000 in
theorem toMembers_nil' (M : Nat → Mem) (cap : Nat) (w : World) : Calls Try.prog 7 #[.slice none 0 cap] w fun e w' => (∃ mo, e = .returned (.slice mo 0 0) ∧ MsForm w' w.heap.size mo 0 M) ∧ Below w.heap.size w w' := by
  have heq := fun (w : World) (a : Option Addr) (n c : Nat) => Lib.run_eql_slice_nil (P := Try.prog) w 22 28 a n c 0 0 Try.underlying22
  go_enter Try.func7, Try.ntmps7
  go_wp2
  go_ret
  exact ⟨⟨none, rfl, .inl ⟨rfl, rfl⟩⟩, Below.refl _ _⟩
/-- toMembers, at every input. -/
theorem toMembers_form (M : Nat → Mem) (ao : Option Addr) (len cap : Nat) (hl : len ≤ 1048576) (w : World) (hM : IsMems w ao len M) :
    Calls Try.prog 7 #[.slice ao len cap] w fun e w' => (∃ mo, e = .returned (.slice mo len len) ∧ MsForm w' w.heap.size mo len M) ∧ Below w.heap.size w w' := by
  rcases hM with rfl | ⟨b, off, rfl, hM⟩
  · cases ao with
    | none => exact toMembers_nil' M cap w
    | some a => exact toMembers_bare' M a cap w
  · refine (toMembers_some M b off len cap hl w hM).mono ?_
    rintro e w' ⟨he, hR, hb⟩
    exact ⟨⟨_, he, .inr ⟨rfl, hR⟩⟩, hb⟩
theorem bytes9_any (M : Nat → Mem) (ao : Option Addr) (len cap : Nat) (ra : Option Addr) (rn rc : Nat) (at' k : Int) (m : Mem) (hl : len ≤ 1048576) (hr : rn ≤ 9223372036854775807) (w : World) (hM : IsMems w ao len M) :
    Calls Try.prog 9 #[.slice ao len cap, .slice ra rn rc, .int .u64 at', .agg #[.int .i64 m.id, .string m.ad, .string m.cl, .bool m.cu, .int .u64 m.si, .int .u64 m.ic], .int .i64 k] w fun e w' => SomeBool e ∧ Below w.heap.size w w' := by
  rcases hM with rfl | ⟨b, off, rfl, hM⟩
  · exact bytes9_empty ao cap ra rn rc at' k m hr w
  · exact bytes9_some M b off len cap ra rn rc at' k m hl hr w hM
theorem IsMems.below {w w' : World} {ao : Option Addr} {len : Nat} {M : Nat → Mem} (h : IsMems w ao len M) {B : Nat} (hB : w.heap.size ≤ B) (hb : Below B w w') : IsMems w' ao len M := by
  rcases h with h | ⟨b, off, e, h⟩
  · exact .inl h
  · exact .inr ⟨b, off, e, fun i hi => (h i hi).below (Nat.lt_of_lt_of_le (h i hi).lt hB) hb⟩

set_option maxRecDepth 100000 in
/-- More members than 2^20. -/
theorem insert_over (ao : Option Addr) (len cap : Nat) (ra : Option Addr) (rn rc : Nat) (at' k : Int) (m : Mem) (h : 1048576 < len) (hl : len ≤ 9223372036854775807) (w : World) :
    Calls Try.prog 4 #[.slice ao len cap, .slice ra rn rc, .int .u64 at', .agg #[.int .i64 m.id, .string m.ad, .string m.cl, .bool m.cu, .int .u64 m.si, .int .u64 m.ic], .int .i64 k] w fun e w' => e = .returned (.bool true) ∧ Below w.heap.size w w' := by
  go_enter Try.func4, Try.ntmps4
  go_wp2_with (go_at_call 9; go_in)
  go_ret
  exact ⟨rfl, ((Below.refl _ _).alloc (Nat.le_refl _) _).alloc (by simp) _⟩

set_option maxRecDepth 100000 in
set_option maxHeartbeats 1600000 in
/-- The place out of range. -/
theorem insert_out (M : Nat → Mem) (ao : Option Addr) (len cap : Nat) (ra : Option Addr) (rn rc : Nat) (at' k : Int) (m : Mem) (hk : k < 0 ∨ (len : Int) < k) (hl : len ≤ 1048576) (hr : rn ≤ 9223372036854775807) (w : World) (hM : IsMems w ao len M) :
    Calls Try.prog 4 #[.slice ao len cap, .slice ra rn rc, .int .u64 at', .agg #[.int .i64 m.id, .string m.ad, .string m.cl, .bool m.cu, .int .u64 m.si, .int .u64 m.ic], .int .i64 k] w fun e w' => e = .returned (.bool true) ∧ Below w.heap.size w w' := by
  have HM : Hid (IsMems w ao len M) := hM
  clear hM
  rcases hk with hk | hk
  all_goals
    go_enter Try.func4, Try.ntmps4
    go_wp2_with fail
    refine (bytes9_any M ao len cap ra rn rc at' k m hl hr _ (HM.out.below (Nat.le_refl _) ((Below.refl _ _).alloc (Nat.le_refl _) _))).mono ?_
    rintro e w1 ⟨⟨r, rfl⟩, hw1⟩
    have HB1 : Hid (Below w.heap.size w w1) := ((Below.refl _ _).alloc (Nat.le_refl _) _).trans (hw1.mono (by simp))
    have c0 : w1.cell? ⟨w.heap.size, 0, none⟩ = some (.int .i64 m.id) := (hw1.cell (by simp)).trans (by simp)
    have c1 : w1.cell? ⟨w.heap.size, 1, none⟩ = some (.string m.ad) := (hw1.cell (by simp)).trans (by simp)
    have c2 : w1.cell? ⟨w.heap.size, 2, none⟩ = some (.string m.cl) := (hw1.cell (by simp)).trans (by simp)
    have c3 : w1.cell? ⟨w.heap.size, 3, none⟩ = some (.bool m.cu) := (hw1.cell (by simp)).trans (by simp)
    have c4 : w1.cell? ⟨w.heap.size, 4, none⟩ = some (.int .u64 m.si) := (hw1.cell (by simp)).trans (by simp)
    have c5 : w1.cell? ⟨w.heap.size, 5, none⟩ = some (.int .u64 m.ic) := (hw1.cell (by simp)).trans (by simp)
    clear hw1
    cases r with
    | false =>
      go_wp2
      go_ret
      exact ⟨rfl, HB1.out⟩
    | true =>
      go_wp2_with fail
      refine (fits_any M ao len cap ra rn rc m w1 (HM.out.below (Nat.le_refl _) HB1.out)).mono ?_
      rintro e w2 ⟨⟨r, rfl⟩, hb2⟩
      have HB2 : Hid (Below w.heap.size w w2) := HB1.out.trans (hb2.mono HB1.out.size)
      clear hb2
      cases r with
      | false =>
        go_wp2
        go_ret
        exact ⟨rfl, HB2.out⟩
      | true =>
        go_wp2
        go_ret
        exact ⟨rfl, HB2.out⟩
end Go.Proofs.Qxb6628297a
