/-
  WALKS of seat b6628297a: (Config).Voters: the voters' ids, in a row of its own; no old memory is written.
-/
import Derived.Test.Qxb6628297aConv
import Derived.Deep.AppendLies
import Derived.OwnWalk
namespace Go.Proofs.Qxb6628297a
open Go.RowKit

theorem Try.info3 : (Try.prog.info? 3).map (fun i => (i.zero, i.size, i.bytes)) = some (some (.int .i64 0), 1, 8) := by kernel_rfl
theorem news2 (w : World) (X : Obj) (v : Value) (t : TypeId) : ∀ j u, [v][j]? = some u → ((w.alloc X).alloc (.cells #[v] t)).cell? ((⟨w.heap.size + 1, 0, none⟩ : Addr).add j) = some u := by
  refine World.news_of_block (cs := #[v]) (t := t) (fr := (0, 0)) ?_
  have := heap_alloc_new (w.alloc X) (.cells #[v] t)
  simpa using this
/-- The value v owns the numbers l. -/
def Owns (w : World) (B : Nat) (v : Value) (l : List Int) : Prop := w.ownsRow B 3 1 v l.length (l.map (Value.int .i64))

set_option maxRecDepth 100000 in
set_option maxHeartbeats 1600000 in
theorem voters_some (M : Nat → Mem) (b off len cap : Nat) (ra : Option Addr) (rn rc : Nat) (at' : Int) (hl : len ≤ 2097152) (w : World) (hM : ∀ i, i < len → IsMem w b (off + i * 6) (M i)) :
    Calls Try.prog 8 #[.agg #[.slice (some ⟨b, off, none⟩) len cap, .slice ra rn rc, .int .u64 at']] w fun e w' => (∃ v, e = .returned v ∧ Owns w' w.heap.size v (votTo M len)) ∧ Below w.heap.size w w' := by
  have HM : Hid (∀ i, i < len → IsMem w b (off + i * 6) (M i)) := hM
  clear hM
  obtain ⟨i0, hi0, hz0, hz1, hz2⟩ := info_parts Try.info3
  go_enter Try.func8, Try.ntmps8
  go_wp2
  go_loopw [3, 9] (fun s3 s9 wr => ∃ i : Nat, i ≤ len ∧ s9 = .int .i64 i ∧ Owns wr w.heap.size s3 (votTo M i) ∧ Below w.heap.size w wr) (fun _ s9 _ => len - (intOf s9).toNat)
  case atStart => exact ⟨0, Nat.zero_le _, rfl, World.ownsRow_nil _ _ _ _, (Below.refl _ _).alloc (Nat.le_refl _) _⟩
  case round =>
    obtain ⟨i, hi, rfl, hO, hb⟩ := hrel
    have HO : Hid (Owns wr w.heap.size u3 (votTo M i)) := hO
    have HB : Hid (Below w.heap.size w wr) := hb
    clear hO hb
    have hsz := HB.out.size
    have hvl := vot_le M i
    by_cases hlt : i < len
    · have hm := HM.out i hlt
      obtain ⟨c0, c1, c2, c3, c4, c5⟩ := hm.below hm.lt HB.out
      clear hm
      cases hcu : (M i).cu with
      | true =>
        have HE : Hid (votTo M (i + 1) = votTo M i) := vot_miss M i hcu
        rw [hcu] at c3
        go_wp2
        go_roundw
        case rel => exact ⟨i + 1, by omega, by go_num, by rw [HE.out]; exact World.ownsRow.alloc HO.out _, HB.out.alloc HB.out.size _⟩
        case measure => simp [intOf]; omega
      | false =>
        have HE : Hid (votTo M (i + 1) = votTo M i ++ [(M i).id]) := vot_hit M i hcu
        rw [hcu] at c3
        go_wp2_with (at_builtin; refine wpList_append_own _ rfl _ _ 23 rfl w.heap.size 3 i0 (.int .i64 0) 1 8 Try.underlying23 hi0 hz0 hz1 hz2 rfl (by decide) _ _ _ rfl (World.ownsRow.alloc (World.ownsRow.alloc HO.out _) _) ⟨wr.heap.size + 1, 0, none⟩ 1 1 [.int .i64 (M i).id] rfl rfl (news2 _ _ _ _) (ints_oneCell .i64 [(M i).id]) (by unfold maxLen; omega) (by omega) (by simp; omega) ?_; intro v' w1 hown' hgrow hnil)
        have R1 : Hid (Owns w1 w.heap.size v' (votTo M (i + 1))) := by
          rw [HE.out]
          unfold Owns
          rw [List.length_append, List.map_append]
          exact hown'
        have R2 : Hid (Below w.heap.size w w1) := ((HB.out.alloc HB.out.size _).alloc (by have := HB.out.size; simp; omega) _).grown hgrow (by have := HB.out.size; simp; omega) (fun k hk => (World.ownsRow.lt HO.out k hk).1)
        clear hown' hgrow hnil c0 c1 c2 c3 c4 c5
        go_wp2
        go_roundw
        case rel => exact ⟨i + 1, by omega, by go_num, R1.out, R2.out⟩
        case measure => simp [intOf]; omega
    · obtain rfl : i = len := by omega
      go_wp2
      go_ret
      exact ⟨⟨_, rfl, HO.out⟩, HB.out⟩
set_option maxRecDepth 100000 in
theorem voters_none (ao : Option Addr) (cap : Nat) (ra : Option Addr) (rn rc : Nat) (at' : Int) (w : World) :
    Calls Try.prog 8 #[.agg #[.slice ao 0 cap, .slice ra rn rc, .int .u64 at']] w fun e w' => (∃ v, e = .returned v ∧ Owns w' w.heap.size v []) ∧ Below w.heap.size w w' := by
  go_enter Try.func8, Try.ntmps8
  go_wp2
  refine wp_loop_rounds 1 ?_
  rw [rounds_succ]
  go_wp2
  go_ret
  exact ⟨⟨_, rfl, World.ownsRow_nil _ _ _ _⟩, (Below.refl _ _).alloc (Nat.le_refl _) _⟩
/-- (Config).Voters, at every input. -/
theorem voters_any (M : Nat → Mem) (ao : Option Addr) (len cap : Nat) (ra : Option Addr) (rn rc : Nat) (at' : Int) (hl : len ≤ 2097152) (w : World) (hM : IsMems w ao len M) :
    Calls Try.prog 8 #[.agg #[.slice ao len cap, .slice ra rn rc, .int .u64 at']] w fun e w' => (∃ v, e = .returned v ∧ Owns w' w.heap.size v (votTo M len)) ∧ Below w.heap.size w w' := by
  rcases hM with rfl | ⟨b, off, rfl, hM⟩
  · exact voters_none ao cap ra rn rc at' w
  · exact voters_some M b off len cap ra rn rc at' hl w hM

/-- What an owned row's slice looks like. -/
theorem Owns.form {w : World} {B : Nat} {v : Value} {l : List Int} (h : Owns w B v l) :
    ∃ ao cap, v = .slice ao l.length cap ∧ (0 < l.length → ∃ g, ao = some ⟨g, 0, none⟩ ∧ B ≤ g ∧ g < w.heap.size ∧ ∀ j, j < l.length → w.cell? ⟨g, j, none⟩ = some (.int .i64 (l.getD j 0))) := by
  have h' : w.ownsRow B 3 1 v l.length (l.map (Value.int .i64)) := h
  rcases h'.2 with ⟨h1, h2⟩ | ⟨g, cap, cur, h1, hB, hg, _, _, _, _⟩
  · exact ⟨none, 0, by rw [h2]; exact h1, fun h0 => by omega⟩
  · refine ⟨_, cap, h1, fun _ => ⟨g, rfl, hB, (Array.getElem?_eq_some_iff.1 hg).1, fun j hj => ?_⟩⟩
    have e := h'.cells (g := g) (by rw [h1]; rfl) j (.int .i64 (l.getD j 0)) (by simp [hj])
    have hadd : (⟨g, 0, none⟩ : Addr).add j = ⟨g, j, none⟩ := by unfold Addr.add; split <;> simp_all
    rw [hadd] at e
    exact e
/-- A slice that reads as the numbers l. -/
def Reads (w : World) (ao : Option Addr) (l : List Int) : Prop := 0 < l.length → ∃ g, ao = some ⟨g, 0, none⟩ ∧ g < w.heap.size ∧ ∀ j, j < l.length → w.cell? ⟨g, j, none⟩ = some (.int .i64 (l.getD j 0))
theorem Reads.below {w w' : World} {ao : Option Addr} {l : List Int} (h : Reads w ao l) (hb : Below w.heap.size w w') : Reads w' ao l := by
  intro h0
  obtain ⟨g, e, hg, hc⟩ := h h0
  exact ⟨g, e, Nat.lt_of_lt_of_le hg hb.size, fun j hj => (hb.cell (by exact hg)).trans (hc j hj)⟩
theorem Owns.reads {w : World} {B : Nat} {v : Value} {l : List Int} (h : Owns w B v l) : ∃ ao cap, v = .slice ao l.length cap ∧ Reads w ao l := by
  obtain ⟨ao, cap, e, hr⟩ := h.form
  refine ⟨ao, cap, e, fun h0 => ?_⟩
  obtain ⟨g, e1, _, hg, hc⟩ := hr h0
  exact ⟨g, e1, hg, hc⟩

set_option maxRecDepth 100000 in
set_option maxHeartbeats 1600000 in
/-- sameInts of two slices that read alike. -/
theorem same_any (a1 a2 : Option Addr) (l : List Int) (c1 c2 : Nat) (hl : l.length ≤ 4194304) (w : World) (h1 : Reads w a1 l) (h2 : Reads w a2 l) :
    Calls Try.prog 11 #[.slice a1 l.length c1, .slice a2 l.length c2] w fun e w' => e = .returned (.bool true) ∧ Below w.heap.size w w' := by
  by_cases h0 : 0 < l.length
  · obtain ⟨g1, rfl, lg1, hc1⟩ := h1 h0
    obtain ⟨g2, rfl, lg2, hc2⟩ := h2 h0
    have HC1 : Hid (∀ j, j < l.length → w.cell? ⟨g1, j, none⟩ = some (.int .i64 (l.getD j 0))) := hc1
    have HC2 : Hid (∀ j, j < l.length → w.cell? ⟨g2, j, none⟩ = some (.int .i64 (l.getD j 0))) := hc2
    clear hc1 hc2 h1 h2
    go_enter Try.func11, Try.ntmps11
    go_wp2
    go_loopw [5] (fun s5 wr => ∃ i : Nat, i ≤ l.length ∧ s5 = .int .i64 i ∧ Below w.heap.size w wr) (fun s5 _ => l.length - (intOf s5).toNat)
    case atStart => exact ⟨0, Nat.zero_le _, rfl, Below.refl _ _⟩
    case round =>
      obtain ⟨i, hi, rfl, hb⟩ := hrel
      have HB : Hid (Below w.heap.size w wr) := hb
      clear hb
      by_cases hlt : i < l.length
      · obtain ⟨z, hz⟩ : ∃ z, z = l.getD i 0 := ⟨_, rfl⟩
        have d1 : wr.cell? ⟨g1, i, none⟩ = some (.int .i64 z) := by rw [hz]; exact (HB.out.cell (by exact lg1)).trans (HC1.out i hlt)
        have d2 : wr.cell? ⟨g2, i, none⟩ = some (.int .i64 z) := by rw [hz]; exact (HB.out.cell (by exact lg2)).trans (HC2.out i hlt)
        clear hz
        have hk0 : (0 : Int) ≤ (i : Int) := by omega
        have hk1 : (i : Int) < (l.length : Int) := by omega
        go_wp2_with fail
        go_quiet (fail)
        go_wp2
        go_roundw
        case rel => exact ⟨i + 1, by omega, by go_num, below_drewN HB.out _⟩
        case measure => simp [intOf]; omega
      · go_wp2
        go_ret
        exact ⟨rfl, HB.out⟩
  · have hz : l.length = 0 := by omega
    rw [hz]
    clear h1 h2
    go_enter Try.func11, Try.ntmps11
    go_wp2
    refine wp_loop_rounds 1 ?_
    rw [rounds_succ]
    go_wp2
    go_ret
    exact ⟨rfl, Below.refl _ _⟩
end Go.Proofs.Qxb6628297a
