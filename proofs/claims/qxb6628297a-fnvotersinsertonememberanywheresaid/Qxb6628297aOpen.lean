/-
  seat b6628297a: the members and the removed ids, opened out of the row's reading.
-/
import Derived.Test.Qxb6628297aLeaf
import Derived.WalkKit
import Derived.ProofKit
import Derived.OpenShut
import Derived.Deep.Slices
namespace Go.Proofs.Qxb6628297a
open Go.ChangeShapes Go.WideShapes Go.ChangeAt Go.RowKit

theorem Try.cells28 : Try.prog.cellsOf 28 = 6 := by kernel_rfl
theorem Try.cells3 : Try.prog.cellsOf 3 = 1 := by kernel_rfl
theorem Try.cells9 : Try.prog.cellsOf 9 = 1 := by kernel_rfl
theorem Try.cells4 : Try.prog.cellsOf 4 = 1 := by kernel_rfl
theorem Try.cells24 : Try.prog.cellsOf 24 = 1 := by kernel_rfl
theorem Try.laidOut : laidOutB Try.prog = true := by kernel_rfl

/-- One member's six cells, read. -/
theorem open_mem {H : Type} {enc : TypeId × Value → H} {W : World} {base fuel : Nat} {sp : Nat → Bool} {held : Bool} {cs : List Value} {x : DataW H × List MemPlace}
    (h : DataW.trod enc Try.prog W base sp held fuel 28 cs = some x) : ∃ m : Mem, cs = [.int .i64 m.id, .string m.ad, .string m.cl, .bool m.cu, .int .u64 m.si, .int .u64 m.ic] := by
  obtain ⟨xs, k, _, _, hlen, hxl, hf⟩ := DataW.trod_struct Try.underlying28 h
  rw [Try.cells28] at hlen
  have hxl' : xs.length = 6 := hxl
  match cs, hlen, xs, hxl' with
  | [v0, v1, v2, v3, v4, v5], _, [y0, y1, y2, y3, y4, y5], _ =>
    have g0 := hf 0 _ rfl
    have g1 := hf 1 _ rfl
    have g2 := hf 2 _ rfl
    have g3 := hf 3 _ rfl
    have g4 := hf 4 _ rfl
    have g5 := hf 5 _ rfl
    simp [Try.cells3] at g0
    simp [Try.cells9] at g1 g2
    simp [Try.cells4] at g3
    simp [Try.cells24] at g4 g5
    obtain ⟨a0, e0, _⟩ := DataW.trod_int Try.underlying3 g0
    obtain ⟨a1, e1, _⟩ := DataW.trod_string Try.underlying9 g1
    obtain ⟨a2, e2, _⟩ := DataW.trod_string Try.underlying9 g2
    obtain ⟨a3, e3, _⟩ := DataW.trod_bool Try.underlying4 g3
    obtain ⟨a4, e4, _⟩ := DataW.trod_int Try.underlying24 g4
    obtain ⟨a5, e5, _⟩ := DataW.trod_int Try.underlying24 g5
    simp at e0 e1 e2 e3 e4 e5
    exact ⟨⟨a0, a1, a2, a3, a4, a5⟩, by simp [e0, e1, e2, e3, e4, e5]⟩

/-- The members, opened. -/
theorem open_mems {H : Type} {enc : TypeId × Value → H} {W : World} {fuel : Nat} {a : Option Addr} {len cap : Nat} {x : DataW H × List MemPlace}
    (h : DataW.trod enc Try.prog W 0 (fun _ => true) true fuel 22 [.slice a len cap] = some x) : len ≤ 9223372036854775807 ∧ ∃ M, IsMems W a len M := by
  rcases Deep.open_slice Try.underlying22 h with ⟨hcs, _⟩ | ⟨ad, l, c, m, n, D, Pl, hcs, _, hl, hm, hmm, _, hx⟩
  · simp at hcs
    obtain ⟨rfl, rfl, rfl⟩ := hcs
    exact ⟨by omega, fun _ => ⟨0, ⟨#[]⟩, ⟨#[]⟩, false, 0, 0⟩, .inl rfl⟩
  · simp at hcs
    obtain ⟨rfl, hl', hc'⟩ := hcs
    unfold maxLen at hm
    refine ⟨by omega, ?_⟩
    simp only [if_true] at hmm
    rw [Try.cells28] at hx
    have each : ∀ i, i < m → ∃ q : Mem, W.cell? (ad.add (i * 6)) = some (.int .i64 q.id) ∧ W.cell? (ad.add (i * 6 + 1)) = some (.string q.ad) ∧ W.cell? (ad.add (i * 6 + 2)) = some (.string q.cl) ∧
        W.cell? (ad.add (i * 6 + 3)) = some (.bool q.cu) ∧ W.cell? (ad.add (i * 6 + 4)) = some (.int .u64 q.si) ∧ W.cell? (ad.add (i * 6 + 5)) = some (.int .u64 q.ic) := by
      intro i hi
      obtain ⟨cs', h1, h2⟩ := hx i hi
      obtain ⟨_, _, hcell⟩ := World.cells?_some h1
      obtain ⟨q, rfl⟩ := open_mem h2
      have c := fun j hj => (Deep.add_add ad (i * 6) j) ▸ hcell j hj
      exact ⟨q, by simpa using c 0 (by omega), by simpa using c 1 (by omega), by simpa using c 2 (by omega), by simpa using c 3 (by omega), by simpa using c 4 (by omega), by simpa using c 5 (by omega)⟩
    by_cases h0 : len = 0
    · exact ⟨fun _ => ⟨0, ⟨#[]⟩, ⟨#[]⟩, false, 0, 0⟩, .inl h0⟩
    · obtain ⟨q0, hq0, _⟩ := each 0 (by omega)
      obtain ⟨b, off, spot⟩ := ad
      have hspot : spot = none := by simpa [Addr.add] using World.cell?_spot hq0
      subst hspot
      have each' : ∀ i, i < m → ∃ q : Mem, IsMem W b (off + i * 6) q := by
        intro i hi
        obtain ⟨q, e0, e1, e2, e3, e4, e5⟩ := each i hi
        rw [add_plain] at e0 e1 e2 e3 e4 e5
        rw [← Nat.add_assoc] at e1 e2 e3 e4 e5
        exact ⟨q, e0, e1, e2, e3, e4, e5⟩
      refine ⟨fun i => if hi : i < m then (each' i hi).choose else ⟨0, ⟨#[]⟩, ⟨#[]⟩, false, 0, 0⟩, .inr ⟨b, off, rfl, fun i hi => ?_⟩⟩
      have hi' : i < m := by omega
      simp only [dif_pos hi']
      exact (each' i hi').choose_spec

/-- The removed ids' length. -/
theorem open_len {H : Type} {enc : TypeId × Value → H} {W : World} {fuel : Nat} {a : Option Addr} {len cap : Nat} {x : DataW H × List MemPlace}
    (h : DataW.trod enc Try.prog W 0 (fun _ => true) true fuel 23 [.slice a len cap] = some x) : len ≤ 9223372036854775807 := by
  rcases Deep.open_slice Try.underlying23 h with ⟨hcs, _⟩ | ⟨ad, l, c, m, n, D, Pl, hcs, _, hl, hm, hmm, _, hx⟩
  · simp at hcs
    omega
  · simp at hcs
    unfold maxLen at hm
    omega
end Go.Proofs.Qxb6628297a
