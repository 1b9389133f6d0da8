/-
  THE PROOF OF 'Rows.FnVotersInsertOneMemberAnywhereSaid'. The row's frame is the guide's own (proof-skeleton.mjs's print for a law over slices), turned at the members' opening and at the struct by value.
-/
import Derived.Test.Qxb6628297aInsert
import Derived.Test.Qxb6628297aOpen
import Derived.ShutString
import Derived.ChangeOld
import Derived.Below
namespace Go.Proofs.Qxb6628297a.fnVotersInsertOneMemberAnywhere
open Go.ChangeShapes Go.WideShapes Go.ChangeAt Go.RowKit

theorem own : ownKnob Try.prog.godebug = none := by kernel_rfl

theorem walk (M : Nat → Mem) (a0 : Option Addr) (len0 cap0 : Nat) (a1 : Option Addr) (len1 cap1 : Nat) (a2 : Int) (m : Mem) (a4 : Int) (w : World) (hl0 : len0 ≤ 9223372036854775807) (hl1 : len1 ≤ 9223372036854775807) (hM : IsMems w a0 len0 M) :
    Calls Try.prog 4 #[.slice a0 len0 cap0, .slice a1 len1 cap1, .int .u64 a2, .agg #[.int .i64 m.id, .string m.ad, .string m.cl, .bool m.cu, .int .u64 m.si, .int .u64 m.ic], .int .i64 a4] w fun e w' => e = .returned (.bool true) ∧ Below w.heap.size w w' := by
  by_cases c1 : 1048576 < len0
  · exact insert_over a0 len0 cap0 a1 len1 cap1 a2 a4 m c1 hl0 w
  have hl : len0 ≤ 1048576 := Nat.le_of_not_lt c1
  by_cases c2 : a4 < 0 ∨ (len0 : Int) < a4
  · exact insert_out M a0 len0 cap0 a1 len1 cap1 a2 a4 m c2 hl hl1 w hM
  obtain ⟨k, rfl⟩ := Int.eq_ofNat_of_zero_le (show 0 ≤ a4 by omega)
  exact insert_in M a0 len0 cap0 a1 len1 cap1 a2 m k (by omega) hl hl1 w hM

/-! ### THE ROW's STEP -/
set_option maxRecDepth 100000 in
theorem lifted (os : Os) (started : os.Started) (H : Type) (enc : TypeId × Value → H) :
    ReturnsInHanded {} Try.checked os 4 .any (Rows.fnVotersInsertOneMemberAnywhereSpec.pre6 enc Try.prog Try.f4 Rows.fnVotersInsertOneMemberAnywhereRow.domain false) (Rows.fnVotersInsertOneMemberAnywhereSpec.post enc Try.prog Try.f4 false true false false) := by
  refine returnsInHanded_of_change (C := Try.checked) own started (by kernel_rfl) Try.func4
    (ChangeSpec.witness6 (enc := enc) (C := Try.checked) false ⟨#[], #[.slice none 0 0, .slice none 0 0, .int .u64 0, .agg #[.int .i64 0, .string ⟨#[]⟩, .string ⟨#[]⟩, .bool false, .int .u64 0, .int .u64 0], .int .i64 0], []⟩ 8 (by kernel_rfl) (by kernel_rfl) (by kernel_rfl) (by kernel_rfl)) ?_
  intro W base args ds gs before hval0 hW hcnd _
  have hval : ∀ (j : Nat) t v, Try.f4.params[j]? = some t → args[j]? = some v → Value.okWide Try.prog W .any base t v := hval0
  have hW' := hW
  obtain ⟨p, q, hA0, hV, rfl, hfz, hnd⟩ := hW
  have hA : DataW.TrodAll enc Try.prog W 0 (fun _ => true) true Try.f4.params.toList args.toList ds p := hA0
  rw [Try.params4] at hA hval
  obtain ⟨v0, vs0, d0, ds0, p0, q0, hargs, rfl, rfl, h0, r0⟩ := trodAll_cons hA
  obtain ⟨v1, vs1, d1, ds1, p1, q1, rfl, rfl, rfl, h1, r1⟩ := trodAll_cons r0
  obtain ⟨v2, vs2, d2, ds2, p2, q2, rfl, rfl, rfl, h2, r2⟩ := trodAll_cons r1
  obtain ⟨v3, vs3, d3, ds3, p3, q3, rfl, rfl, rfl, h3, r3⟩ := trodAll_cons r2
  obtain ⟨v4, vs4, d4, ds4, p4, q4, rfl, rfl, rfl, h4, r4⟩ := trodAll_cons r3
  obtain ⟨rfl, rfl, rfl⟩ := trodAll_nil r4
  obtain rfl : args = #[v0, v1, v2, v3, v4] := by cases args; simp_all
  obtain ⟨rfl, rfl⟩ := trodVars_none hV
  obtain ⟨a0, len0, cap0, rfl⟩ := okWide_slice Try.underlying22 (hval 0 22 v0 rfl rfl)
  obtain ⟨a1, len1, cap1, rfl⟩ := okWide_slice Try.underlying23 (hval 1 23 v1 rfl rfl)
  obtain ⟨a2, rfl, rfl, rfl, w2⟩ := open_int Try.underlying24 (hval 2 24 v2 rfl rfl) h2
  obtain ⟨cs3, rfl, hcs3⟩ := okWide_struct Try.underlying28 (hval 3 28 v3 rfl rfl)
  obtain ⟨m, rfl⟩ : ∃ m : Mem, cs3 = #[.int .i64 m.id, .string m.ad, .string m.cl, .bool m.cu, .int .u64 m.si, .int .u64 m.ic] := by
    obtain ⟨fuel, hf⟩ := h3
    obtain ⟨m, hm⟩ := open_mem (cs := cs3.toList) (by simpa [Value.cells] using hf)
    exact ⟨m, by cases cs3; simpa using hm⟩
  obtain ⟨a4, rfl, rfl, rfl, w4⟩ := open_int Try.underlying3 (hval 4 3 v4 rfl rfl) h4
  have k0 := h0
  have k1 := h1
  have k3 := h3
  have lt0 : ∀ x ∈ p0, x.block < W.heap.size := by obtain ⟨n, hn⟩ := k0; exact DataW.trod_lt n _ _ _ hn
  have lt1 : ∀ x ∈ p1, x.block < W.heap.size := by obtain ⟨n, hn⟩ := k1; exact DataW.trod_lt n _ _ _ hn
  have lt3 : ∀ x ∈ p3, x.block < W.heap.size := by obtain ⟨n, hn⟩ := k3; exact DataW.trod_lt n _ _ _ hn
  obtain ⟨hl0, M, hM⟩ : len0 ≤ 9223372036854775807 ∧ ∃ M, IsMems W a0 len0 M := by
    obtain ⟨fuel, hf⟩ := h0
    exact open_mems (by simpa [Value.cells] using hf)
  have hl1 : len1 ≤ 9223372036854775807 := by
    obtain ⟨fuel, hf⟩ := h1
    exact open_len (by simpa [Value.cells] using hf)
  clear hA0 hval0
  refine (walk M a0 len0 cap0 a1 len1 cap1 a2 m a4 W hl0 hl1 hM).mono fun e W' ⟨he, bel⟩ => ?_
  subst he
  exact ⟨_, rfl, _, _, _, [], _, [], hW', trodAll_mk1 (shut_bool Try.underlying4 _),
    (trodAll_cons_mk (Below.trod Try.laidOut (by kernel_rfl) (of_decide_eq_true (by kernel_rfl)) k0 bel lt0) (trodAll_cons_mk (Below.trod Try.laidOut (by kernel_rfl) (of_decide_eq_true (by kernel_rfl)) k1 bel lt1)
      (trodAll_cons_mk (shut_int Try.underlying24 w2) (trodAll_cons_mk (Below.trod Try.laidOut (by kernel_rfl) (of_decide_eq_true (by kernel_rfl)) k3 bel lt3) (trodAll_cons_mk (shut_int Try.underlying3 w4) trodAll_mk0))))), rfl, bel.frame _, fun h => by cases h⟩

theorem over : Rows.fnVotersInsertOneMemberAnywhereRow.holds Try.pinned (OpenSpec.ofChange Rows.fnVotersInsertOneMemberAnywhereSpec) :=
  OpenClaim.holds_of_wide 4 Try.f4 rfl rfl rfl rfl rfl rfl rfl ⟨rfl, rfl, rfl, rfl, rfl⟩ rfl rfl rfl rfl rfl (by kernel_rfl) Try.func4 (by kernel_rfl)
    (of_decide_eq_true (by kernel_rfl)) (by unfold Func.isWrapper; first | (rw [if_pos (by decide +kernel)]; kernel_rfl) | (rw [if_neg (by decide +kernel)]; exact ⟨rfl, rfl⟩))
    (fun os started H enc _ => lifted os started H enc)

/-- THE STATEMENT -/
theorem proved : Rows.FnVotersInsertOneMemberAnywhereSaid := over
end Go.Proofs.Qxb6628297a.fnVotersInsertOneMemberAnywhere
