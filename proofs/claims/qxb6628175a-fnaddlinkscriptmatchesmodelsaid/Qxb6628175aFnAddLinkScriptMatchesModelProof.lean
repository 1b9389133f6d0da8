/-
  THE PROOF OF 'Rows.FnAddLinkScriptMatchesModelSaid'. The row's frame is the guide's own (proof-skeleton.mjs's print for a law over a slice of integers), turned at the slice's opening: pairs of integers.
-/
import Derived.Test.Qxb6628175aLawB
import Derived.Test.Qxb6628175aLawC
import Derived.WalkKit
import Derived.ProofKit
import Derived.OpenShut
import Derived.ShutString
import Derived.ChangeOld
import Derived.Below
import Derived.Deep.Slices
namespace Go.Proofs.Qxb6628175a.fnAddLinkScriptMatchesModel
open Go.ChangeShapes Go.WideShapes Go.ChangeAt Go.RowKit

theorem own : ownKnob Try.prog.godebug = none := by kernel_rfl

/-- What the walk is told of the pairs: there are none; or they lie in a row of cells, two a pair. -/
def IsPairs (w : World) (a : Option Addr) (len : Nat) (X Y : Nat → Int) : Prop :=
  len = 0 ∨ ∃ b off, a = some ⟨b, off, none⟩ ∧ (∀ j, j < len → w.cell? ⟨b, off + j * 2, none⟩ = some (.int .i64 (X j))) ∧ ∀ j, j < len → w.cell? ⟨b, off + j * 2 + 1, none⟩ = some (.int .i64 (Y j))

theorem first_bad (p : Nat → Bool) : ∀ m, (∀ i, i < m → p i = true) ∨ ∃ j, j < m ∧ p j = false ∧ ∀ i, i < j → p i = true
  | 0 => .inl (fun i hi => by omega)
  | m + 1 => by
    rcases first_bad p m with h | ⟨j, hj, h1, h2⟩
    · cases hp : p m with
      | true =>
        left
        intro i hi
        by_cases e : i = m
        · subst e; exact hp
        · exact h i (by omega)
      | false => exact .inr ⟨m, by omega, hp, h⟩
    · exact .inr ⟨j, by omega, h1, h2⟩

theorem walk (a0 : Int) (a1 : Option Addr) (len1 cap1 : Nat) (X Y : Nat → Int) (w : World) (hlen : len1 ≤ 9223372036854775807) (w1 : IsPairs w a1 len1 X Y) :
    Calls Try.prog 3 #[.int .i64 a0, .slice a1 len1 cap1] w fun e w' => e = .returned (.bool true) ∧ Below w.heap.size w w' := by
  by_cases c1 : 1048576 < len1
  · exact law_over a0 a1 len1 cap1 c1 hlen w
  by_cases c2 : 4096 < len1
  · exact law_many a0 a1 len1 cap1 c2 (Nat.le_of_not_lt c1) w
  have hl : len1 ≤ 4096 := Nat.le_of_not_lt c2
  by_cases c3 : a0 < 0
  · exact law_neg a0 a1 len1 cap1 hl c3 w
  by_cases c4 : 4096 < a0
  · exact law_big a0 a1 len1 cap1 hl c4 w
  obtain ⟨n, rfl⟩ := Int.eq_ofNat_of_zero_le (Int.not_lt.1 c3)
  have hn : n ≤ 4096 := by omega
  rcases w1 with rfl | ⟨b, off, rfl, hX, hY⟩
  · exact law_empty n a1 cap1 hn w
  · rcases first_bad (fun i => vpB n (X i) (Y i)) len1 with h | ⟨j, hj, h1, h2⟩
    · exact law_valid n X Y b off len1 cap1 hl hn w hX hY h
    · exact law_invalid n X Y b off len1 cap1 hl hn w hX hY j hj h1 h2

/-- The pairs, opened. -/
theorem open_pairs {H : Type} {enc : TypeId × Value → H} {W : World} {fuel : Nat} {a : Option Addr} {len cap : Nat} {x : DataW H × List MemPlace}
    (h : DataW.trod enc Try.prog W 0 (fun _ => true) true fuel 22 [.slice a len cap] = some x) : len ≤ 9223372036854775807 ∧ ∃ X Y, IsPairs W a len X Y := by
  rcases Deep.open_slice Try.underlying22 h with ⟨hcs, _⟩ | ⟨ad, l, c, m, n, D, Pl, hcs, _, hl, hm, hmm, _, hx⟩
  · simp at hcs
    obtain ⟨rfl, rfl, rfl⟩ := hcs
    exact ⟨by omega, fun _ => 0, fun _ => 0, .inl rfl⟩
  · simp at hcs
    obtain ⟨rfl, rfl, rfl⟩ := hcs
    unfold maxLen at hm
    refine ⟨by omega, ?_⟩
    simp only [if_true] at hmm
    rw [Try.cells25] at hx
    have each : ∀ i, i < m → ∃ q : Int × Int, W.cell? (ad.add (i * 2)) = some (.int .i64 q.1) ∧ W.cell? (ad.add (i * 2 + 1)) = some (.int .i64 q.2) := by
      intro i hi
      obtain ⟨cs', h1, h2⟩ := hx i hi
      obtain ⟨_, hlen, hcell⟩ := World.cells?_some h1
      obtain ⟨xs, k, _, _, _, hxl, hf⟩ := DataW.trod_array Try.underlying25 h2
      match cs', hlen with
      | [v0, v1], _ =>
        have g0 := hf 0 (by omega)
        have g1 := hf 1 (by omega)
        rw [List.getElem?_eq_getElem (by omega)] at g0 g1
        simp [Try.cells3] at g0 g1
        obtain ⟨z0, e0, _⟩ := DataW.trod_int Try.underlying3 g0
        obtain ⟨z1, e1, _⟩ := DataW.trod_int Try.underlying3 g1
        have c0 := hcell 0 (by omega)
        have c1 := hcell 1 (by omega)
        rw [Deep.add_add] at c0 c1
        simp at e0 e1
        exact ⟨(z0, z1), by simpa [e0] using c0, by simpa [e1] using c1⟩
    obtain ⟨q, hq⟩ := Deep.choose_lt each
    by_cases h0 : len = 0
    · exact ⟨fun _ => 0, fun _ => 0, .inl h0⟩
    · obtain ⟨b, off, spot⟩ := ad
      have hspot : spot = none := by simpa [Addr.add] using World.cell?_spot (hq 0 (by omega)).1
      subst hspot
      refine ⟨fun i => (q i).1, fun i => (q i).2, .inr ⟨b, off, rfl, fun j hj => ?_, fun j hj => ?_⟩⟩
      · have := (hq j (by omega)).1
        rwa [add_plain] at this
      · have := (hq j (by omega)).2
        rwa [add_plain, ← Nat.add_assoc] at this

/-! ### THE ROW's STEP -/
set_option maxRecDepth 100000 in
theorem lifted (os : Os) (started : os.Started) (H : Type) (enc : TypeId × Value → H) :
    ReturnsInHanded {} Try.checked os 3 .any (Rows.fnAddLinkScriptMatchesModelSpec.pre6 enc Try.prog Try.f3 Rows.fnAddLinkScriptMatchesModelRow.domain false) (Rows.fnAddLinkScriptMatchesModelSpec.post enc Try.prog Try.f3 false true false false) := by
  refine returnsInHanded_of_change (C := Try.checked) own started (by kernel_rfl) Try.func3
    (ChangeSpec.witness6 (enc := enc) (C := Try.checked) false ⟨#[], #[.int .i64 0, .slice none 0 0], []⟩ 8 (by kernel_rfl) (by kernel_rfl) (by kernel_rfl) (by kernel_rfl)) ?_
  intro W base args ds gs before hval0 hW hcnd _
  have hval : ∀ (j : Nat) t v, Try.f3.params[j]? = some t → args[j]? = some v → Value.okWide Try.prog W .any base t v := hval0
  have hW' := hW
  obtain ⟨p, q, hA0, hV, rfl, hfz, hnd⟩ := hW
  have hA : DataW.TrodAll enc Try.prog W 0 (fun _ => true) true Try.f3.params.toList args.toList ds p := hA0
  rw [Try.params3] at hA hval
  obtain ⟨v0, vs0, d0, ds0, p0, q0, hargs, rfl, rfl, h0, r0⟩ := trodAll_cons hA
  obtain ⟨v1, vs1, d1, ds1, p1, q1, rfl, rfl, rfl, h1, r1⟩ := trodAll_cons r0
  obtain ⟨rfl, rfl, rfl⟩ := trodAll_nil r1
  obtain rfl : args = #[v0, v1] := by cases args; simp_all
  obtain ⟨rfl, rfl⟩ := trodVars_none hV
  obtain ⟨a0, rfl, rfl, rfl, w0⟩ := open_int Try.underlying3 (hval 0 3 v0 rfl rfl) h0
  obtain ⟨a1, len1, cap1, rfl⟩ := okWide_slice Try.underlying22 (hval 1 22 v1 rfl rfl)
  have k1 := h1
  have lt1 : ∀ x ∈ p1, x.block < W.heap.size := by obtain ⟨m, hm⟩ := k1; exact DataW.trod_lt m _ _ _ hm
  obtain ⟨hlen, X, Y, w1⟩ : len1 ≤ 9223372036854775807 ∧ ∃ X Y, IsPairs W a1 len1 X Y := by
    obtain ⟨fuel, hf⟩ := h1
    exact open_pairs (by simpa [Value.cells] using hf)
  clear hA0 hval0
  refine (walk a0 a1 len1 cap1 X Y W hlen w1).mono fun e W' ⟨he, bel⟩ => ?_
  subst he
  exact ⟨_, rfl, _, _, _, [], _, [], hW', trodAll_mk1 (shut_bool Try.underlying4 _), (trodAll_cons_mk (shut_int Try.underlying3 w0) (trodAll_cons_mk (Below.trod Try.laidOut (by kernel_rfl) (of_decide_eq_true (by kernel_rfl)) k1 bel lt1) trodAll_mk0)), rfl, bel.frame _, fun h => by cases h⟩

theorem over : Rows.fnAddLinkScriptMatchesModelRow.holds Try.pinned (OpenSpec.ofChange Rows.fnAddLinkScriptMatchesModelSpec) :=
  OpenClaim.holds_of_wide 3 Try.f3 rfl rfl rfl rfl rfl rfl rfl ⟨rfl, rfl, rfl, rfl, rfl⟩ rfl rfl rfl rfl rfl (by kernel_rfl) Try.func3 (by kernel_rfl)
    (of_decide_eq_true (by kernel_rfl)) (by unfold Func.isWrapper; first | (rw [if_pos (by decide +kernel)]; kernel_rfl) | (rw [if_neg (by decide +kernel)]; exact ⟨rfl, rfl⟩))
    (fun os started H enc _ => lifted os started H enc)

/-- THE STATEMENT -/
theorem proved : Rows.FnAddLinkScriptMatchesModelSaid := over
end Go.Proofs.Qxb6628175a.fnAddLinkScriptMatchesModel
