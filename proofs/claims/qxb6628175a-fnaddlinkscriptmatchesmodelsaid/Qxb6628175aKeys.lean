/-
  seat b6628175a: the links: a map keyed by [2]int, a set: what it reads as, what a look-up, a store and len say.
-/
import Derived.Test.Qxb6628175aPlain
import Derived.Test.Qxb6628175aGraph
import Derived.DeepKeys4
namespace Go.Proofs.Qxb6628175a
open Go.RowKit Go.Maps

theorem Try.laidOut : laidOutB Try.prog = true := by kernel_rfl
theorem Try.row25 : (25 : TypeId) < Try.prog.types.size := of_decide_eq_true (by kernel_rfl)
theorem Try.cells25 : Try.prog.cellsOf 25 = 2 := by kernel_rfl
theorem Try.cells3 : Try.prog.cellsOf 3 = 1 := by kernel_rfl
theorem Try.types64 : Try.prog.types.size = 64 := by kernel_rfl
theorem Try.keyType25 : Try.prog.keyType 25 = true := by kernel_rfl
theorem Try.wide25 : (match Try.prog.underlying 25 with | some (.array _ _) | some (.struct _) => true | _ => false) = true := by rw [Try.underlying25]
theorem law25 : Keyed Try.prog 25 := Keyed.of_law (deep_law_laid Try.laidOut (m := 2) (by omega) Try.row25 (by kernel_rfl) Try.wide25)
theorem zero36 (w : World) : (zeroValue 36).run Try.prog w = .ok (.agg #[]) w := by kernel_rfl

/-- A key's value. -/
def kval (p : Int × Int) : Value := .agg #[.int .i64 p.1, .int .i64 p.2]
/-- What it reads as. -/
def klit (p : Int × Int) : Lit := .string (keyBytes [.int .i64 p.1, .int .i64 p.2])
/-- Both numbers are ints. -/
def KeyOk (p : Int × Int) : Prop := (Lit.int .i64 p.1).wf = true ∧ (Lit.int .i64 p.2).wf = true

theorem lits3 (d : Nat) (n : Int) (h : (Lit.int .i64 n).wf = true) : Try.prog.keyLits (d + 1) 3 [.int .i64 n] = some [.int .i64 n] := by
  simp [Program.keyLits, Try.underlying3, h]
theorem lits25 (d : Nat) (a b : Int) (ha : (Lit.int .i64 a).wf = true) (hb : (Lit.int .i64 b).wf = true) : Try.prog.keyLits (d + 1 + 1) 25 [.int .i64 a, .int .i64 b] = some [.int .i64 a, .int .i64 b] := by
  have hr : List.range 2 = [0, 1] := rfl
  unfold Program.keyLits
  simp only [Try.underlying25]
  simp [Try.cells25, Try.cells3, hr, lits3 d a ha, lits3 d b hb]
theorem keyOf25 (p : Int × Int) (h : KeyOk p) : keyOf Try.prog 25 (kval p) = some (klit p) := by
  obtain ⟨h1, h2⟩ := h
  have hl := lits25 63 p.1 p.2 h1 h2
  have hf : (Value.agg #[.int .i64 p.1, .int .i64 p.2]).formed Try.prog 25 = true := by simp [Value.formed, Try.underlying25, Try.cells25]
  unfold keyOf kval klit
  rw [Try.underlying25, Try.types64]
  simp only [Try.keyType25, hf, Bool.and_self, if_true]
  have hc : (Value.agg #[.int .i64 p.1, .int .i64 p.2]).cells.toList = [.int .i64 p.1, .int .i64 p.2] := rfl
  rw [hc, hl]
  rfl
theorem klit_inj (p q : Int × Int) (hp : KeyOk p) (hq : KeyOk q) (h : klit p = klit q) : p = q := by
  have h1 := keyOf25 p hp
  have h2 := keyOf25 q hq
  rw [← h] at h2
  have := law25.inj h1 h2
  simp [kval] at this
  exact Prod.ext this.1 this.2

/-- The set of the keys ks. -/
def setD (ks : List (Int × Int)) : DataW Unit := setOf (.agg []) (ks.map klit)
theorem keyLit (ks : List (Int × Int)) : ∀ x ∈ ks.map klit, WideAt.IsKeyLit x := by
  intro x hx
  obtain ⟨p, _, rfl⟩ := List.mem_map.1 hx
  trivial
theorem has_setD (ks : List (Int × Int)) (p : Int × Int) (hk : ∀ q ∈ ks, KeyOk q) (hp : KeyOk p) : Maps.has (setD ks) (klit p) = decide (p ∈ ks) := by
  unfold setD
  rw [has_setOf _ _ _ (keyLit ks), Bool.eq_iff_iff]
  simp only [List.any_eq_true, List.mem_map, decide_eq_true_eq]
  constructor
  · rintro ⟨x, ⟨q, hq, rfl⟩, hs⟩
    have := klit_inj q p (hk q hq) hp (WideAt.sameKey_eq hs)
    rw [← this]; exact hq
  · intro h
    exact ⟨klit p, ⟨p, h, rfl⟩, WideAt.sameKey_self trivial⟩
theorem setD_snoc (ks : List (Int × Int)) (p : Int × Int) : setD (ks ++ [p]) = (setD ks).put (klit p) (.agg []) := by
  unfold setD
  rw [List.map_append]; exact setOf_snoc _ _ _
theorem foldl_addKey : ∀ (ks : List (Int × Int)) (acc : List (Int × Int)), (acc ++ ks).Nodup → (∀ q ∈ acc ++ ks, KeyOk q) → (ks.map klit).foldl addKey (acc.map klit) = (acc ++ ks).map klit
  | [], acc, _, _ => by simp
  | p :: r, acc, hn, hk => by
    have e : addKey (acc.map klit) (klit p) = (acc ++ [p]).map klit := by
      unfold addKey
      rw [if_neg]
      · simp
      · simp only [List.any_eq_true, List.mem_map, not_exists, not_and]
        rintro x ⟨q, hq, rfl⟩ hs
        have := klit_inj q p (hk q (by simp [hq])) (hk p (by simp)) (WideAt.sameKey_eq hs)
        subst this
        have := (List.nodup_append.1 hn).2.2 q hq q (by simp)
        exact this rfl
    rw [List.map_cons, List.foldl_cons, e, foldl_addKey r (acc ++ [p]) (by simpa using hn) (by simpa using hk)]
    simp
theorem size_setD (ks : List (Int × Int)) (hn : ks.Nodup) (hk : ∀ q ∈ ks, KeyOk q) : Maps.size (setD ks) = ks.length := by
  unfold setD
  rw [size_setOf _ _ (keyLit ks)]
  have := foldl_addKey ks [] (by simpa using hn) (by simpa using hk)
  simp only [List.map_nil, List.nil_append] at this
  rw [this]; simp

/-- The links' field holds L, which reads as the set of the keys ks: nil and nothing, or a map of the call's own. -/
def LinksAre (w : World) (B : Nat) (L : Value) (ks : List (Int × Int)) : Prop :=
  (∀ q ∈ ks, KeyOk q) ∧ ((L = .map none ∧ ks = []) ∨ ∃ Bm, L = .map (some Bm) ∧ B ≤ Bm ∧ w.ownsMap Try.prog 25 unitElem Bm ks.length (setD ks))
theorem LinksAre.look {w : World} {B : Nat} {L : Value} {ks : List (Int × Int)} (h : LinksAre w B L ks) (p : Int × Int) (hp : KeyOk p) :
    (Instr.lookup 34 L (kval p) true).run Try.prog w = .ok (.tuple #[.agg #[], .bool (decide (p ∈ ks))]) w := by
  obtain ⟨hk, ⟨rfl, rfl⟩ | ⟨Bm, rfl, _, hown⟩⟩ := h
  · simpa using Maps.look_nil (w := w) true law25 Try.underlying34 (zero36 w) (keyOf25 p hp)
  · obtain ⟨v, ps, hrun, hv⟩ := hown.look_ok law25 Try.underlying34 (zero36 w) unitElem_mk (keyOf25 p hp)
    obtain ⟨rfl, _⟩ := unitElem_inv hv
    rw [hrun, has_setD ks p hk hp]
theorem LinksAre.len {w : World} {B : Nat} {L : Value} {ks : List (Int × Int)} (h : LinksAre w B L ks) (hn : ks.Nodup) (ty : TypeId) :
    (Builtin.len_ #[34] ty #[L]).run Try.prog w = .ok (.int .i64 ks.length) w := by
  obtain ⟨hk, ⟨rfl, rfl⟩ | ⟨Bm, rfl, _, hown⟩⟩ := h
  · exact Maps.len_nil Try.underlying34 ty
  · rw [hown.len Try.underlying34 ty, size_setD ks hn hk]
end Go.Proofs.Qxb6628175a
