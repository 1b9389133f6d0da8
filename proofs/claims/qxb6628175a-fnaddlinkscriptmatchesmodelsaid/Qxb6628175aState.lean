/-
  seat b6628175a: the graph's memory as one predicate, and what each step of AddLink does to it. No walk here.
-/
import Derived.Test.Qxb6628175aKeys
import Derived.Deep.AppendLies
namespace Go.Proofs.Qxb6628175a
open Go.RowKit Go.Maps

/-- The graph's memory: the struct in block Bg, the row of the lists in block Ba; list v owns its own row, no two share one; the links. -/
structure GS (w : World) (B Bg Ba n : Nat) (x0 x1 L : Value) (S : Nat → Value) (A : Nat → List Int) (ks : List (Int × Int)) : Prop where
  g : w.rowIs Bg 44 4 (gcell x0 x1 Ba n L)
  a : w.rowIs Ba 33 n S
  r : ∀ v, v < n → w.ownsRow B 3 1 (S v) (A v).length ((A v).map (Value.int .i64))
  d : ∀ u v, u < n → v < n → u ≠ v → (S u).ownBlock = none ∨ (S u).ownBlock ≠ (S v).ownBlock
  l : LinksAre w B L ks
  bg : B ≤ Bg
  ba : B ≤ Ba

/-- What a step leaves alone: all below B, and every row that is none of the graph's own kinds. -/
def Kept (B : Nat) (w w' : World) : Prop := Below B w w' ∧ ∀ Bx t m f, t ≠ 3 → t ≠ 33 → t ≠ 44 → w.rowIs Bx t m f → w'.rowIs Bx t m f
theorem Kept.refl (B : Nat) (w : World) : Kept B w w := ⟨Below.refl _ _, fun _ _ _ _ _ _ _ h => h⟩
theorem Kept.trans {B : Nat} {w w' w'' : World} (h : Kept B w w') (k : Kept B w' w'') : Kept B w w'' :=
  ⟨h.1.trans k.1, fun Bx t m f h1 h2 h3 hr => k.2 Bx t m f h1 h2 h3 (h.2 Bx t m f h1 h2 h3 hr)⟩
theorem Kept.alloc {B : Nat} {w w' : World} (h : Kept B w w') (hB : B ≤ w'.heap.size) (o : Obj) : Kept B w (w'.alloc o) :=
  ⟨h.1.alloc hB o, fun Bx t m f h1 h2 h3 hr => (h.2 Bx t m f h1 h2 h3 hr).alloc o⟩
theorem Kept.drew {B : Nat} {w w' : World} (h : Kept B w w') : Kept B w w'.drew := ⟨h.1.drew, fun Bx t m f h1 h2 h3 hr => h.2 Bx t m f h1 h2 h3 hr⟩

theorem LinksAre.alloc {w : World} {B : Nat} {L : Value} {ks : List (Int × Int)} (h : LinksAre w B L ks) (o : Obj) : LinksAre (w.alloc o) B L ks := by
  obtain ⟨hk, h | ⟨Bm, e, hB, hown⟩⟩ := h
  · exact ⟨hk, .inl h⟩
  · exact ⟨hk, .inr ⟨Bm, e, hB, hown.alloc o⟩⟩
theorem LinksAre.drew {w : World} {B : Nat} {L : Value} {ks : List (Int × Int)} (h : LinksAre w B L ks) : LinksAre w.drew B L ks := h
theorem keyOk_nat (a b : Nat) (ha : a ≤ 4096) (hb : b ≤ 4096) : KeyOk ((a : Int), (b : Int)) := ⟨WalkArith.wf_i64 (by omega), WalkArith.wf_i64 (by omega)⟩

section
variable {w : World} {B Bg Ba n : Nat} {x0 x1 L : Value} {S : Nat → Value} {A : Nat → List Int} {ks : List (Int × Int)}

theorem GS.alloc (h : GS w B Bg Ba n x0 x1 L S A ks) (o : Obj) : GS (w.alloc o) B Bg Ba n x0 x1 L S A ks :=
  ⟨h.g.alloc o, h.a.alloc o, fun v hv => (h.r v hv).alloc o, h.d, h.l.alloc o, h.bg, h.ba⟩
theorem GS.drew (h : GS w B Bg Ba n x0 x1 L S A ks) : GS w.drew B Bg Ba n x0 x1 L S A ks := ⟨h.g, h.a, h.r, h.d, h.l, h.bg, h.ba⟩
theorem GS.size (h : GS w B Bg Ba n x0 x1 L S A ks) : B ≤ w.heap.size := Nat.le_trans h.bg (Nat.le_of_lt h.g.lt)

/-- Two rows of different types lie in different blocks. -/
theorem rows_ne {b b' : Nat} {t t' m m' : Nat} {f f' : Nat → Value} (h : w.rowIs b t m f) (h' : w.rowIs b' t' m' f') (ht : t ≠ t') : b ≠ b' := by
  intro e
  subst e
  obtain ⟨c, hc, _⟩ := h
  obtain ⟨c', hc', _⟩ := h'
  rw [hc] at hc'
  simp at hc'
  exact ht hc'.2
/-- An owned row's block is no row of another type. -/
theorem own_ne {b : Nat} {t m : Nat} {f : Nat → Value} (h : w.rowIs b t m f) {v : Value} {e k : Nat} {xs : List Value} (ho : w.ownsRow B e 1 v k xs) (ht : t ≠ e) : v.ownBlock ≠ some b := by
  intro hb
  rcases ho.2 with ⟨rfl, _⟩ | ⟨g, cap, cur, rfl, _, hg, _⟩
  · simp [Value.ownBlock] at hb
  · simp [Value.ownBlock] at hb
    subst hb
    obtain ⟨c, hc, _⟩ := h
    rw [hc] at hg
    simp at hg
    exact ht hg.2
/-- .. nor a map. -/
theorem own_ne_map {b k : Nat} {D : DataW Unit} (h : w.ownsMap Try.prog 25 unitElem b k D) {v : Value} {e k' : Nat} {xs : List Value} (ho : w.ownsRow B e 1 v k' xs) : some b ≠ v.ownBlock := by
  intro hb
  rcases ho.2 with ⟨rfl, _⟩ | ⟨g, cap, cur, rfl, _, hg, _⟩
  · simp [Value.ownBlock] at hb
  · simp [Value.ownBlock] at hb
    subst hb
    obtain ⟨es, clock, hc, _⟩ := h
    rw [hc] at hg
    cases hg
theorem map_ne {b k : Nat} {D : DataW Unit} (h : w.ownsMap Try.prog 25 unitElem b k D) {b' t m : Nat} {f : Nat → Value} (h' : w.rowIs b' t m f) : b ≠ b' := by
  intro e
  subst e
  obtain ⟨es, clock, hc, _⟩ := h
  obtain ⟨c, hc', _⟩ := h'
  rw [hc] at hc'
  cases hc'
end

/-- THE APPEND AND THE STORE: list a takes z. -/
theorem GS.append {w w3 : World} {B Bg Ba n a : Nat} {x0 x1 L : Value} {S : Nat → Value} {A : Nat → List Int} {ks : List (Int × Int)} {o : Obj} {z : Int} {gg cap : Nat}
    (h : GS w B Bg Ba n x0 x1 L S A ks) (ha : a < n) (hg : (w.alloc o).drew.grownBy w3 (S a).ownBlock)
    (hown : w3.ownsRow B 3 1 (.slice (some ⟨gg, 0, none⟩) ((A a).length + 1) cap) ((A a).length + 1) ((A a).map (Value.int .i64) ++ [.int .i64 z])) (hat : (S a).ownBlock = some gg ∨ gg = w.heap.size + 1) :
    GS (w3.setCell ⟨Ba, a, none⟩ (.slice (some ⟨gg, 0, none⟩) ((A a).length + 1) cap)) B Bg Ba n x0 x1 L (fun v => if v = a then .slice (some ⟨gg, 0, none⟩) ((A a).length + 1) cap else S v) (fun v => if v = a then A a ++ [z] else A v) ks ∧
      Kept B w (w3.setCell ⟨Ba, a, none⟩ (.slice (some ⟨gg, 0, none⟩) ((A a).length + 1) cap)) := by
  have ra := h.r a ha
  have row : ∀ Bx t m f, t ≠ 3 → w.rowIs Bx t m f → w3.rowIs Bx t m f := fun Bx t m f ht hr =>
    (hr.alloc o).of_block (hg.block Bx (by have := hr.lt; simp; omega) (fun e => own_ne hr ra ht e.symm))
  have g3 := row Bg 44 4 _ (by decide) h.g
  have a3 := row Ba 33 n _ (by decide) h.a
  have hga : Bg ≠ Ba := rows_ne g3 a3 (by decide)
  have bel3 : Below B w w3 := (((Below.refl B w).alloc h.size o).drew).grown hg (by have := h.size; simp; omega) (fun k hk => (ra.lt k hk).1)
  refine ⟨⟨g3.setOther hga _, a3.set a _, ?_, ?_, ?_, h.bg, h.ba⟩, bel3.setCell h.ba _, ?_⟩
  · intro v hv
    by_cases e : v = a
    · subst e
      simp only [if_true]
      rw [List.length_append, List.map_append]
      exact ownsRow_setCell_other hown (own_ne a3 hown (by decide)) _
    · simp only [if_neg e]
      have rv := h.r v hv
      have rv3 : w3.ownsRow B 3 1 (S v) (A v).length ((A v).map (Value.int .i64)) := ((rv.alloc o).drew).kept hg (h.d v a hv ha e)
      exact ownsRow_setCell_other rv3 (own_ne a3 rv3 (by decide)) _
  · intro u v hu hv hne
    have new : ∀ v, v < n → v ≠ a → (S v).ownBlock ≠ some gg := by
      intro v hv hva e
      rcases hat with hat | hat
      · rcases h.d v a hv ha hva with h1 | h1
        · rw [h1] at e; cases e
        · exact h1 (e.trans hat.symm)
      · have := ((h.r v hv).lt gg e).2; omega
    by_cases eu : u = a
    · subst eu
      have ev : v ≠ u := fun e => hne e.symm
      simp only [if_true, if_neg ev]
      right
      intro e
      exact new v hv ev (by rw [← e]; rfl)
    · by_cases ev : v = a
      · subst ev
        simp only [if_true, if_neg eu]
        right
        intro e
        exact new u hu eu e
      · simp only [if_neg eu, if_neg ev]
        exact h.d u v hu hv hne
  · obtain ⟨hk, hl | ⟨Bm, e, hB, hm⟩⟩ := h.l
    · exact ⟨hk, .inl hl⟩
    · have m3 : w3.ownsMap Try.prog 25 unitElem Bm ks.length (setD ks) := ((hm.alloc o).drew).kept hg (own_ne_map hm ra)
      exact ⟨hk, .inr ⟨Bm, e, hB, m3.setCell (map_ne m3 a3) _⟩⟩
  · intro Bx t m f h3 h33 _ hr
    have := row Bx t m f h3 hr
    exact this.setOther (rows_ne this a3 h33) _

/-- THE MAP IS MADE: the links' field was nil. -/
theorem GS.made {w : World} {B Bg Ba n : Nat} {x0 x1 : Value} {S : Nat → Value} {A : Nat → List Int} (h : GS w B Bg Ba n x0 x1 (.map none) S A []) :
    GS ((w.alloc (.map #[] 0)).setCell ⟨Bg, 3, none⟩ (.map (some w.heap.size))) B Bg Ba n x0 x1 (.map (some w.heap.size)) S A [] ∧ Kept B w ((w.alloc (.map #[] 0)).setCell ⟨Bg, 3, none⟩ (.map (some w.heap.size))) := by
  have h1 := h.alloc (.map #[] 0)
  have m1 := World.ownsMap_made (H := Unit) w Try.prog 25 unitElem
  have hga : Bg ≠ Ba := rows_ne h.g h.a (by decide)
  refine ⟨⟨?_, h1.a.setOther (fun e => hga e.symm) _, fun v hv => ownsRow_setCell_other (h1.r v hv) (own_ne h1.g (h1.r v hv) (by decide)) _, h.d, ⟨h.l.1, .inr ⟨w.heap.size, rfl, h.size, m1.setCell (map_ne m1 h1.g) _⟩⟩, h.bg, h.ba⟩, ?_, ?_⟩
  · refine (h1.g.set 3 (.map (some w.heap.size))).congr (fun i hi => ?_)
    match i, hi with
    | 0, _ => rfl
    | 1, _ => rfl
    | 2, _ => rfl
    | 3, _ => rfl
  · exact ((Below.refl B w).alloc h.size _).setCell h.bg _
  · intro Bx t m f _ _ h44 hr
    exact (hr.alloc _).setOther (rows_ne hr h.g h44) _

/-- THE STORE INTO THE MAP. -/
theorem GS.put {w w' : World} {B Bg Ba n Bm : Nat} {x0 x1 : Value} {S : Nat → Value} {A : Nat → List Int} {ks : List (Int × Int)} {p : Int × Int} (h : GS w B Bg Ba n x0 x1 (.map (some Bm)) S A ks) (hp : KeyOk p)
    (hm : w'.ownsMap Try.prog 25 unitElem Bm (ks.length + 1) ((setD ks).put (klit p) (.agg []))) (ht : w.grownBy w' (some Bm)) :
    GS w' B Bg Ba n x0 x1 (.map (some Bm)) S A (ks ++ [p]) ∧ Kept B w w' := by
  obtain ⟨hk, ⟨hl, _⟩ | ⟨Bm', e, hB, hm0⟩⟩ := h.l
  · cases hl
  have e' : Bm' = Bm := by cases e; rfl
  subst e'
  have row : ∀ Bx t m f, w.rowIs Bx t m f → w'.rowIs Bx t m f := fun Bx t m f hr => hr.of_block (ht.block Bx hr.lt (fun e => map_ne hm0 hr (by cases e; rfl)))
  refine ⟨⟨row _ _ _ _ h.g, row _ _ _ _ h.a, fun v hv => (h.r v hv).kept ht (.inr (own_ne_map hm0 (h.r v hv)).symm), h.d, ⟨?_, .inr ⟨Bm', rfl, hB, ?_⟩⟩, h.bg, h.ba⟩, ?_, fun Bx t m f _ _ _ hr => row Bx t m f hr⟩
  · intro q hq
    rcases List.mem_append.1 hq with hq | hq
    · exact hk q hq
    · have : q = p := by simpa using hq
      rw [this]; exact hp
  · rw [setD_snoc, List.length_append]; exact hm
  · exact (Below.refl B w).grown ht h.size (fun k hk => by cases hk; exact hB)

/-- The store's run. -/
theorem GS.store {w : World} {B Bg Ba n Bm : Nat} {x0 x1 : Value} {S : Nat → Value} {A : Nat → List Int} {ks : List (Int × Int)} {p : Int × Int} (h : GS w B Bg Ba n x0 x1 (.map (some Bm)) S A ks) (hp : KeyOk p) (hn : ks.length ≤ 4096) :
    ∃ w', (Instr.mapUpdate 34 (.map (some Bm)) (kval p) (.agg #[])).run Try.prog w = .ok () w' ∧ GS w' B Bg Ba n x0 x1 (.map (some Bm)) S A (ks ++ [p]) ∧ Kept B w w' := by
  obtain ⟨hk, ⟨hl, _⟩ | ⟨Bm', e, hB, hm0⟩⟩ := h.l
  · cases hl
  have e' : Bm' = Bm := by cases e; rfl
  subst e'
  obtain ⟨w', hrun, hm, ht⟩ := hm0.store law25 Try.underlying34 (by unfold maxLen; omega) (keyOf25 p hp) unitElem_mk
  obtain ⟨h1, h2⟩ := h.put hp hm ht.grown
  exact ⟨w', hrun, h1, h2⟩
end Go.Proofs.Qxb6628175a
