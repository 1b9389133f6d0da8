/-
  seat b6628175a: what holds of the law's world: the relation of its loops, and the step of the second. No walk here.
-/
import Derived.Test.Qxb6628175aAdd
namespace Go.Proofs.Qxb6628175a
open Go.RowKit Go.Maps

theorem Try.info4 : (Try.prog.info? 4).map (fun i => (i.zero, i.size, i.bytes)) = some (some (.bool false), 1, 1) := by kernel_rfl

/-- The cells of 'fresh' behind k rounds. -/
def freshC (X Y : Nat → Int) (k : Nat) (j : Nat) : Value := .bool (decide (j < k) && fr X Y j)
/-- The law's memory behind k pairs. -/
def LR (w : World) (B Bg Ba Bf n len : Nat) (x0 x1 : Value) (X Y : Nat → Int) (k : Nat) (wr : World) : Prop :=
  ∃ S L, GS wr B Bg Ba n x0 x1 L S (fun v => adjTo X Y (v : Int) k) (keysTo X Y k) ∧ wr.rowIs Bf 4 len (freshC X Y k) ∧ Below B w wr ∧ B ≤ Bf

theorem LR.start {w w1 : World} {Bg Ba n len : Nat} {x0 x1 : Value} {X Y : Nat → Int} (hg : w1.rowIs Bg 44 4 (gcell x0 x1 Ba n (.map none))) (ha : w1.rowIs Ba 33 n (fun _ => .slice none 0 0)) (hb : Below w.heap.size w w1) (h : w.heap.size ≤ Ba ∧ w.heap.size ≤ Bg) :
    LR w w.heap.size Bg Ba w1.heap.size n len x0 x1 X Y 0 (w1.alloc (.cells (madeCells #[.bool false] len) 4)) := by
  refine ⟨fun _ => .slice none 0 0, .map none, ⟨hg.alloc _, ha.alloc _, fun v _ => World.ownsRow_nil _ _ _ _, fun _ _ _ _ _ => .inl rfl, ⟨by simp [keysTo], .inl ⟨rfl, rfl⟩⟩, h.2, h.1⟩, ?_, hb.alloc hb.size _, hb.size⟩
  refine (World.rowIs_made w1 (.bool false) len 4).congr (fun i _ => ?_)
  simp [freshC]
theorem fresh_step (X Y : Nat → Int) (k len : Nat) {w : World} {Bf : Nat} (h : w.rowIs Bf 4 len (freshC X Y k)) : (w.setCell ⟨Bf, k, none⟩ (.bool (fr X Y k))).rowIs Bf 4 len (freshC X Y (k + 1)) := by
  refine (h.set k (.bool (fr X Y k))).congr (fun i _ => ?_)
  by_cases e : i = k
  · subst e; simp [freshC]
  · have : (i < k + 1) ↔ (i < k) := by omega
    simp [freshC, e, this]

/-- A store into 'fresh' leaves the graph alone. -/
theorem GS.setFresh {w : World} {B Bg Ba n : Nat} {x0 x1 L : Value} {S : Nat → Value} {A : Nat → List Int} {ks : List (Int × Int)} (h : GS w B Bg Ba n x0 x1 L S A ks) {Bf len : Nat} {f : Nat → Value} (hf : w.rowIs Bf 4 len f) (k : Nat) (v : Value) :
    GS (w.setCell ⟨Bf, k, none⟩ v) B Bg Ba n x0 x1 L S A ks := by
  refine ⟨h.g.setOther (rows_ne h.g hf (by decide)) _, h.a.setOther (rows_ne h.a hf (by decide)) _, fun u hu => ownsRow_setCell_other (h.r u hu) (own_ne hf (h.r u hu) (by decide)) _, h.d, ?_, h.bg, h.ba⟩
  obtain ⟨hk, hl | ⟨Bm, e, hB, hm⟩⟩ := h.l
  · exact ⟨hk, .inl hl⟩
  · exact ⟨hk, .inr ⟨Bm, e, hB, hm.setCell (map_ne hm hf) _⟩⟩
/-- New blocks leave it alone. -/
theorem GS.below {w w' : World} {B Bg Ba n : Nat} {x0 x1 L : Value} {S : Nat → Value} {A : Nat → List Int} {ks : List (Int × Int)} (h : GS w B Bg Ba n x0 x1 L S A ks) (hb : Below w.heap.size w w') : GS w' B Bg Ba n x0 x1 L S A ks := by
  refine ⟨h.g.of_block (hb.block _ h.g.lt), h.a.of_block (hb.block _ h.a.lt), fun u hu => (h.r u hu).kept (Below.by hb) ?_, h.d, ?_, h.bg, h.ba⟩
  · cases (S u).ownBlock <;> simp
  · obtain ⟨hk, hl | ⟨Bm, e, hB, hm⟩⟩ := h.l
    · exact ⟨hk, .inl hl⟩
    · exact ⟨hk, .inr ⟨Bm, e, hB, hm.kept (Below.by hb) (by simp)⟩⟩

/-- What the lists are behind pair k, where it is fresh. -/
theorem adj_new (X Y : Nat → Int) (k a b : Nat) (ha : X k = a) (hb : Y k = b) (hne : a ≠ b) (hf : fr X Y k = true) :
    (fun v : Nat => if v = b then adjTo X Y (b : Int) k ++ [(a : Int)] else if v = a then adjTo X Y (a : Int) k ++ [(b : Int)] else adjTo X Y (v : Int) k) = fun v : Nat => adjTo X Y (v : Int) (k + 1) := by
  funext v
  simp only [adjTo, addOf, hf, if_true, ha, hb]
  by_cases e1 : v = b
  · subst e1
    rw [if_pos rfl, if_neg (by omega), if_pos rfl]
  · by_cases e2 : v = a
    · subst e2
      rw [if_neg e1, if_pos rfl, if_pos rfl]
    · rw [if_neg e1, if_neg e2, if_neg (by omega), if_neg (by omega), List.append_nil]
theorem adj_old (X Y : Nat → Int) (k : Nat) (hf : fr X Y k = false) : (fun v : Nat => adjTo X Y (v : Int) k) = fun v : Nat => adjTo X Y (v : Int) (k + 1) := by
  funext v
  simp [adjTo, addOf, hf]
theorem keys_new (X Y : Nat → Int) (k : Nat) (hf : fr X Y k = true) : keysTo X Y k ++ [keyP (X k) (Y k)] = keysTo X Y (k + 1) := by
  simp [keysTo, hf]
theorem keys_old (X Y : Nat → Int) (k : Nat) (hf : fr X Y k = false) : keysTo X Y k = keysTo X Y (k + 1) := by
  simp [keysTo, hf]
theorem cnt_new (X Y : Nat → Int) (k : Nat) (hf : fr X Y k = true) : cnt X Y (k + 1) = cnt X Y k + 1 := by
  show cnt X Y k + (if fr X Y k = true then 1 else 0) = _
  rw [if_pos hf]
theorem cnt_old (X Y : Nat → Int) (k : Nat) (hf : fr X Y k = false) : cnt X Y (k + 1) = cnt X Y k := by
  show cnt X Y k + (if fr X Y k = true then 1 else 0) = _
  rw [hf]; rfl
theorem fr_new (X Y : Nat → Int) (k : Nat) (hf : fr X Y k = true) : keyP (X k) (Y k) ∉ keysTo X Y k := by
  intro h
  have := (seen_iff X Y (X k) (Y k) k).2 h
  simp [fr, this] at hf
theorem fr_old (X Y : Nat → Int) (k : Nat) (hf : fr X Y k = false) : keyP (X k) (Y k) ∈ keysTo X Y k :=
  (seen_iff X Y (X k) (Y k) k).1 (by simpa [fr] using hf)
/-- What a list's slice looks like. -/
theorem own_form {w : World} {B : Nat} {v : Value} {l : List Int} (h : w.ownsRow B 3 1 v l.length (l.map (Value.int .i64))) :
    ∃ ao cap, v = .slice ao l.length cap ∧ (0 < l.length → ∃ g, ao = some ⟨g, 0, none⟩ ∧ ∀ j, j < l.length → w.cell? ⟨g, j, none⟩ = some (.int .i64 (l.getD j 0))) := by
  rcases h.2 with ⟨h1, h2⟩ | ⟨g, cap, cur, h1, _, hg, _, _, _, ht⟩
  · exact ⟨none, 0, by rw [h2]; exact h1, fun h0 => by omega⟩
  · refine ⟨_, cap, h1, fun _ => ⟨g, rfl, fun j hj => ?_⟩⟩
    have e := h.cells (g := g) (by rw [h1]; rfl) j (.int .i64 (l.getD j 0)) (by simp [hj])
    have hadd : (⟨g, 0, none⟩ : Addr).add j = ⟨g, j, none⟩ := by unfold Addr.add; split <;> simp_all
    rw [hadd] at e
    exact e
/-- len of the links, at the operation. -/
theorem wpList_len_links (w : World) {ops : Array Oper} {rest : List Oper} {o : Oper} {a : Act} {Q : Exit → Act → World → Prop} (hg : o.guard = none) (m : Operand)
    (hop : o.op = Op.call { callee := Callee.builtin Builtin.len, args := #[m], argTypes := #[34] }) {B : Nat} {L : Value} {ks : List (Int × Int)} (h : LinksAre w B L ks) (hn : ks.Nodup) (c : Nat) (hc : ks.length = c) (hm : a.eval m = L)
    (hK : wpList Try.prog ops Q rest (a.put o.dst (.int .i64 c)) w) : wpList Try.prog ops Q (o :: rest) a w := by
  refine wpList_plain hg fun K' hK' => ?_
  unfold Oper.wp
  simp [execOp, hop, resolve, invoke, builtin, hm, h.len hn o.type, Result.andThen, hc]
  exact hK' _ _ hK
theorem LinksAre.below {w w' : World} {B : Nat} {L : Value} {ks : List (Int × Int)} (h : LinksAre w B L ks) (hb : Below w.heap.size w w') : LinksAre w' B L ks := by
  obtain ⟨hk, hl | ⟨Bm, e, hB, hm⟩⟩ := h
  · exact ⟨hk, .inl hl⟩
  · exact ⟨hk, .inr ⟨Bm, e, hB, hm.kept (Below.by hb) (by simp)⟩⟩
/-- The smaller and the larger of two different numbers. -/
def LoHiZ (x y lo hi : Int) : Prop := (x < y ∧ lo = x ∧ hi = y) ∨ (y < x ∧ lo = y ∧ hi = x)
theorem LoHiZ.of {x y : Int} (h : x ≠ y) : ∃ lo hi, LoHiZ x y lo hi := by
  rcases Int.lt_or_gt_of_ne h with h | h
  · exact ⟨x, y, .inl ⟨h, rfl, rfl⟩⟩
  · exact ⟨y, x, .inr ⟨h, rfl, rfl⟩⟩
theorem LoHiZ.key {x y lo hi : Int} (h : LoHiZ x y lo hi) : keyP x y = (lo, hi) := by
  unfold keyP
  rcases h with ⟨h1, rfl, rfl⟩ | ⟨h1, rfl, rfl⟩
  · rw [Int.min_eq_left (by omega), Int.max_eq_right (by omega)]
  · rw [Int.min_eq_right (by omega), Int.max_eq_left (by omega)]
theorem add_fst (X Y : Nat → Int) (v : Int) (j : Nat) (hf : fr X Y j = true) (hx : X j = v) : addOf X Y v j = [Y j] := by
  simp [addOf, hf, hx]
theorem add_snd (X Y : Nat → Int) (v : Int) (j : Nat) (hf : fr X Y j = true) (hx : X j ≠ v) (hy : Y j = v) : addOf X Y v j = [X j] := by
  simp [addOf, hf, hx, hy]
theorem add_none (X Y : Nat → Int) (v : Int) (j : Nat) (hf : fr X Y j = true) (hx : X j ≠ v) (hy : Y j ≠ v) : addOf X Y v j = [] := by
  simp [addOf, hf, hx, hy]
theorem add_stale (X Y : Nat → Int) (v : Int) (j : Nat) (hf : fr X Y j = false) : addOf X Y v j = [] := by
  simp [addOf, hf]
theorem len_same (X Y : Nat → Int) (v : Int) (j : Nat) (h : addOf X Y v j = []) : (adjTo X Y v (j + 1)).length = (adjTo X Y v j).length := by
  simp [adjTo, h]
theorem len_more (X Y : Nat → Int) (v z : Int) (j : Nat) (h : addOf X Y v j = [z]) : (adjTo X Y v (j + 1)).length = (adjTo X Y v j).length + 1 := by
  simp [adjTo, h]
theorem fresh_at (X Y : Nat → Int) (m j : Nat) (h : j < m) : freshC X Y m j = .bool (fr X Y j) := by
  simp [freshC, h]
end Go.Proofs.Qxb6628175a
