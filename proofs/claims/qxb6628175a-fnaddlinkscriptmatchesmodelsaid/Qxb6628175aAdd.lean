/-
  seat b6628175a: (*Graph).AddLink: what it does to the graph's memory.
-/
import Derived.Test.Qxb6628175aState
import Derived.StillTactics
import Derived.Laws.Pointers
import Derived.Deep.RegionHeld3
import Derived.Deep.AppendLies
import Derived.Deep.DeepCutAuto
import Derived.Deep.DrawnRows
import Derived.Deep.RegionLaw
namespace Go.Proofs.Qxb6628175a
open Go.RowKit Go.Maps

theorem Try.info3 : (Try.prog.info? 3).map (fun i => (i.zero, i.size, i.bytes)) = some (some (.int .i64 0), 1, 8) := by kernel_rfl
/-- The key's two cells. -/
def kc (a b : Int) : Nat → Value
  | 0 => .int .i64 a
  | _ => .int .i64 b
theorem kc_alloc (w : World) (a b : Int) : (w.alloc (.cells #[.int .i64 a, .int .i64 b] 25)).rowIs w.heap.size 25 2 (kc a b) :=
  World.rowIs_alloc w _ 25 _ (fun i hi => by
    match i, hi with
    | 0, _ => rfl
    | 1, _ => rfl)
/-- The smaller and the larger of two different members. -/
def LoHi (a b lo hi : Nat) : Prop := (a < b ∧ lo = a ∧ hi = b) ∨ (b < a ∧ lo = b ∧ hi = a)
theorem LoHi.key {a b lo hi : Nat} (h : LoHi a b lo hi) : keyP (a : Int) (b : Int) = ((lo : Int), (hi : Int)) := by
  unfold keyP
  rcases h with ⟨h1, rfl, rfl⟩ | ⟨h1, rfl, rfl⟩
  · rw [Int.min_eq_left (by omega), Int.max_eq_right (by omega)]
  · rw [Int.min_eq_right (by omega), Int.max_eq_left (by omega)]
theorem LoHi.of {a b : Nat} (h : a ≠ b) : ∃ lo hi, LoHi a b lo hi := by
  rcases Nat.lt_or_gt_of_ne h with h | h
  · exact ⟨a, b, .inl ⟨h, rfl, rfl⟩⟩
  · exact ⟨b, a, .inr ⟨h, rfl, rfl⟩⟩
theorem LoHi.ok {a b lo hi n : Nat} (h : LoHi a b lo hi) (ha : a < n) (hb : b < n) (hn : n ≤ 4096) : KeyOk ((lo : Int), (hi : Int)) := by
  rcases h with ⟨h1, rfl, rfl⟩ | ⟨h1, rfl, rfl⟩
  · exact keyOk_nat _ _ (by omega) (by omega)
  · exact keyOk_nat _ _ (by omega) (by omega)

set_option maxRecDepth 100000 in
set_option maxHeartbeats 3200000 in
/-- The pair stands already: false; nothing of the graph turns. -/
theorem add_seen (B Bg Ba n a b : Nat) (x0 x1 L : Value) (S : Nat → Value) (A : Nat → List Int) (ks : List (Int × Int)) (w : World) (h : GS w B Bg Ba n x0 x1 L S A ks)
    (ha : a < n) (hb : b < n) (hne : a ≠ b) (hn : n ≤ 4096) (hin : keyP (a : Int) (b : Int) ∈ ks) :
    Calls Try.prog 8 #[.pointer (some ⟨Bg, 0, none⟩), .int .i64 a, .int .i64 b] w fun e w' => e = .returned (.bool false) ∧ Below w.heap.size w w' := by
  obtain ⟨lo, hi, hlh⟩ := LoHi.of hne
  have hok : KeyOk ((lo : Int), (hi : Int)) := hlh.ok ha hb hn
  have c3 : w.cell? ⟨Bg, 3, none⟩ = some L := h.g.cell (by omega)
  have hBg : Bg < w.heap.size := h.g.lt
  have hab : (((a : Nat) : Int) == (b : Int)) = false := by rw [beq_eq_false_iff_ne]; omega
  have hlk : Hid (∀ x : World, LinksAre x B L ks → (Instr.lookup 34 L (.agg #[.int .i64 lo, .int .i64 hi]) true).run Try.prog x = .ok (.tuple #[.agg #[], .bool true]) x) := by
    intro x hx
    have := hx.look ((lo : Int), (hi : Int)) hok
    rw [← hlh.key, decide_eq_true hin, hlh.key] at this
    exact this
  have HG : Hid (GS w B Bg Ba n x0 x1 L S A ks) := h
  have HL : Hid (LinksAre w B L ks) := h.l
  have HLH : Hid (LoHi a b lo hi) := hlh
  clear h hin hlh
  go_enter Try.func8, Try.ntmps8
  go_upto_region 3 with fail
  go_cut [7] (fun s7 wx => s7 = .pointer (some ⟨w.heap.size, 0, none⟩) ∧ wx = w.alloc (.cells #[.int .i64 lo, .int .i64 hi] 25))
  case first =>
    rcases HLH.out with ⟨hlt, rfl, rfl⟩ | ⟨hlt, rfl, rfl⟩
    all_goals
      go_wp2_with fail
      go_meet
      exact ⟨rfl, rfl⟩
  obtain ⟨rfl, rfl⟩ := hcut
  go_upto_region 4 with fail
  go_cut [9] (fun s9 wx => s9 = .bool true ∧ GS wx B Bg Ba n x0 x1 L S A ks ∧ Kept B w wx ∧ wx.rowIs w.heap.size 25 2 (kc lo hi) ∧ Below w.heap.size w wx)
  case first =>
    go_region_held3 (fun w' => w'.cell? ⟨Bg, 3, none⟩ = some L ∧ w'.cell? ⟨w.heap.size, 0, none⟩ = some (.int .i64 lo) ∧ w'.cell? ⟨w.heap.size, 1, none⟩ = some (.int .i64 hi) ∧
        (Instr.lookup 34 L (.agg #[.int .i64 lo, .int .i64 hi]) true).run Try.prog w' = .ok (.tuple #[.agg #[], .bool true]) w')
      ((go_split_ands; refine ⟨by go_keep, by go_keep, by go_keep, hlk.out _ ?_⟩; repeat (first | exact HL.out | apply LinksAre.drew | apply LinksAre.alloc)))
      (fail)
    all_goals
      go_wp2_with fail
      go_meet
      exact ⟨rfl, ((HG.out.alloc _).alloc _).drew, ((((Kept.refl B w).alloc HG.out.size _).alloc (HG.out.alloc _).size _)).drew, ((kc_alloc w _ _).alloc _).drew, (((Below.refl _ _).alloc (Nat.le_refl _) _).alloc (by simp) _).drew⟩
  obtain ⟨rfl, hG, hK, hN, hBl⟩ := hcut
  clear hlk HL c3 hBg HLH
  clear hG hK hN
  go_wp2
  go_ret
  exact ⟨rfl, hBl⟩

set_option maxRecDepth 100000 in
set_option maxHeartbeats 6400000 in
/-- The pair is new: true; either member's list takes the other, the links take the key. -/
theorem add_new (B Bg Ba n a b : Nat) (x0 x1 L : Value) (S : Nat → Value) (A : Nat → List Int) (ks : List (Int × Int)) (w : World) (h : GS w B Bg Ba n x0 x1 L S A ks)
    (ha : a < n) (hb : b < n) (hne : a ≠ b) (hn : n ≤ 4096) (hA : (A a).length ≤ 4096) (hA' : (A b).length ≤ 4096) (hin : keyP (a : Int) (b : Int) ∉ ks) (hks : ks.length ≤ 4096) :
    Calls Try.prog 8 #[.pointer (some ⟨Bg, 0, none⟩), .int .i64 a, .int .i64 b] w fun e w' => e = .returned (.bool true) ∧
      ∃ S' L', GS w' B Bg Ba n x0 x1 L' S' (fun v => if v = b then A b ++ [(a : Int)] else if v = a then A a ++ [(b : Int)] else A v) (ks ++ [keyP (a : Int) (b : Int)]) ∧ Kept B w w' := by
  obtain ⟨i0, hi0, hz0, hz1, hz2⟩ := info_parts Try.info3
  obtain ⟨lo, hi, hlh⟩ := LoHi.of hne
  have hok : KeyOk ((lo : Int), (hi : Int)) := hlh.ok ha hb hn
  have c3 : w.cell? ⟨Bg, 3, none⟩ = some L := h.g.cell (by omega)
  have hBg : Bg < w.heap.size := h.g.lt
  have hab : (((a : Nat) : Int) == (b : Int)) = false := by rw [beq_eq_false_iff_ne]; omega
  have hlk : Hid (∀ x : World, LinksAre x B L ks → (Instr.lookup 34 L (.agg #[.int .i64 lo, .int .i64 hi]) true).run Try.prog x = .ok (.tuple #[.agg #[], .bool false]) x) := by
    intro x hx
    have := hx.look ((lo : Int), (hi : Int)) hok
    rw [← hlh.key, decide_eq_false hin, hlh.key] at this
    exact this
  have HKY : Hid (keyP (a : Int) (b : Int) = ((lo : Int), (hi : Int))) := hlh.key
  have HG : Hid (GS w B Bg Ba n x0 x1 L S A ks) := h
  have HL : Hid (LinksAre w B L ks) := h.l
  have HLH : Hid (LoHi a b lo hi) := hlh
  clear h hin hlh
  go_enter Try.func8, Try.ntmps8
  go_upto_region 3 with fail
  go_cut [7] (fun s7 wx => s7 = .pointer (some ⟨w.heap.size, 0, none⟩) ∧ wx = w.alloc (.cells #[.int .i64 lo, .int .i64 hi] 25))
  case first =>
    rcases HLH.out with ⟨hlt, rfl, rfl⟩ | ⟨hlt, rfl, rfl⟩
    all_goals
      go_wp2_with fail
      go_meet
      exact ⟨rfl, rfl⟩
  obtain ⟨rfl, rfl⟩ := hcut
  go_upto_region 4 with fail
  go_cut [9] (fun s9 wx => s9 = .bool false ∧ GS wx B Bg Ba n x0 x1 L S A ks ∧ Kept B w wx ∧ wx.rowIs w.heap.size 25 2 (kc lo hi) ∧ Below w.heap.size w wx)
  case first =>
    go_region_held3 (fun w' => w'.cell? ⟨Bg, 3, none⟩ = some L ∧ w'.cell? ⟨w.heap.size, 0, none⟩ = some (.int .i64 lo) ∧ w'.cell? ⟨w.heap.size, 1, none⟩ = some (.int .i64 hi) ∧
        (Instr.lookup 34 L (.agg #[.int .i64 lo, .int .i64 hi]) true).run Try.prog w' = .ok (.tuple #[.agg #[], .bool false]) w')
      ((go_split_ands; refine ⟨by go_keep, by go_keep, by go_keep, hlk.out _ ?_⟩; repeat (first | exact HL.out | apply LinksAre.drew | apply LinksAre.alloc)))
      (fail)
    all_goals
      go_wp2_with fail
      go_meet
      exact ⟨rfl, ((HG.out.alloc _).alloc _).drew, ((((Kept.refl B w).alloc HG.out.size _).alloc (HG.out.alloc _).size _)).drew, ((kc_alloc w _ _).alloc _).drew, (((Below.refl _ _).alloc (Nat.le_refl _) _).alloc (by simp) _).drew⟩
  obtain ⟨rfl, hG, hK, hN, hBl⟩ := hcut
  clear hlk HL c3 hBg HLH
  clear hBl
  have d3 : wc.cell? ⟨Bg, 3, none⟩ = some L := hG.g.cell (by omega)
  have e3 : wc.frozen? ⟨Bg, 3, none⟩ = false := hG.g.frozen 3
  have lBg : Bg < wc.heap.size := hG.g.lt
  have heq := fun (w : World) (r : Option Nat) => run_eql_map_nil (P := Try.prog) w 34 25 36 r Try.underlying34
  have hmm := @run_makeMap Try.prog
  have HG1 : Hid (GS wc B Bg Ba n x0 x1 L S A ks) := hG
  have HN : Hid (wc.rowIs w.heap.size 25 2 (kc lo hi)) := hN
  have HK : Hid (Kept B w wc) := hK
  clear hG hN hK HG
  go_upto_region 7 with fail
  go_cut [35] (fun s35 wx => wx = wc ∧ ((L = .map none ∧ ks = [] ∧ s35 = .bool true) ∨ ∃ Bm, L = .map (some Bm) ∧ s35 = .bool false))
  case first =>
    rcases HG1.out.l.2 with ⟨hL, hk⟩ | ⟨Bm, hL, _⟩
    · subst hL
      go_wp2_with fail
      go_meet
      exact ⟨rfl, by simp [hk]⟩
    · subst hL
      go_wp2_with fail
      go_meet
      exact ⟨rfl, by simp⟩
  obtain ⟨hw1, hs35⟩ := hcut
  subst hw1
  go_upto_if 35 with fail
  go_cut [] (fun wx => ∃ Bm, GS wx B Bg Ba n x0 x1 (.map (some Bm)) S A ks ∧ Kept B w wx ∧ wx.rowIs w.heap.size 25 2 (kc lo hi))
  case first =>
    rcases hs35 with ⟨hL, hk, hs⟩ | ⟨Bm, hL, hs⟩
    · subst hL hk hs
      obtain ⟨m1, m2⟩ := HG1.out.made
      rw [World.setCell_alloc_past _ _ _ _ HG1.out.g.lt] at m1 m2
      have M1 : Hid _ := m1
      have M2 : Hid _ := m2
      clear m1 m2
      go_wp2_with fail
      go_meet
      exact ⟨_, M1.out, HK.out.trans M2.out, M2.out.2 _ _ _ _ (by decide) (by decide) (by decide) HN.out⟩
    · subst hL hs
      go_wp2_with fail
      go_meet
      exact ⟨Bm, HG1.out, HK.out, HN.out⟩
  obtain ⟨Bm, hG2, hK2, hN2⟩ := hcut
  clear d3 e3 lBg heq hmm HG1 HN HK hs35
  obtain ⟨w2, rfl⟩ : ∃ w2 : World, w2 = wc := ⟨_, rfl⟩
  have H2 : Hid (GS w2 B Bg Ba n x0 x1 (.map (some Bm)) S A ks) := hG2
  have K2 : Hid (Kept B w w2) := hK2
  have N2 : Hid (w2.rowIs w.heap.size 25 2 (kc lo hi)) := hN2
  clear hG2 hK2 hN2

  have q2 : w2.cell? ⟨Bg, 2, none⟩ = some (.slice (some ⟨Ba, 0, none⟩) n n) := H2.out.g.cell (i := 2) (by omega)
  have qa : w2.cell? ⟨Ba, a, none⟩ = some (S a) := H2.out.a.cell ha
  have fa : w2.frozen? ⟨Ba, a, none⟩ = false := H2.out.a.frozen a
  have lBg2 : Bg < w2.heap.size := H2.out.g.lt
  have lBa2 : Ba < w2.heap.size := H2.out.a.lt
  have na : (S a).ownBlock ≠ some Ba := own_ne H2.out.a (H2.out.r a ha) (by decide)
  have ng : (S a).ownBlock ≠ some Bg := own_ne H2.out.g (H2.out.r a ha) (by decide)
  have hro : Hid (w2.ownsRow B 3 1 (S a) (A a).length ((A a).map (Value.int .i64))) := H2.out.r a ha
  have hsz : B ≤ w2.heap.size := H2.out.size
  have hi0' : (0 : Int) ≤ (a : Int) := Int.natCast_nonneg _
  have hi1 : (a : Int) < (n : Int) := by omega
  have qal : ∀ o : Obj, (w2.alloc o).cell? ⟨Ba, a, none⟩ = some (S a) := fun o => (World.cell?_alloc_lt w2 o ⟨Ba, a, none⟩ lBa2).trans qa
  have qgl : ∀ o : Obj, (w2.alloc o).cell? ⟨Bg, 2, none⟩ = some (.slice (some ⟨Ba, 0, none⟩) n n) := fun o => (World.cell?_alloc_lt w2 o ⟨Bg, 2, none⟩ lBg2).trans q2
  have fal : ∀ o : Obj, (w2.alloc o).frozen? ⟨Ba, a, none⟩ = false := fun o => (World.frozen?_alloc_old w2 o ⟨Ba, a, none⟩ (Nat.ne_of_lt lBa2)).trans fa
  go_upto_region 9 with fail
  go_cut [] (fun wx => ∃ S', GS wx B Bg Ba n x0 x1 (.map (some Bm)) S' (fun v => if v = a then A a ++ [(b : Int)] else A v) ks ∧ Kept B w wx ∧ wx.rowIs w.heap.size 25 2 (kc lo hi))
  case first =>
    go_region_law ((refine step_append_lies _ (by rfl) _ _ _ (by rfl) B 3 i0 _ 1 8 Try.underlying33 hi0 hz0 hz1 hz2 rfl (by omega) (S a) (A a).length ((A a).map (Value.int .i64)) (by simp [Act.eval]) ((hro.out.alloc _).drew) ⟨w2.heap.size, 0, none⟩ 1 1 [.int .i64 b] (by simp [Act.eval]) (by rfl) (World.news_of_block (cs := #[.int .i64 b]) (t := 3) (fr := (0, 0)) (heap_alloc_new w2 _)) (by simp [Value.oneCell']) (by omega) (by unfold maxLen; omega) (by omega) (by simp; omega) (w2.heap.size + 1) (by simp) ?_; intro gg cap w3 hown1 hgrow hat hlt3; have p2 := (hgrow.cell_far ⟨Bg, 2, none⟩ (by simp; omega) (Ne.symm ng)).trans (qgl _); have pa := (hgrow.cell_far ⟨Ba, a, none⟩ (by simp; omega) (Ne.symm na)).trans (qal _); have pf := (hgrow.frozen_far ⟨Ba, a, none⟩ (by simp; omega) (Ne.symm na)).trans (fal _)))
    all_goals
      go_wp2_with fail
      have R := H2.out.append ha hgrow hown1 hat
      go_meet
      exact ⟨_, R.1, K2.out.trans R.2, R.2.2 _ _ _ _ (by decide) (by decide) (by decide) N2.out⟩
  clear q2 qa fa lBg2 lBa2 na ng hro hsz hi0' hi1 qal qgl fal
  obtain ⟨S4, hG4, hK4, hN4⟩ := hcut
  obtain ⟨w4, rfl⟩ : ∃ w4 : World, w4 = wc := ⟨_, rfl⟩
  obtain ⟨A4, hA4⟩ : ∃ A4 : Nat → List Int, A4 = fun v => if v = a then A a ++ [(b : Int)] else A v := ⟨_, rfl⟩
  rw [← hA4] at hG4
  have hA4b : (A4 b).length ≤ 4096 := by rw [hA4]; simp only [if_neg (Ne.symm hne)]; exact hA'
  have HA4 : Hid (A4 = fun v => if v = a then A a ++ [(b : Int)] else A v) := hA4
  have H4 : Hid (GS w4 B Bg Ba n x0 x1 (.map (some Bm)) S4 A4 ks) := hG4
  have K4 : Hid (Kept B w w4) := hK4
  have N4 : Hid (w4.rowIs w.heap.size 25 2 (kc lo hi)) := hN4
  clear hG4 hK4 hN4 hA4 H2 K2 N2

  have q2 : w4.cell? ⟨Bg, 2, none⟩ = some (.slice (some ⟨Ba, 0, none⟩) n n) := H4.out.g.cell (i := 2) (by omega)
  have qa : w4.cell? ⟨Ba, b, none⟩ = some (S4 b) := H4.out.a.cell hb
  have fa : w4.frozen? ⟨Ba, b, none⟩ = false := H4.out.a.frozen b
  have lBg2 : Bg < w4.heap.size := H4.out.g.lt
  have lBa2 : Ba < w4.heap.size := H4.out.a.lt
  have na : (S4 b).ownBlock ≠ some Ba := own_ne H4.out.a (H4.out.r b hb) (by decide)
  have ng : (S4 b).ownBlock ≠ some Bg := own_ne H4.out.g (H4.out.r b hb) (by decide)
  have hro : Hid (w4.ownsRow B 3 1 (S4 b) (A4 b).length ((A4 b).map (Value.int .i64))) := H4.out.r b hb
  have hsz : B ≤ w4.heap.size := H4.out.size
  have hi0' : (0 : Int) ≤ (b : Int) := Int.natCast_nonneg _
  have hi1 : (b : Int) < (n : Int) := by omega
  have qal : ∀ o : Obj, (w4.alloc o).cell? ⟨Ba, b, none⟩ = some (S4 b) := fun o => (World.cell?_alloc_lt w4 o ⟨Ba, b, none⟩ lBa2).trans qa
  have qgl : ∀ o : Obj, (w4.alloc o).cell? ⟨Bg, 2, none⟩ = some (.slice (some ⟨Ba, 0, none⟩) n n) := fun o => (World.cell?_alloc_lt w4 o ⟨Bg, 2, none⟩ lBg2).trans q2
  have fal : ∀ o : Obj, (w4.alloc o).frozen? ⟨Ba, b, none⟩ = false := fun o => (World.frozen?_alloc_old w4 o ⟨Ba, b, none⟩ (Nat.ne_of_lt lBa2)).trans fa
  go_upto_region 10 with fail
  go_cut [] (fun wx => ∃ S', GS wx B Bg Ba n x0 x1 (.map (some Bm)) S' (fun v => if v = b then A4 b ++ [(a : Int)] else A4 v) ks ∧ Kept B w wx ∧ wx.rowIs w.heap.size 25 2 (kc lo hi))
  case first =>
    go_region_law ((refine step_append_lies _ (by rfl) _ _ _ (by rfl) B 3 i0 _ 1 8 Try.underlying33 hi0 hz0 hz1 hz2 rfl (by omega) (S4 b) (A4 b).length ((A4 b).map (Value.int .i64)) (by simp [Act.eval]) ((hro.out.alloc _).drew) ⟨w4.heap.size, 0, none⟩ 1 1 [.int .i64 a] (by simp [Act.eval]) (by rfl) (World.news_of_block (cs := #[.int .i64 a]) (t := 3) (fr := (0, 0)) (heap_alloc_new w4 _)) (by simp [Value.oneCell']) (by omega) (by unfold maxLen; omega) (by omega) (by simp; omega) (w4.heap.size + 1) (by simp) ?_; intro gg cap w3 hown1 hgrow hat hlt3; have p2 := (hgrow.cell_far ⟨Bg, 2, none⟩ (by simp; omega) (Ne.symm ng)).trans (qgl _); have pa := (hgrow.cell_far ⟨Ba, b, none⟩ (by simp; omega) (Ne.symm na)).trans (qal _); have pf := (hgrow.frozen_far ⟨Ba, b, none⟩ (by simp; omega) (Ne.symm na)).trans (fal _)))
    all_goals
      go_wp2_with fail
      have R := H4.out.append hb hgrow hown1 hat
      go_meet
      exact ⟨_, R.1, K4.out.trans R.2, R.2.2 _ _ _ _ (by decide) (by decide) (by decide) N4.out⟩
  clear q2 qa fa lBg2 lBa2 na ng hro hsz hi0' hi1 qal qgl fal
  obtain ⟨S6, hG6, hK6, hN6⟩ := hcut
  obtain ⟨w6, rfl⟩ : ∃ w6 : World, w6 = wc := ⟨_, rfl⟩
  obtain ⟨w7, hrun, hG7, hK7⟩ := hG6.drew.store (p := ((lo : Int), (hi : Int))) hok hks
  have r3 : w6.cell? ⟨Bg, 3, none⟩ = some (.map (some Bm)) := hG6.g.cell (i := 3) (by omega)
  have r4 : w6.cell? ⟨w.heap.size, 0, none⟩ = some (.int .i64 lo) := hN6.cell (i := 0) (by omega)
  have r5 : w6.cell? ⟨w.heap.size, 1, none⟩ = some (.int .i64 hi) := hN6.cell (i := 1) (by omega)
  have hF : (fun v => if v = b then A4 b ++ [(a : Int)] else A4 v) = fun v => if v = b then A b ++ [(a : Int)] else if v = a then A a ++ [(b : Int)] else A v := by
    funext v
    rw [HA4.out]
    by_cases e : v = b
    · simp only [e, if_true, if_neg (Ne.symm hne)]
    · simp only [if_neg e]
  rw [hF, ← HKY.out] at hG7
  have H7 : Hid (GS w7 B Bg Ba n x0 x1 (.map (some Bm)) S6 (fun v => if v = b then A b ++ [(a : Int)] else if v = a then A a ++ [(b : Int)] else A v) (ks ++ [keyP (a : Int) (b : Int)])) := hG7
  have K7 : Hid (Kept B w w7) := hK6.drew.trans hK7
  clear hG6 hN6 hG7 hK7 hK6 H4 K4 N4 hF HA4 HKY
  unfold kval at hrun
  go_upto_region 11 with fail
  go_region_law (fail)
  all_goals
    go_wp2
    go_ret
    first | exact ⟨rfl, ⟨_, _, H7.out⟩, K7.out⟩ | exact ⟨rfl, _, _, H7.out, K7.out⟩
end Go.Proofs.Qxb6628175a
