/-
  seat b6628175a: the law where every pair is one: its five loops.
-/
import Derived.Test.Qxb6628175aRel
import Derived.Test.Qxb6628175aLawA
import Derived.StillTactics
import Derived.Laws.Pointers
import Derived.Deep.RegionHeld3
import Derived.Deep.DeepCutAuto
import Derived.Deep.CutBlock
import Derived.Deep.LoopGhost
namespace Go.Proofs.Qxb6628175a
open Go.RowKit Go.Maps

set_option maxRecDepth 100000 in
set_option maxHeartbeats 12800000 in
theorem law_valid (n : Nat) (X Y : Nat → Int) (b off len cap : Nat) (hl : len ≤ 4096) (hn : n ≤ 4096) (w : World)
    (hX : ∀ j, j < len → w.cell? ⟨b, off + j * 2, none⟩ = some (.int .i64 (X j))) (hY : ∀ j, j < len → w.cell? ⟨b, off + j * 2 + 1, none⟩ = some (.int .i64 (Y j)))
    (hgood : ∀ i, i < len → vpB n (X i) (Y i) = true) :
    Calls Try.prog 3 #[.int .i64 n, .slice (some ⟨b, off, none⟩) len cap] w fun e w' => e = .returned (.bool true) ∧ Below w.heap.size w w' := by
  have HG : Hid (∀ i, i < len → vpB n (X i) (Y i) = true) := hgood
  have HX : Hid (∀ j, j < len → w.cell? ⟨b, off + j * 2, none⟩ = some (.int .i64 (X j))) := hX
  have HY : Hid (∀ j, j < len → w.cell? ⟨b, off + j * 2 + 1, none⟩ = some (.int .i64 (Y j))) := hY
  have HBW : Hid (0 < len → b < w.heap.size) := fun h => World.block_lt_of_cell? w _ (hX 0 h)
  clear hgood hX hY
  have hmk := run_make_row' (P := Try.prog) 28 4 (.bool false) 1 Try.underlying28 Try.info4 rfl .i64 .i64 len (by omega) (by omega)
  go_enter Try.func3, Try.ntmps3
  go_wp2_with (go_at_call 4; go_in)
  go_loopw [5] (fun s5 wr => ∃ k : Nat, k ≤ len ∧ s5 = .int .i64 k ∧ Below w.heap.size w wr) (fun s5 _ => len - (intOf s5).toNat)
  case atStart => exact ⟨0, by omega, rfl, Below.refl _ _⟩
  case round =>
    obtain ⟨k, hk, rfl, hb⟩ := hrel
    by_cases hlt : k < len
    · have hbw := HBW.out (by omega)
      have h1 : wr.cell? ⟨b, off + k * 2, none⟩ = some (.int .i64 (X k)) := (hb.cell (by exact hbw)).trans (HX.out k hlt)
      have h2 : wr.cell? ⟨b, off + k * 2 + 1, none⟩ = some (.int .i64 (Y k)) := (hb.cell (by exact hbw)).trans (HY.out k hlt)
      have hk0 : (0 : Int) ≤ (k : Int) := by omega
      have hk1 : (k : Int) < (len : Int) := by omega
      have hv := HG.out k hlt
      go_wp2_with fail
      go_quiet ((go_at_call 5; exact Calls.quiet_of_same (vp_any _ _ _ _)))
      go_wp2
      go_roundw
      case rel => exact ⟨k + 1, by omega, by go_num, below_drewN hb _⟩
      case measure => simp [intOf]; omega
    obtain rfl : k = len := by omega
    go_wp2_with fail
    refine (graph_any n hn _).mono ?_
    rintro e w1 ⟨Bg, Ba, x0, x1, rfl, hg1, ha1, hBa, hBag, hb1⟩
    have HG1 : Hid (w1.rowIs Bg 44 4 (gcell x0 x1 Ba n (.map none))) := hg1
    have HA1 : Hid (w1.rowIs Ba 33 n (fun _ => .slice none 0 0)) := ha1
    have HB1 : Hid (Below w.heap.size w w1) := hb.trans (hb1.mono hb.size)
    have HBA : Hid (w.heap.size ≤ Ba ∧ w.heap.size ≤ Bg) := ⟨Nat.le_trans hb.size hBa, Nat.le_trans hb.size (by omega)⟩
    clear hg1 ha1 hb1 hb hBa hBag
    go_wp2_with fail
    go_loopw [8, 9] (fun s8 s9 wr => ∃ i : Nat, i ≤ k ∧ s9 = .int .i64 i ∧ s8 = .int .i64 (cnt X Y i) ∧ LR w w.heap.size Bg Ba w1.heap.size n k x0 x1 X Y i wr) (fun _ s9 _ => k - (intOf s9).toNat)
    case atStart =>
      exact ⟨0, Nat.zero_le _, rfl, rfl, LR.start HG1.out HA1.out HB1.out HBA.out⟩
    case round =>
      obtain ⟨i, hi, rfl, rfl, S, L, hGr, hFr, hBr, hBf⟩ := hrel
      have HGr : Hid (GS wr w.heap.size Bg Ba n x0 x1 L S (fun v => adjTo X Y (v : Int) i) (keysTo X Y i)) := hGr
      have HFr : Hid (wr.rowIs w1.heap.size 4 k (freshC X Y i)) := hFr
      have HBr : Hid (Below w.heap.size w wr) := hBr
      have HBf : Hid (w.heap.size ≤ w1.heap.size) := hBf
      clear hGr hFr hBr hBf
      have hcl := cnt_le X Y i
      by_cases hlt : i < k
      · have hbw := HBW.out (by omega)
        obtain ⟨v1, v2, v3, v4, v5⟩ := vp_out (HG.out i hlt)
        obtain ⟨p, hp⟩ : ∃ p : Nat, X i = p := ⟨(X i).toNat, by omega⟩
        obtain ⟨q, hq⟩ : ∃ q : Nat, Y i = q := ⟨(Y i).toNat, by omega⟩
        have hpn : p < n := by omega
        have hqn : q < n := by omega
        have hpq : p ≠ q := by intro e; apply v5; rw [hp, hq, e]
        have h1 : wr.cell? ⟨b, off + i * 2, none⟩ = some (.int .i64 (p : Int)) := by rw [← hp]; exact (HBr.out.cell (by exact hbw)).trans (HX.out i hlt)
        have h2 : wr.cell? ⟨b, off + i * 2 + 1, none⟩ = some (.int .i64 (q : Int)) := by rw [← hq]; exact (HBr.out.cell (by exact hbw)).trans (HY.out i hlt)
        have HP : Hid (X i = p) := hp
        have HQ : Hid (Y i = q) := hq
        have HXr : Hid (∀ j, j < k → wr.cell? ⟨b, off + j * 2, none⟩ = some (.int .i64 (X j))) := fun j hj => (HBr.out.cell (by exact hbw)).trans (HX.out j hj)
        have HYr : Hid (∀ j, j < k → wr.cell? ⟨b, off + j * 2 + 1, none⟩ = some (.int .i64 (Y j))) := fun j hj => (HBr.out.cell (by exact hbw)).trans (HY.out j hj)
        clear v1 v2 v3 v4 v5
        cases hf : fr X Y i with
        | true =>
          have hs : seenB X Y i (p : Int) (q : Int) = false := by rw [← hp, ← hq]; simpa [fr] using hf
          have HF : Hid (fr X Y i = true) := hf
          have HIN : Hid (keyP (p : Int) (q : Int) ∉ keysTo X Y i) := by rw [← hp, ← hq]; exact fr_new X Y i hf
          clear hp hq hf
          go_wp2_with fail
          refine (seen_any X Y b off k cap i p q (by omega) hl wr HXr.out HYr.out).mono ?_
          rintro e w2 ⟨rfl, hb2⟩
          have HB2 : Hid (Below wr.heap.size wr w2) := hb2
          have HF2 : Hid (w2.rowIs w1.heap.size 4 k (freshC X Y i)) := HFr.out.of_block (hb2.block _ HFr.out.lt)
          have c1 : w2.cell? ⟨w1.heap.size, i, none⟩ = some (freshC X Y i i) := HF2.out.cell hlt
          have f1 : w2.frozen? ⟨w1.heap.size, i, none⟩ = false := HF2.out.frozen i
          clear hb2
          go_wp2_with fail
          refine (add_new w.heap.size Bg Ba n p q x0 x1 L S _ _ _ ((HGr.out.below HB2.out).setFresh HF2.out i _) hpn hqn hpq hn (Nat.le_trans (adj_le X Y _ i) (by omega)) (Nat.le_trans (adj_le X Y _ i) (by omega)) HIN.out (by rw [len_keys]; omega)).mono ?_
          rintro e w3 ⟨rfl, S', L', hG3, hK3⟩
          have R : Hid (LR w w.heap.size Bg Ba w1.heap.size n k x0 x1 X Y (i + 1) w3) := by
            have hf := HF.out
            rw [adj_new X Y i p q HP.out HQ.out hpq hf, ← HP.out, ← HQ.out, keys_new X Y i hf] at hG3
            have hF3 := fresh_step X Y i k HF2.out
            rw [hf] at hF3
            exact ⟨S', L', hG3, hK3.2 _ _ _ _ (by decide) (by decide) (by decide) hF3, ((HBr.out.trans (HB2.out.mono HBr.out.size)).setCell HBf.out _).trans hK3.1, HBf.out⟩
          have RC : Hid (cnt X Y (i + 1) = cnt X Y i + 1) := cnt_new X Y i HF.out
          clear hG3 hK3 c1 f1 h1 h2 hs
          go_wp2
          go_roundw
          case rel => exact ⟨i + 1, by omega, by go_num, by rw [RC.out]; go_num, R.out⟩
          case measure => simp [intOf]; omega
        | false =>
          have hs : seenB X Y i (p : Int) (q : Int) = true := by rw [← hp, ← hq]; simpa [fr] using hf
          have HF : Hid (fr X Y i = false) := hf
          have HIN : Hid (keyP (p : Int) (q : Int) ∈ keysTo X Y i) := by rw [← hp, ← hq]; exact fr_old X Y i hf
          clear hp hq hf
          go_wp2_with fail
          refine (seen_any X Y b off k cap i p q (by omega) hl wr HXr.out HYr.out).mono ?_
          rintro e w2 ⟨rfl, hb2⟩
          have HB2 : Hid (Below wr.heap.size wr w2) := hb2
          have HF2 : Hid (w2.rowIs w1.heap.size 4 k (freshC X Y i)) := HFr.out.of_block (hb2.block _ HFr.out.lt)
          have c1 : w2.cell? ⟨w1.heap.size, i, none⟩ = some (freshC X Y i i) := HF2.out.cell hlt
          have f1 : w2.frozen? ⟨w1.heap.size, i, none⟩ = false := HF2.out.frozen i
          clear hb2
          go_wp2_with fail
          refine (add_seen w.heap.size Bg Ba n p q x0 x1 L S _ _ _ ((HGr.out.below HB2.out).setFresh HF2.out i _) hpn hqn hpq hn HIN.out).mono ?_
          rintro e w3 ⟨rfl, hb3⟩
          have R : Hid (LR w w.heap.size Bg Ba w1.heap.size n k x0 x1 X Y (i + 1) w3) := by
            have hf := HF.out
            have hF3 := fresh_step X Y i k HF2.out
            rw [hf] at hF3
            have hG3 := ((HGr.out.below HB2.out).setFresh HF2.out i (.bool false)).below hb3
            rw [adj_old X Y i hf, keys_old X Y i hf] at hG3
            exact ⟨S, L, hG3, hF3.of_block (hb3.block _ hF3.lt), ((HBr.out.trans (HB2.out.mono HBr.out.size)).setCell HBf.out _).trans (hb3.mono (by have := HB2.out.size; have := HBr.out.size; simp; omega)), HBf.out⟩
          have RC : Hid (cnt X Y (i + 1) = cnt X Y i) := cnt_old X Y i HF.out
          clear hb3 c1 f1 h1 h2 hs
          go_wp2
          go_roundw
          case rel => exact ⟨i + 1, by omega, by go_num, by rw [RC.out], R.out⟩
          case measure => simp [intOf]; omega
      obtain rfl : i = k := by omega
      clear hmk
      have c2 : wr.cell? ⟨Bg, 2, none⟩ = some (.slice (some ⟨Ba, 0, none⟩) n n) := HGr.out.g.cell (i := 2) (by omega)
      have c3 : wr.cell? ⟨Bg, 3, none⟩ = some L := HGr.out.g.cell (i := 3) (by omega)
      go_wp2_with (go_at_call 9; go_in)
      go_loop [14] (fun s14 => ∃ v : Nat, v ≤ n ∧ s14 = .int .i64 v) (fun s14 => n - (intOf s14).toNat)
      case atStart => exact ⟨0, Nat.zero_le _, rfl⟩
      case round =>
        obtain ⟨v, hv, rfl⟩ := hrel
        by_cases hvn : v < n
        · obtain ⟨ao, cap', hS, hao⟩ := own_form (HGr.out.r v hvn)
          have cv : wr.cell? ⟨Ba, v, none⟩ = some (.slice ao (adjTo X Y (v : Int) i).length cap') := by rw [← hS]; exact HGr.out.a.cell hvn
          have HAO : Hid (0 < (adjTo X Y (v : Int) i).length → ∃ g, ao = some ⟨g, 0, none⟩ ∧ ∀ j, j < (adjTo X Y (v : Int) i).length → wr.cell? ⟨g, j, none⟩ = some (.int .i64 ((adjTo X Y (v : Int) i).getD j 0))) := hao
          have hli := adj_le X Y (v : Int) i
          clear hao hS
          go_wp2_with fail
          go_loop [15, 16] (fun s15 s16 => ∃ j : Nat, j ≤ i ∧ s16 = .int .i64 j ∧ s15 = .int .i64 ((adjTo X Y (v : Int) j).length : Nat)) (fun _ s16 => i - (intOf s16).toNat)
          case atStart => exact ⟨0, Nat.zero_le _, rfl, rfl⟩
          case round =>
            obtain ⟨j, hj, rfl, rfl⟩ := hrel
            have hlj := adj_le X Y (v : Int) j
            by_cases hji : j < i
            · have hbw := HBW.out (by omega)
              have d1 : wr.cell? ⟨b, off + j * 2, none⟩ = some (.int .i64 (X j)) := (HBr.out.cell (by exact hbw)).trans (HX.out j hji)
              have d2 : wr.cell? ⟨b, off + j * 2 + 1, none⟩ = some (.int .i64 (Y j)) := (HBr.out.cell (by exact hbw)).trans (HY.out j hji)
              have d3 : wr.cell? ⟨w1.heap.size, j, none⟩ = some (.bool (fr X Y j)) := by rw [← fresh_at X Y i j hji]; exact HFr.out.cell hji
              obtain ⟨v1, v2, v3, v4, v5⟩ := vp_out (HG.out j hji)
              cases hf : fr X Y j with
              | false =>
                have HE : Hid ((adjTo X Y (v : Int) (j + 1)).length = (adjTo X Y (v : Int) j).length) := len_same X Y v j (add_stale X Y v j hf)
                rw [hf] at d3
                go_wp2
                go_round
                case rel => exact ⟨j + 1, by omega, by go_num, by rw [HE.out]⟩
                case measure => simp [intOf]; omega
              | true =>
                rw [hf] at d3
                by_cases hx : X j = (v : Int)
                · have HE : Hid ((adjTo X Y (v : Int) (j + 1)).length = (adjTo X Y (v : Int) j).length + 1) := len_more X Y v (Y j) j (add_fst X Y v j hf hx)
                  obtain ⟨hlt', hgd⟩ := adj_at X Y v j i hji (Y j) (add_fst X Y v j hf hx)
                  obtain ⟨g, rfl, hcs⟩ := HAO.out (by omega)
                  have d4 : wr.cell? ⟨g, (adjTo X Y (v : Int) j).length, none⟩ = some (.int .i64 (Y j)) := by rw [← hgd]; exact hcs _ hlt'
                  have hx' : (X j == (v : Int)) = true := by rw [beq_iff_eq]; exact hx
                  clear hx hgd hcs hf
                  go_wp2
                  go_round
                  case rel => exact ⟨j + 1, by omega, by go_num, by rw [HE.out]; go_num⟩
                  case measure => simp [intOf]; omega
                · by_cases hy : Y j = (v : Int)
                  · have HE : Hid ((adjTo X Y (v : Int) (j + 1)).length = (adjTo X Y (v : Int) j).length + 1) := len_more X Y v (X j) j (add_snd X Y v j hf hx hy)
                    obtain ⟨hlt', hgd⟩ := adj_at X Y v j i hji (X j) (add_snd X Y v j hf hx hy)
                    obtain ⟨g, rfl, hcs⟩ := HAO.out (by omega)
                    have d4 : wr.cell? ⟨g, (adjTo X Y (v : Int) j).length, none⟩ = some (.int .i64 (X j)) := by rw [← hgd]; exact hcs _ hlt'
                    have hx' : (X j == (v : Int)) = false := by rw [beq_eq_false_iff_ne]; exact hx
                    have hy' : (Y j == (v : Int)) = true := by rw [beq_iff_eq]; exact hy
                    clear hx hy hgd hcs hf
                    go_wp2
                    go_round
                    case rel => exact ⟨j + 1, by omega, by go_num, by rw [HE.out]; go_num⟩
                    case measure => simp [intOf]; omega
                  · have HE : Hid ((adjTo X Y (v : Int) (j + 1)).length = (adjTo X Y (v : Int) j).length) := len_same X Y v j (add_none X Y v j hf hx hy)
                    have hx' : (X j == (v : Int)) = false := by rw [beq_eq_false_iff_ne]; exact hx
                    have hy' : (Y j == (v : Int)) = false := by rw [beq_eq_false_iff_ne]; exact hy
                    clear hx hy hf
                    go_wp2
                    go_round
                    case rel => exact ⟨j + 1, by omega, by go_num, by rw [HE.out]⟩
                    case measure => simp [intOf]; omega
            obtain rfl : j = i := by omega
            go_wp2
            go_round
            case rel => exact ⟨v + 1, by omega, by go_num⟩
            case measure => simp [intOf]; omega
        obtain rfl : v = n := by omega
        obtain ⟨wo, rfl⟩ : ∃ wo : World, wo = wr := ⟨_, rfl⟩
        have HND : Hid ((keysTo X Y i).Nodup) := nodup_keys X Y i
        have HLK : Hid ((keysTo X Y i).length = cnt X Y i) := len_keys X Y i
        go_wp2_with (first | (go_at_call 10; go_in) | (at_len; refine wpList_len_links _ rfl (.tmp 172) rfl HGr.out.l HND.out (cnt X Y i) HLK.out rfl ?_))
        go_loopg [19] i (fun g s19 wx => ∃ j : Nat, j ≤ i ∧ g = i - j ∧ s19 = .int .i64 j ∧ Below wo.heap.size wo wx)
        case atStart => exact ⟨0, Nat.zero_le _, by omega, rfl, Below.refl _ _⟩
        case round =>
          obtain ⟨j, hj, hg, rfl, hb5⟩ := hrel
          have HGK : Hid (gk = i - j) := hg
          have HB5 : Hid (Below wo.heap.size wo wr) := hb5
          clear hg hb5
          by_cases hji : j < i
          · have hbw := HBW.out (by omega)
            have hbo : b < wo.heap.size := Nat.lt_of_lt_of_le hbw HBr.out.size
            have hbr : b < wr.heap.size := Nat.lt_of_lt_of_le hbo HB5.out.size
            have d1 : wr.cell? ⟨b, off + j * 2, none⟩ = some (.int .i64 (X j)) := (HB5.out.cell (by exact hbo)).trans ((HBr.out.cell (by exact hbw)).trans (HX.out j hji))
            have d2 : wr.cell? ⟨b, off + j * 2 + 1, none⟩ = some (.int .i64 (Y j)) := (HB5.out.cell (by exact hbo)).trans ((HBr.out.cell (by exact hbw)).trans (HY.out j hji))
            have d3 : wr.cell? ⟨w1.heap.size, j, none⟩ = some (.bool (fr X Y j)) := by rw [← fresh_at X Y i j hji]; exact (HB5.out.cell (by exact HFr.out.lt)).trans (HFr.out.cell hji)
            have hk0 : (0 : Int) ≤ (j : Int) := by omega
            have hk1 : (j : Int) < (i : Int) := by omega
            obtain ⟨v1, v2, v3, v4, v5⟩ := vp_out (HG.out j hji)
            cases hf : fr X Y j with
            | false =>
              rw [hf] at d3
              go_wp2
              go_roundg (i - (j + 1))
              case measure => rw [HGK.out]; omega
              case rel => exact ⟨j + 1, by omega, rfl, by go_num, HB5.out⟩
            | true =>
              rw [hf] at d3
              obtain ⟨lo, hi', hlh⟩ := LoHiZ.of v5
              have HLH : Hid (LoHiZ (X j) (Y j) lo hi') := hlh
              have HKI : Hid ((lo, hi') ∈ keysTo X Y i) := by rw [← hlh.key]; exact fr_key X Y j i hji hf
              have HOK : Hid (KeyOk (lo, hi')) := by
                rcases hlh with ⟨_, rfl, rfl⟩ | ⟨_, rfl, rfl⟩
                · exact ⟨WalkArith.wf_i64 (by omega), WalkArith.wf_i64 (by omega)⟩
                · exact ⟨WalkArith.wf_i64 (by omega), WalkArith.wf_i64 (by omega)⟩
              clear hlh hf v5
              go_upto_region 55 with fail
              go_cut [20] (fun s20 wx => s20 = .pointer (some ⟨wr.heap.size, 0, none⟩) ∧ wx.rowIs wr.heap.size 25 2 (kc lo hi') ∧ Below wr.heap.size wr wx)
              case first =>
                have nn1 := World.new_ne wr _ d1
                have nn2 := World.new_ne wr _ d2
                rcases HLH.out with ⟨hlt5, rfl, rfl⟩ | ⟨hlt5, rfl, rfl⟩
                all_goals
                  go_region_held3 (fun w' => w'.cell? ⟨b, off + j * 2, none⟩ = some (.int .i64 (X j)) ∧ w'.cell? ⟨b, off + j * 2 + 1, none⟩ = some (.int .i64 (Y j))) (go_keep) (fail)
                all_goals
                  go_wp2_with fail
                  go_meet
                  exact ⟨rfl, (kc_alloc wr _ _).drew, ((Below.refl _ _).alloc (Nat.le_refl _) _).drew⟩
              obtain ⟨rfl, hrow, hb6⟩ := hcut
              have e0 : wc.cell? ⟨wr.heap.size, 0, none⟩ = some (.int .i64 lo) := hrow.cell (i := 0) (by omega)
              have e1 : wc.cell? ⟨wr.heap.size, 1, none⟩ = some (.int .i64 hi') := hrow.cell (i := 1) (by omega)
              have hB6 : Below wo.heap.size wo wc := HB5.out.trans (hb6.mono HB5.out.size)
              have hlk : (Instr.lookup 34 L (.agg #[.int .i64 lo, .int .i64 hi']) true).run Try.prog wc = .ok (.tuple #[.agg #[], .bool true]) wc := by
                have := (HGr.out.l.below hB6).look (lo, hi') HOK.out
                rw [decide_eq_true HKI.out] at this
                exact this
              have HB6 : Hid (Below wo.heap.size wo wc) := hB6
              clear hB6 hb6 hrow d1 d2 d3
              go_wp2
              go_roundg (i - (j + 1))
              case measure => rw [HGK.out]; omega
              case rel => exact ⟨j + 1, by omega, rfl, by go_num, HB6.out.alloc HB6.out.size _⟩
          obtain rfl : j = i := by omega
          go_wp2
          go_ret
          exact ⟨rfl, HBr.out.trans (HB5.out.mono HBr.out.size)⟩
end Go.Proofs.Qxb6628175a
