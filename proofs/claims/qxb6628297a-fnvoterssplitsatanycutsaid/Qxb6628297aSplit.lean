/-
  seat b6628297a: the first law, FnVotersSplitsAtAnyCut: its walks.
-/
import Derived.Test.Qxb6628297aVoters
import Derived.Test.Qxb6628297aFits
import Derived.Deep.DeepCutAuto
namespace Go.Proofs.Qxb6628297a
open Go.RowKit

theorem vot_hit_len (M : Nat → Mem) (i : Nat) (h : (M i).cu = false) : (votTo M (i + 1)).length = (votTo M i).length + 1 := by
  rw [vot_hit M i h, List.length_append]; rfl

set_option maxRecDepth 100000 in
set_option maxHeartbeats 6400000 in
theorem split_in (M : Nat → Mem) (b off len cap : Nat) (ra : Option Addr) (rn rc : Nat) (at' : Int) (k : Nat) (hk : k ≤ len) (hl : len ≤ 1048576) (hr : rn ≤ 9223372036854775807) (w : World) (hM : ∀ i, i < len → IsMem w b (off + i * 6) (M i)) :
    Calls Try.prog 3 #[.slice (some ⟨b, off, none⟩) len cap, .slice ra rn rc, .int .u64 at', .int .i64 k] w fun e w' => e = .returned (.bool true) ∧ Below w.heap.size w w' := by
  have HM : Hid (∀ i, i < len → IsMem w b (off + i * 6) (M i)) := hM
  have HBW : Hid (0 < len → b < w.heap.size) := fun h => (hM 0 h).lt
  clear hM
  go_enter Try.func3, Try.ntmps3
  go_wp2_with fail
  refine (bytes5_some M b off len cap ra rn rc at' k hl hr w HM.out).mono ?_
  rintro e w1 ⟨⟨r, rfl⟩, hw1⟩
  rw [hw1]
  clear hw1 w1
  cases r with
  | false =>
    go_wp2
    go_ret
    exact ⟨rfl, Below.refl _ _⟩
  | true =>
  go_wp2_with fail
  have hfit := fits_any M (some ⟨b, off, none⟩) len cap ra rn rc ⟨0, ⟨#[]⟩, ⟨#[]⟩, false, 0, 0⟩ w (.inr ⟨b, off, rfl, HM.out⟩)
  dsimp only at hfit
  refine hfit.mono ?_
  rintro e w2 ⟨⟨r, rfl⟩, hb2⟩
  clear hfit
  have HB2 : Hid (Below w.heap.size w w2) := hb2
  clear hb2
  cases r with
  | false =>
    go_wp2
    go_ret
    exact ⟨rfl, HB2.out⟩
  | true =>
  go_wp2_with fail
  refine (toMembers_some M b off len cap hl w2 (fun i hi => (HM.out i hi).below (HM.out i hi).lt HB2.out)).mono ?_
  rintro e w3 ⟨rfl, hR3, hb3⟩
  have HR3 : Hid (MRow w3 w2.heap.size len M len) := hR3
  have HB3 : Hid (Below w.heap.size w w3) := HB2.out.trans (hb3.mono HB2.out.size)
  have HL3 : Hid (w2.heap.size < w3.heap.size) := hR3.lt
  clear hR3 hb3
  go_wp2_with fail
  refine (voters_any M (some ⟨w2.heap.size, 0, none⟩) len len ra rn rc at' (by omega) w3 (.inr ⟨w2.heap.size, 0, rfl, fun i hi => by rw [Nat.zero_add]; exact HR3.out.mem (Nat.le_refl _) hi⟩)).mono ?_
  rintro e w4 ⟨⟨v4, he, hO4⟩, hb4⟩
  obtain ⟨a4, c4, hv4, hr4⟩ := hO4.reads
  rw [hv4] at he
  subst he
  have HR4 : Hid (Reads w4 a4 (votTo M len)) := hr4
  have HM4 : Hid (MRow w4 w2.heap.size len M len) := HR3.out.below HL3.out hb4
  have HB4 : Hid (Below w.heap.size w w4) := HB3.out.trans (hb4.mono HB3.out.size)
  have HS4 : Hid (w3.heap.size ≤ w4.heap.size) := hb4.size
  clear hO4 hb4 hv4 hr4
  go_wp2_with fail
  refine (voters_any M (some ⟨w2.heap.size, 0, none⟩) k len none 0 0 0 (by omega) w4 (.inr ⟨w2.heap.size, 0, rfl, fun i hi => by rw [Nat.zero_add]; exact HM4.out.mem (Nat.le_refl _) (by omega)⟩)).mono ?_
  rintro e w5 ⟨⟨v5, he, hO5⟩, hb5⟩
  obtain ⟨a5, c5, hv5, hr5⟩ := hO5.reads
  rw [hv5] at he
  subst he
  have HR5 : Hid (Reads w5 a5 (votTo M k)) := hr5
  have HW5 : Hid (Reads w5 a4 (votTo M len)) := HR4.out.below hb5
  have HM5 : Hid (MRow w5 w2.heap.size len M len) := HM4.out.below (Nat.lt_of_lt_of_le HL3.out HS4.out) hb5
  have HB5 : Hid (Below w.heap.size w w5) := HB4.out.trans (hb5.mono HB4.out.size)
  clear hO5 hb5 hv5 hr5
  obtain ⟨bl, hbl⟩ : ∃ bl, bl = votTo (fromK M k) (len - k) := ⟨_, rfl⟩
  have HBL : Hid (bl = votTo (fromK M k) (len - k)) := hbl
  clear hbl
  go_upto_region 10 with fail
  go_cut [12] (fun s12 wx => ∃ a6 c6, s12 = .slice a6 bl.length c6 ∧ Reads wx a6 bl ∧ Reads wx a5 (votTo M k) ∧ Reads wx a4 (votTo M len) ∧ Below w.heap.size w wx)
  case first =>
    by_cases hkl : k = len
    · subst hkl
      go_wp2_with fail
      refine (voters_any (fromK M k) (some ⟨w2.heap.size, 0, none⟩) 0 0 ra rn rc at' (by omega) w5 (.inl rfl)).mono ?_
      rintro e w6 ⟨⟨v6, he, hO6⟩, hb6⟩
      have hO6' : Owns w6 w5.heap.size v6 bl := by rw [HBL.out, Nat.sub_self]; exact hO6
      obtain ⟨a6, c6, hv6, hr6⟩ := hO6'.reads
      rw [hv6] at he
      subst he
      have H6 : Hid (Reads w6 a6 bl ∧ Reads w6 a5 (votTo M k) ∧ Reads w6 a4 (votTo M k) ∧ Below w.heap.size w w6) := ⟨hr6, HR5.out.below hb6, HW5.out.below hb6, HB5.out.trans (hb6.mono HB5.out.size)⟩
      clear hO6 hO6' hb6 hv6 hr6
      go_wp2_with fail
      go_meet
      exact ⟨a6, c6, rfl, H6.out⟩
    · have hkl' : ¬ len = k := fun e => hkl e.symm
      go_wp2_with fail
      refine (voters_any (fromK M k) (some ⟨w2.heap.size, k * 6, none⟩) (len - k) (len - k) ra rn rc at' (by omega) w5 (.inr ⟨w2.heap.size, k * 6, rfl, fun i hi => by rw [← Nat.add_mul]; exact HM5.out.mem (Nat.le_refl _) (by omega)⟩)).mono ?_
      rintro e w6 ⟨⟨v6, he, hO6⟩, hb6⟩
      have hO6' : Owns w6 w5.heap.size v6 bl := by rw [HBL.out]; exact hO6
      obtain ⟨a6, c6, hv6, hr6⟩ := hO6'.reads
      rw [hv6] at he
      subst he
      have H6 : Hid (Reads w6 a6 bl ∧ Reads w6 a5 (votTo M k) ∧ Reads w6 a4 (votTo M len) ∧ Below w.heap.size w w6) := ⟨hr6, HR5.out.below hb6, HW5.out.below hb6, HB5.out.trans (hb6.mono HB5.out.size)⟩
      clear hO6 hO6' hb6 hv6 hr6
      go_wp2_with fail
      go_meet
      exact ⟨a6, c6, rfl, H6.out⟩
  obtain ⟨a6, c6, rfl, hr6, hf6, hw6, hb6⟩ := hcut
  have HR : Hid (Reads wc a6 bl) := hr6
  have HF : Hid (Reads wc a5 (votTo M k)) := hf6
  have HW : Hid (Reads wc a4 (votTo M len)) := hw6
  have HB : Hid (Below w.heap.size w wc) := hb6
  have HCUT : Hid (votTo M len = votTo M k ++ bl) := by rw [HBL.out]; exact vot_cut M k len hk
  have n1 := vot_le M len
  have n2 := vot_le M k
  have n3 : (votTo M len).length ≤ (votTo M k).length + bl.length := by rw [HCUT.out, List.length_append]; exact Nat.le_refl _
  have n4 : (votTo M k).length + bl.length ≤ (votTo M len).length := by rw [HCUT.out, List.length_append]; exact Nat.le_refl _
  clear hr6 hf6 hw6 hb6 HR4 HM4 HB4 HS4 HR5 HW5 HM5 HB5 HR3 HB3 HL3 HB2
  go_wp2_with fail
  go_loop [13, 14] (fun s13 s14 => ∃ i : Nat, i ≤ len ∧ s14 = .int .i64 i ∧ s13 = .int .i64 ((votTo M i).length : Nat)) (fun _ s14 => len - (intOf s14).toNat)
  case atStart => exact ⟨0, Nat.zero_le _, rfl, rfl⟩
  case round =>
    obtain ⟨i, hi, rfl, rfl⟩ := hrel
    have hvi := vot_le M i
    by_cases hlt : i < len
    · have hm := HM.out i hlt
      obtain ⟨m0, m1, m2, m3, m4, m5⟩ := hm.below hm.lt HB.out
      clear hm
      cases hcu : (M i).cu with
      | true =>
        have HE : Hid (votTo M (i + 1) = votTo M i) := vot_miss M i hcu
        rw [hcu] at m3
        go_wp2
        go_round
        case rel => exact ⟨i + 1, by omega, by go_num, by rw [HE.out]⟩
        case measure => simp [intOf]; omega
      | false =>
        have HE : Hid ((votTo M (i + 1)).length = (votTo M i).length + 1) := vot_hit_len M i hcu
        rw [hcu] at m3
        go_wp2
        go_round
        case rel => exact ⟨i + 1, by omega, by go_num, by rw [HE.out]; go_num⟩
        case measure => simp [intOf]; omega
    obtain rfl : i = len := by omega
    go_wp2_with fail
    go_loopw [15] (fun s15 wr => ∃ j : Nat, j ≤ (votTo M k).length ∧ s15 = .int .i64 j ∧ Below wc.heap.size wc wr) (fun s15 _ => (votTo M k).length - (intOf s15).toNat)
    case atStart => exact ⟨0, Nat.zero_le _, rfl, Below.refl _ _⟩
    case round =>
      obtain ⟨j, hj, rfl, hb⟩ := hrel
      have HBr : Hid (Below wc.heap.size wc wr) := hb
      clear hb
      by_cases hjl : j < (votTo M k).length
      · obtain ⟨g4, rfl, _, hc4⟩ := HW.out.below HBr.out (by omega)
        obtain ⟨g5, rfl, _, hc5⟩ := HF.out.below HBr.out (by omega)
        obtain ⟨z, hz⟩ : ∃ z, z = (votTo M k).getD j 0 := ⟨_, rfl⟩
        have d1 : wr.cell? ⟨g4, j, none⟩ = some (.int .i64 z) := by
          rw [hc4 j (by omega), HCUT.out, getD_app_left _ _ j hjl, ← hz]
        have d2 : wr.cell? ⟨g5, j, none⟩ = some (.int .i64 z) := by rw [hc5 j hjl, ← hz]
        clear hz hc4 hc5
        have hk0 : (0 : Int) ≤ (j : Int) := by omega
        have hk1 : (j : Int) < ((votTo M k).length : Int) := by omega
        have hk2 : (j : Int) < ((votTo M i).length : Int) := by omega
        go_wp2_with fail
        go_quiet (fail)
        go_wp2
        go_roundw
        case rel => exact ⟨j + 1, by omega, by go_num, below_drewN HBr.out _⟩
        case measure => simp [intOf]; omega
      obtain rfl : j = (votTo M k).length := by omega
      obtain ⟨wa, rfl⟩ : ∃ wa : World, wa = wr := ⟨_, rfl⟩
      go_wp2_with fail
      go_loopw [16] (fun s16 wr => ∃ j : Nat, j ≤ bl.length ∧ s16 = .int .i64 j ∧ Below wc.heap.size wc wr) (fun s16 _ => bl.length - (intOf s16).toNat)
      case atStart => exact ⟨0, Nat.zero_le _, rfl, HBr.out⟩
      case round =>
        obtain ⟨j, hj, rfl, hb⟩ := hrel
        have HBq : Hid (Below wc.heap.size wc wr) := hb
        clear hb
        by_cases hjl : j < bl.length
        · obtain ⟨g4, rfl, _, hc4⟩ := HW.out.below HBq.out (by omega)
          obtain ⟨g6, rfl, _, hc6⟩ := HR.out.below HBq.out (by omega)
          obtain ⟨z, hz⟩ : ∃ z, z = bl.getD j 0 := ⟨_, rfl⟩
          have d1 : wr.cell? ⟨g4, (votTo M k).length + j, none⟩ = some (.int .i64 z) := by
            rw [hc4 _ (by omega), HCUT.out, getD_app_right, ← hz]
          have d2 : wr.cell? ⟨g6, j, none⟩ = some (.int .i64 z) := by rw [hc6 j hjl, ← hz]
          clear hz hc4 hc6
          have hk0 : (0 : Int) ≤ (j : Int) := by omega
          have hk1 : (j : Int) < (bl.length : Int) := by omega
          have hk2 : ((votTo M k).length : Int) + (j : Int) < ((votTo M i).length : Int) := by omega
          go_wp2_with fail
          go_quiet (fail)
          go_wp2
          go_roundw
          case rel => exact ⟨j + 1, by omega, by go_num, below_drewN HBq.out _⟩
          case measure => simp [intOf]; omega
        obtain rfl : j = bl.length := by omega
        have HBZ : Hid (Below w.heap.size w wr) := HB.out.trans (HBq.out.mono HB.out.size)
        by_cases hk00 : k = 0
        · by_cases hki : k < i
          · have hmk := (HM.out k (by omega)).below (HM.out k (by omega)).lt HBZ.out
            cases hcu2 : (M k).cu with
            | true =>
              replace hk00 : k ≤ 0 := Nat.le_of_eq hk00
              have q3 := hmk.c3
              rw [hcu2] at q3
              go_wp2
              go_ret
              exact ⟨rfl, (HB.out.trans (HBq.out.mono HB.out.size))⟩
            | false =>
              replace hk00 : k ≤ 0 := Nat.le_of_eq hk00
              have q3 := hmk.c3
              rw [hcu2] at q3
              have q0 := hmk.c0
              obtain ⟨hp2, he2⟩ := vot_first (fromK M k) (i - k) (by omega) hcu2
              rw [← HBL.out] at hp2 he2
              obtain ⟨g6, rfl, _, hc6⟩ := HR.out.below HBq.out hp2
              have q1 : wr.cell? ⟨g6, 0, none⟩ = some (.int .i64 (M k).id) := by rw [hc6 0 hp2, he2]; rfl
              have q2 : ((bl.length : Int) == 0) = false := by rw [beq_eq_false_iff_ne]; omega
              have q4 : (0 : Int) < (bl.length : Int) := by omega
              have q5 : (k : Int) < (i : Int) := by omega
              have q6 : (0 : Int) ≤ (k : Int) := by omega
              clear hc6 he2
              go_wp2_with fail
              go_quiet (fail)
              go_wp2
              go_ret
              exact ⟨rfl, (below_drewN (HB.out.trans (HBq.out.mono HB.out.size)) _)⟩
          · replace hk00 : k ≤ 0 := Nat.le_of_eq hk00
            have s1 : k = i := by omega
            subst s1
            go_wp2
            go_ret
            exact ⟨rfl, (HB.out.trans (HBq.out.mono HB.out.size))⟩
        · have hmp := (HM.out (k - 1) (by omega)).below (HM.out (k - 1) (by omega)).lt HBZ.out
          cases hcu1 : (M (k - 1)).cu with
          | true =>
            by_cases hki : k < i
            · have hmk := (HM.out k (by omega)).below (HM.out k (by omega)).lt HBZ.out
              cases hcu2 : (M k).cu with
              | true =>
                have p3 := hmp.c3
                rw [hcu1] at p3
                have q3 := hmk.c3
                rw [hcu2] at q3
                go_wp2
                go_ret
                exact ⟨rfl, (HB.out.trans (HBq.out.mono HB.out.size))⟩
              | false =>
                have p3 := hmp.c3
                rw [hcu1] at p3
                have q3 := hmk.c3
                rw [hcu2] at q3
                have q0 := hmk.c0
                obtain ⟨hp2, he2⟩ := vot_first (fromK M k) (i - k) (by omega) hcu2
                rw [← HBL.out] at hp2 he2
                obtain ⟨g6, rfl, _, hc6⟩ := HR.out.below HBq.out hp2
                have q1 : wr.cell? ⟨g6, 0, none⟩ = some (.int .i64 (M k).id) := by rw [hc6 0 hp2, he2]; rfl
                have q2 : ((bl.length : Int) == 0) = false := by rw [beq_eq_false_iff_ne]; omega
                have q4 : (0 : Int) < (bl.length : Int) := by omega
                have q5 : (k : Int) < (i : Int) := by omega
                have q6 : (0 : Int) ≤ (k : Int) := by omega
                clear hc6 he2
                go_wp2_with fail
                go_quiet (fail)
                go_wp2
                go_ret
                exact ⟨rfl, (below_drewN (HB.out.trans (HBq.out.mono HB.out.size)) _)⟩
            · have p3 := hmp.c3
              rw [hcu1] at p3
              have s1 : k = i := by omega
              subst s1
              go_wp2
              go_ret
              exact ⟨rfl, (HB.out.trans (HBq.out.mono HB.out.size))⟩
          | false =>
            by_cases hki : k < i
            · have hmk := (HM.out k (by omega)).below (HM.out k (by omega)).lt HBZ.out
              cases hcu2 : (M k).cu with
              | true =>
                have p3 := hmp.c3
                rw [hcu1] at p3
                have p0 := hmp.c0
                obtain ⟨hp1, he1⟩ := vot_last M k (by omega) hcu1
                obtain ⟨g5, rfl, _, hc5⟩ := HF.out.below HBq.out hp1
                have p1 : wr.cell? ⟨g5, (votTo M k).length - 1, none⟩ = some (.int .i64 (M (k - 1)).id) := by rw [hc5 _ (by omega), he1]
                have p2 : (((votTo M k).length : Int) == 0) = false := by rw [beq_eq_false_iff_ne]; omega
                have p4 : (0 : Int) < ((votTo M k).length : Int) := by omega
                have p5 : (0 : Int) < (k : Int) := by omega
                have p6 : (k : Int) - 1 < (i : Int) := by omega
                have p7 : (0 : Int) ≤ (k : Int) - 1 := by omega
                have p8 : (0 : Int) ≤ ((votTo M k).length : Int) - 1 := by omega
                clear hc5 he1
                have q3 := hmk.c3
                rw [hcu2] at q3
                go_wp2_with fail
                go_quiet (fail)
                go_wp2
                go_ret
                exact ⟨rfl, (below_drewN (HB.out.trans (HBq.out.mono HB.out.size)) _)⟩
              | false =>
                have p3 := hmp.c3
                rw [hcu1] at p3
                have p0 := hmp.c0
                obtain ⟨hp1, he1⟩ := vot_last M k (by omega) hcu1
                obtain ⟨g5, rfl, _, hc5⟩ := HF.out.below HBq.out hp1
                have p1 : wr.cell? ⟨g5, (votTo M k).length - 1, none⟩ = some (.int .i64 (M (k - 1)).id) := by rw [hc5 _ (by omega), he1]
                have p2 : (((votTo M k).length : Int) == 0) = false := by rw [beq_eq_false_iff_ne]; omega
                have p4 : (0 : Int) < ((votTo M k).length : Int) := by omega
                have p5 : (0 : Int) < (k : Int) := by omega
                have p6 : (k : Int) - 1 < (i : Int) := by omega
                have p7 : (0 : Int) ≤ (k : Int) - 1 := by omega
                have p8 : (0 : Int) ≤ ((votTo M k).length : Int) - 1 := by omega
                clear hc5 he1
                have q3 := hmk.c3
                rw [hcu2] at q3
                have q0 := hmk.c0
                obtain ⟨hp2, he2⟩ := vot_first (fromK M k) (i - k) (by omega) hcu2
                rw [← HBL.out] at hp2 he2
                obtain ⟨g6, rfl, _, hc6⟩ := HR.out.below HBq.out hp2
                have q1 : wr.cell? ⟨g6, 0, none⟩ = some (.int .i64 (M k).id) := by rw [hc6 0 hp2, he2]; rfl
                have q2 : ((bl.length : Int) == 0) = false := by rw [beq_eq_false_iff_ne]; omega
                have q4 : (0 : Int) < (bl.length : Int) := by omega
                have q5 : (k : Int) < (i : Int) := by omega
                have q6 : (0 : Int) ≤ (k : Int) := by omega
                clear hc6 he2
                go_wp2_with fail
                go_quiet (fail)
                go_wp2_with fail
                go_quiet (fail)
                go_wp2
                go_ret
                exact ⟨rfl, (below_drewN (below_drewN (HB.out.trans (HBq.out.mono HB.out.size)) _) _)⟩
            · have p3 := hmp.c3
              rw [hcu1] at p3
              have p0 := hmp.c0
              obtain ⟨hp1, he1⟩ := vot_last M k (by omega) hcu1
              obtain ⟨g5, rfl, _, hc5⟩ := HF.out.below HBq.out hp1
              have p1 : wr.cell? ⟨g5, (votTo M k).length - 1, none⟩ = some (.int .i64 (M (k - 1)).id) := by rw [hc5 _ (by omega), he1]
              have p2 : (((votTo M k).length : Int) == 0) = false := by rw [beq_eq_false_iff_ne]; omega
              have p4 : (0 : Int) < ((votTo M k).length : Int) := by omega
              have p5 : (0 : Int) < (k : Int) := by omega
              have p6 : (k : Int) - 1 < (i : Int) := by omega
              have p7 : (0 : Int) ≤ (k : Int) - 1 := by omega
              have p8 : (0 : Int) ≤ ((votTo M k).length : Int) - 1 := by omega
              clear hc5 he1
              have s1 : k = i := by omega
              subst s1
              go_wp2_with fail
              go_quiet (fail)
              go_wp2
              go_ret
              exact ⟨rfl, (below_drewN (HB.out.trans (HBq.out.mono HB.out.size)) _)⟩
end Go.Proofs.Qxb6628297a
