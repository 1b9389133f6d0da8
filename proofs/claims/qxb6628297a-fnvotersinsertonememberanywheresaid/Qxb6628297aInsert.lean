/-
  seat b6628297a: the fourth law, FnVotersInsertOneMemberAnywhere: its walk.
-/
import Derived.Test.Qxb6628297aInsertBase
import Derived.Laws.AppendOwnNone
import Derived.Deep.DeepCutAuto
namespace Go.Proofs.Qxb6628297a
open Go.RowKit

theorem make35grow (n : Nat) (hn : n ≤ 1048576) (w : World) : (Instr.makeSlice 29 (.int .i64 0) (.int .i64 ((n : Int) + 1))).run Try.prog w = .ok (.slice (some ⟨w.heap.size, 0, none⟩) 0 (n + 1)) (w.alloc (.cells (madeCells #[.int .i64 0, .string ByteArray.empty, .string ByteArray.empty, .bool false, .int .u64 0, .int .u64 0] ((n + 1) * 6)) 35)) := by
  obtain ⟨i, hi, hz0, hz1, hz2⟩ := info_parts Try.info35
  have := run_make (P := Try.prog) w 29 35 i _ Try.underlying29 hi hz0 .i64 .i64 0 ((n : Int) + 1) (by omega) (by omega) (by rw [hz2]; omega) (by omega)
  rw [hz1] at this
  simpa [Value.cells, show ((n : Int) + 1).toNat = n + 1 from by omega] using this

theorem news6 (w : World) (m : Mem) : ∀ j u, (memC m)[j]? = some u → (w.alloc (.cells #[.int .i64 m.id, .string m.ad, .string m.cl, .bool m.cu, .int .u64 m.si, .int .u64 m.ic] 35)).cell? ((⟨w.heap.size, 0, none⟩ : Addr).add j) = some u :=
  World.news_of_block (cs := #[.int .i64 m.id, .string m.ad, .string m.cl, .bool m.cu, .int .u64 m.si, .int .u64 m.ic]) (t := 35) (fr := (0, 0)) (heap_alloc_new w _)
theorem owns_below {w w' : World} {base : Nat} {e : TypeId} {size : Nat} {v : Value} {n : Nat} {xs : List Value} (h : w.ownsRow base e size v n xs) (hb : Below w.heap.size w w') : w'.ownsRow base e size v n xs := by
  rcases h with ⟨h1, h2 | ⟨g, cap, cur, e, hB, hg, rest⟩⟩
  · exact ⟨h1, .inl h2⟩
  · exact ⟨h1, .inr ⟨g, cap, cur, e, hB, (hb.block g (Array.getElem?_eq_some_iff.1 hg).1).trans hg, rest⟩⟩
theorem MsForm.below {w w' : World} {Bo : Nat} {mo : Option Addr} {len : Nat} {M : Nat → Mem} (h : MsForm w Bo mo len M) {B : Nat} (hB : w.heap.size ≤ B) (hb : Below B w w') : MsForm w' Bo mo len M := by
  rcases h with h | ⟨e, h⟩
  · exact .inl h
  · exact .inr ⟨e, h.below (Nat.lt_of_lt_of_le h.lt hB) hb⟩
theorem MsForm.mems {w : World} {Bo : Nat} {mo : Option Addr} {len : Nat} {M : Nat → Mem} (h : MsForm w Bo mo len M) : IsMems w mo len M := by
  rcases h with ⟨_, h⟩ | ⟨e, h⟩
  · exact .inl h
  · exact .inr ⟨Bo, 0, e, fun i hi => by rw [Nat.zero_add]; exact h.mem (Nat.le_refl _) hi⟩

set_option maxRecDepth 100000 in
set_option maxHeartbeats 6400000 in
theorem insert_in (M : Nat → Mem) (ao : Option Addr) (len cap : Nat) (ra : Option Addr) (rn rc : Nat) (at' : Int) (m : Mem) (k : Nat) (hk : k ≤ len) (hl : len ≤ 1048576) (hr : rn ≤ 9223372036854775807) (w : World) (hM : IsMems w ao len M) :
    Calls Try.prog 4 #[.slice ao len cap, .slice ra rn rc, .int .u64 at', .agg #[.int .i64 m.id, .string m.ad, .string m.cl, .bool m.cu, .int .u64 m.si, .int .u64 m.ic], .int .i64 k] w fun e w' => e = .returned (.bool true) ∧ Below w.heap.size w w' := by
  have HM : Hid (IsMems w ao len M) := hM
  clear hM
  obtain ⟨i0, hi0, hz0, hz1, hz2⟩ := info_parts Try.info35
  have hmk := make35grow len hl
  go_enter Try.func4, Try.ntmps4
  go_wp2_with fail
  refine (bytes9_any M ao len cap ra rn rc at' k m hl hr _ (HM.out.below (Nat.le_refl _) ((Below.refl _ _).alloc (Nat.le_refl _) _))).mono ?_
  rintro e w1 ⟨⟨r, rfl⟩, hw1⟩
  have HB1 : Hid (Below w.heap.size w w1) := ((Below.refl _ _).alloc (Nat.le_refl _) _).trans (hw1.mono (by simp))
  have HC1 : Hid (IsMem w1 w.heap.size 0 m) := by
    refine ⟨?_, ?_, ?_, ?_, ?_, ?_⟩
    all_goals exact (hw1.cell (by simp)).trans (by simp)
  clear hw1
  cases r with
  | false =>
    go_wp2
    go_ret
    exact ⟨rfl, HB1.out⟩
  | true =>
  obtain ⟨c0, c1, c2, c3, c4, c5⟩ := HC1.out
  go_wp2_with fail
  clear c0 c1 c2 c3 c4 c5
  refine (fits_any M ao len cap ra rn rc m w1 (HM.out.below (Nat.le_refl _) HB1.out)).mono ?_
  rintro e w2 ⟨⟨r, rfl⟩, hb2⟩
  have HB2 : Hid (Below w.heap.size w w2) := HB1.out.trans (hb2.mono HB1.out.size)
  have HC2 : Hid (IsMem w2 w.heap.size 0 m) := HC1.out.below HC1.out.lt hb2
  clear hb2 HC1
  cases r with
  | false =>
    go_wp2
    go_ret
    exact ⟨rfl, HB2.out⟩
  | true =>
  go_wp2_with fail
  refine (toMembers_form M ao len cap hl w2 (HM.out.below (Nat.le_refl _) HB2.out)).mono ?_
  rintro e w3 ⟨⟨mo, rfl, hF3⟩, hb3⟩
  have HF3 : Hid (MsForm w3 w2.heap.size mo len M) := hF3
  have HB3 : Hid (Below w.heap.size w w3) := HB2.out.trans (hb3.mono HB2.out.size)
  have HC3 : Hid (IsMem w3 w.heap.size 0 m) := HC2.out.below HC2.out.lt hb3
  clear hF3 hb3 HC2
  go_upto_region 9 with fail
  have HO8 : Hid ((w3.alloc (.cells (madeCells #[.int .i64 0, .string ByteArray.empty, .string ByteArray.empty, .bool false, .int .u64 0, .int .u64 0] ((len + 1) * 6)) 35)).ownsRow w3.heap.size 35 6 (.slice (some ⟨w3.heap.size, 0, none⟩) 0 (len + 1)) 0 []) :=
    World.ownsRow_made w3 _ (len + 1) (Nat.le_refl _) (by unfold maxLen; omega) (size_madeCells _ _)
  have HP8 : Hid (Below w3.heap.size w3 (w3.alloc (.cells (madeCells #[.int .i64 0, .string ByteArray.empty, .string ByteArray.empty, .bool false, .int .u64 0, .int .u64 0] ((len + 1) * 6)) 35))) := (Below.refl _ _).alloc (Nat.le_refl _) _
  generalize hw8 : w3.alloc (.cells (madeCells #[.int .i64 0, .string ByteArray.empty, .string ByteArray.empty, .bool false, .int .u64 0, .int .u64 0] ((len + 1) * 6)) 35) = w8 at *
  clear hw8 hmk
  go_cut [12] (fun s12 wx => wx.ownsRow w3.heap.size 35 6 s12 k (memL M k) ∧ Below w3.heap.size w3 wx)
  case first =>
    rcases HF3.out with ⟨rfl, rfl⟩ | ⟨rfl, hR⟩
    · obtain rfl : k = 0 := by omega
      go_wp2_with (at_builtin; refine wpList_append_own_none rfl (.tmp 45) (.tmp 48) 29 rfl w3.heap.size 35 i0 6 Try.underlying29 hi0 _ 0 [] rfl HO8.out rfl ?_)
      go_meet
      exact ⟨HO8.out, HP8.out⟩
    · have HR : Hid (MRow w8 w2.heap.size len M len) := hR.below hR.lt HP8.out
      clear hR
      go_wp2_with (at_builtin; refine wpList_append_own _ rfl (.tmp 45) (.tmp 48) 29 rfl w3.heap.size 35 i0 _ 6 64 Try.underlying29 hi0 hz0 hz1 hz2 rfl (by decide) _ 0 [] rfl HO8.out ⟨w2.heap.size, 0, none⟩ k len (memL M k) rfl (memL_len M k) (HR.out.news0 k hk) (memL_one M k) (by unfold maxLen; omega) (by omega) HP8.out.size ?_; intro v' w9 hown' hgrow hnil)
      have R1 : Hid (w9.ownsRow w3.heap.size 35 6 v' k (memL M k)) := by rw [Nat.zero_add, List.nil_append] at hown'; exact hown'
      have R2 : Hid (Below w3.heap.size w3 w9) := HP8.out.grown hgrow HP8.out.size (fun k hk => (World.ownsRow.lt HO8.out k hk).1)
      clear hown' hgrow hnil
      go_wp2_with fail
      go_meet
      exact ⟨R1.out, R2.out⟩
  obtain ⟨hO9, hP9⟩ := hcut
  obtain ⟨w9, rfl⟩ : ∃ w9 : World, w9 = wc := ⟨_, rfl⟩
  have HO9 : Hid (w9.ownsRow w3.heap.size 35 6 u12 k (memL M k)) := hO9
  have HP9 : Hid (Below w3.heap.size w3 w9) := hP9
  have HC9 : Hid (IsMem w9 w.heap.size 0 m) := HC3.out.below HC3.out.lt hP9
  clear hO9 hP9 HO8 HP8
  obtain ⟨c0, c1, c2, c3, c4, c5⟩ := HC9.out
  go_upto_region 10 with fail
  go_cut [12] (fun s12 wx => wx.ownsRow w3.heap.size 35 6 s12 (k + 1) (memL M k ++ memC m) ∧ Below w3.heap.size w3 wx)
  case first =>
    go_wp2_with fail
    clear c0 c1 c2 c3 c4 c5
    refine (toMember_any m _).mono ?_
    rintro e wt ⟨rfl, hbt⟩
    have HOt : Hid (wt.ownsRow w3.heap.size 35 6 u12 k (memL M k)) := owns_below HO9.out hbt
    have HPt : Hid (Below w3.heap.size w3 wt) := HP9.out.trans (hbt.mono HP9.out.size)
    clear hbt
    go_wp2_with (at_builtin; refine wpList_append_own _ rfl (.tmp 50) (.tmp 53) 29 rfl w3.heap.size 35 i0 _ 6 64 Try.underlying29 hi0 hz0 hz1 hz2 rfl (by decide) _ k (memL M k) rfl (World.ownsRow.alloc HOt.out _) ⟨wt.heap.size, 0, none⟩ 1 1 (memC m) rfl rfl (news6 wt m) (memC_one m) (by unfold maxLen; omega) (by omega) (by have := HPt.out.size; simp; omega) ?_; intro v' w10 hown' hgrow hnil)
    have R1 : Hid (w10.ownsRow w3.heap.size 35 6 v' (k + 1) (memL M k ++ memC m)) := hown'
    have R2 : Hid (Below w3.heap.size w3 w10) := (HPt.out.alloc HPt.out.size _).grown hgrow (by have := HPt.out.size; simp; omega) (fun k hk => (World.ownsRow.lt HOt.out k hk).1)
    clear hown' hgrow hnil
    go_wp2_with fail
    go_meet
    exact ⟨R1.out, R2.out⟩
  obtain ⟨hO10, hP10⟩ := hcut
  obtain ⟨w10, rfl⟩ : ∃ w10 : World, w10 = wc := ⟨_, rfl⟩
  clear c0 c1 c2 c3 c4 c5 HO9 HP9 HC9
  have HO10 : Hid (w10.ownsRow w3.heap.size 35 6 u12 (k + 1) (memL M k ++ memC m)) := hO10
  have HP10 : Hid (Below w3.heap.size w3 w10) := hP10
  clear hO10 hP10
  go_upto_region 11 with fail
  go_cut [12] (fun s12 wx => wx.ownsRow w3.heap.size 35 6 s12 (len + 1) (memL (putIn M k m) (len + 1)) ∧ Below w3.heap.size w3 wx)
  case first =>
    have HPUT : Hid (memL (putIn M k m) (len + 1) = memL M k ++ memC m ++ memL (fromK M k) (len - k)) := by
      have := memL_put M k (len - k) m
      rwa [show k + (len - k) = len from by omega] at this
    rcases HF3.out with ⟨rfl, rfl⟩ | ⟨rfl, hR⟩
    · obtain rfl : k = 0 := by omega
      go_wp2_with (at_builtin; refine wpList_append_own_none rfl (.tmp 55) (.tmp 58) 29 rfl w3.heap.size 35 i0 6 Try.underlying29 hi0 _ _ _ rfl HO10.out rfl ?_)
      go_meet
      refine ⟨?_, HP10.out⟩
      rw [HPUT.out]
      simpa [memL] using HO10.out
    · have HR : Hid (MRow w10 w2.heap.size len M len) := hR.below hR.lt HP10.out
      clear hR
      by_cases hkl : k = len
      · subst hkl
        go_wp2_with (at_builtin; refine wpList_append_own _ rfl (.tmp 55) (.tmp 58) 29 rfl w3.heap.size 35 i0 _ 6 64 Try.underlying29 hi0 hz0 hz1 hz2 rfl (by decide) _ _ _ rfl HO10.out ⟨w2.heap.size, 0, none⟩ 0 0 [] rfl rfl (fun j u hu => by cases hu) (fun u hu => by cases hu) (by unfold maxLen; omega) (by omega) HP10.out.size ?_; intro v' w11 hown' hgrow hnil)
        have R1 : Hid (w11.ownsRow w3.heap.size 35 6 v' (k + 1) (memL (putIn M k m) (k + 1))) := by
          rw [HPUT.out, Nat.sub_self]
          exact hown'
        have R2 : Hid (Below w3.heap.size w3 w11) := HP10.out.grown hgrow HP10.out.size (fun k hk => (World.ownsRow.lt HO10.out k hk).1)
        clear hown' hgrow hnil
        go_wp2_with fail
        go_meet
        exact ⟨R1.out, R2.out⟩
      · have hkl' : ¬ len = k := fun e => hkl e.symm
        go_wp2_with (at_builtin; refine wpList_append_own _ rfl (.tmp 55) (.tmp 58) 29 rfl w3.heap.size 35 i0 _ 6 64 Try.underlying29 hi0 hz0 hz1 hz2 rfl (by decide) _ _ _ rfl HO10.out ⟨w2.heap.size, k * 6, none⟩ (len - k) (len - k) (memL (fromK M k) (len - k)) rfl (memL_len _ _) (HR.out.news k (len - k) (by omega)) (memL_one _ _) (by unfold maxLen; omega) (by omega) HP10.out.size ?_; intro v' w11 hown' hgrow hnil)
        have R1 : Hid (w11.ownsRow w3.heap.size 35 6 v' (len + 1) (memL (putIn M k m) (len + 1))) := by
          rw [HPUT.out]
          rw [show k + 1 + (len - k) = len + 1 from by omega] at hown'
          exact hown'
        have R2 : Hid (Below w3.heap.size w3 w11) := HP10.out.grown hgrow HP10.out.size (fun k hk => (World.ownsRow.lt HO10.out k hk).1)
        clear hown' hgrow hnil
        go_wp2_with fail
        go_meet
        exact ⟨R1.out, R2.out⟩
  obtain ⟨hO11, hP11⟩ := hcut
  obtain ⟨w11, rfl⟩ : ∃ w11 : World, w11 = wc := ⟨_, rfl⟩
  obtain ⟨g, gcap, rfl, hG⟩ := grown_mems hO11 (Nat.succ_pos _)
  have HG11 : Hid (∀ i, i < len + 1 → IsMem w11 g (0 + i * 6) (putIn M k m i)) := hG
  have HF11 : Hid (IsMems w11 mo len M) := (HF3.out.below (Nat.le_refl _) hP11).mems
  have HB11 : Hid (Below w.heap.size w w11) := HB3.out.trans (hP11.mono HB3.out.size)
  have HC11 : Hid (IsMem w11 w.heap.size 0 m) := HC3.out.below HC3.out.lt hP11
  clear hO11 hP11 hG HO10 HP10 HC3 HB3 HF3
  go_wp2_with fail
  refine (voters_any M mo len len ra rn rc at' (by omega) w11 HF11.out).mono ?_
  rintro e w4 ⟨⟨v4, he, hO4⟩, hb4⟩
  obtain ⟨a4, c4, hv4, hr4⟩ := hO4.reads
  rw [hv4] at he
  subst he
  have HR4 : Hid (Reads w4 a4 (votTo M len)) := hr4
  have HG4 : Hid (∀ i, i < len + 1 → IsMem w4 g (0 + i * 6) (putIn M k m i)) := fun i hi => (HG11.out i hi).below (HG11.out i hi).lt hb4
  have HB4 : Hid (Below w.heap.size w w4) := HB11.out.trans (hb4.mono HB11.out.size)
  have HC4 : Hid (IsMem w4 w.heap.size 0 m) := HC11.out.below HC11.out.lt hb4
  clear hO4 hb4 hv4 hr4 HG11 HF11 HB11 HC11
  go_wp2_with fail
  refine (voters_any (putIn M k m) (some ⟨g, 0, none⟩) (len + 1) gcap ra rn rc at' (by omega) w4 (.inr ⟨g, 0, rfl, HG4.out⟩)).mono ?_
  rintro e wc ⟨⟨v5, he, hO5⟩, hb5⟩
  obtain ⟨a6, c6, hv5, hr5⟩ := hO5.reads
  rw [hv5] at he
  subst he
  have HR : Hid (Reads wc a6 (votTo (putIn M k m) (len + 1))) := hr5
  have HW : Hid (Reads wc a4 (votTo M len)) := HR4.out.below hb5
  have HB : Hid (Below w.heap.size w wc) := HB4.out.trans (hb5.mono HB4.out.size)
  have HC : Hid (IsMem wc w.heap.size 0 m) := HC4.out.below HC4.out.lt hb5
  clear hO5 hb5 hv5 hr5 HR4 HG4 HB4 HC4
  have hpl := vot_le (putIn M k m) (len + 1)
  have hpm := vot_le M len
  have HLA : Hid (votTo (putIn M k m) (len + 1) = votTo M k ++ (vote m ++ votTo (fromK M k) (len - k))) := vot_put M k len m hk
  have HLB : Hid (votTo M len = votTo M k ++ votTo (fromK M k) (len - k)) := vot_cut M k len hk
  generalize hla : votTo (putIn M k m) (len + 1) = la at *
  generalize hlb : votTo M len = lb at *
  generalize hbl : votTo (fromK M k) (len - k) = bl at *
  clear hla hlb hbl
  have hpk := vot_le M k
  have n3 : (votTo M k).length ≤ lb.length := by rw [HLB.out, List.length_append]; omega
  go_wp2_with fail
  go_loop [15, 16] (fun s15 s16 => ∃ i : Nat, i ≤ k ∧ s16 = .int .i64 i ∧ s15 = .int .i64 ((votTo M i).length : Nat)) (fun _ s16 => k - (intOf s16).toNat)
  case atStart => exact ⟨0, Nat.zero_le _, rfl, rfl⟩
  case round =>
    obtain ⟨i, hi, rfl, rfl⟩ := hrel
    have hvi := vot_le M i
    by_cases hlt : i < k
    · rcases HM.out with h0 | ⟨b, off, rfl, hm0⟩
      · omega
      have hm := hm0 i (by omega)
      clear hm0
      obtain ⟨m0, m1, m2, m3, m4, m5⟩ := hm.below hm.lt HB.out
      clear hm
      cases hcu : (M i).cu with
      | true =>
        have HE : Hid (votTo M (i + 1) = votTo M i) := vot_miss M i hcu
        rw [hcu] at m3
        go_wp2
        go_round
        case rel => exact ⟨i + 1, by omega, by go_num, by rw [HE.out]⟩
        case measure => simp [intOf]; omega
      | false =>
        have HE : Hid ((votTo M (i + 1)).length = (votTo M i).length + 1) := by rw [vot_hit M i hcu, List.length_append]; rfl
        rw [hcu] at m3
        go_wp2
        go_round
        case rel => exact ⟨i + 1, by omega, by go_num, by rw [HE.out]; go_num⟩
        case measure => simp [intOf]; omega
    obtain rfl : k = i := by omega
    cases hcu : m.cu with
    | true =>
      have hc3 : wc.cell? ⟨w.heap.size, 3, none⟩ = some (.bool true) := by rw [← hcu]; exact HC.out.c3
      obtain rfl : la = lb := by rw [HLA.out, HLB.out]; simp [vote, hcu]
      go_wp2_with fail
      refine (same_any a6 a4 la c6 c4 (by omega) wc HR.out HW.out).mono ?_
      rintro e wz ⟨rfl, hbz⟩
      have HBZ : Hid (Below w.heap.size w wz) := HB.out.trans (hbz.mono HB.out.size)
      clear hbz
      go_wp2
      go_ret
      exact ⟨rfl, HBZ.out⟩
    | false =>
    have hc3 : wc.cell? ⟨w.heap.size, 3, none⟩ = some (.bool false) := by rw [← hcu]; exact HC.out.c3
    have hlc : la = votTo M k ++ (m.id :: bl) := by rw [HLA.out]; simp [vote, hcu]
    have HLC : Hid (la = votTo M k ++ (m.id :: bl)) := hlc
    clear hlc
    have n6 : la.length ≤ lb.length + 1 := by rw [HLC.out, HLB.out, List.length_append, List.length_append, List.length_cons]; omega
    have n7 : lb.length + 1 ≤ la.length := by rw [HLC.out, HLB.out, List.length_append, List.length_append, List.length_cons]; omega
    go_wp2_with fail
    go_loopw [17] (fun s17 wr => ∃ j : Nat, j ≤ (votTo M k).length ∧ s17 = .int .i64 j ∧ Below wc.heap.size wc wr) (fun s17 _ => (votTo M k).length - (intOf s17).toNat)
    case atStart => exact ⟨0, Nat.zero_le _, rfl, Below.refl _ _⟩
    case round =>
      obtain ⟨j, hj, rfl, hb⟩ := hrel
      have HBr : Hid (Below wc.heap.size wc wr) := hb
      clear hb hc3
      by_cases hjl : j < (votTo M k).length
      · obtain ⟨g4, rfl, _, hc4⟩ := HW.out.below HBr.out (by omega)
        obtain ⟨g6, rfl, _, hc6⟩ := HR.out.below HBr.out (by omega)
        obtain ⟨z, hz⟩ : ∃ z, z = (votTo M k).getD j 0 := ⟨_, rfl⟩
        have d1 : wr.cell? ⟨g4, j, none⟩ = some (.int .i64 z) := by
          rw [hc4 j (by omega), HLB.out, getD_app_left _ _ j hjl, ← hz]
        have d2 : wr.cell? ⟨g6, j, none⟩ = some (.int .i64 z) := by
          rw [hc6 j (by omega), HLC.out, getD_app_left _ _ j hjl, ← hz]
        clear hz hc4 hc6
        have hk0 : (0 : Int) ≤ (j : Int) := by omega
        have hk1 : (j : Int) < (lb.length : Int) := by omega
        have hk2 : (j : Int) < (la.length : Int) := by omega
        go_wp2_with fail
        go_quiet (fail)
        go_wp2
        go_roundw
        case rel => exact ⟨j + 1, by omega, by go_num, below_drewN HBr.out _⟩
        case measure => simp [intOf]; omega
      obtain rfl : j = (votTo M k).length := by omega
      obtain ⟨wa, rfl⟩ : ∃ wa : World, wa = wr := ⟨_, rfl⟩
      obtain ⟨g6, rfl, _, hc6⟩ := HR.out.below HBr.out (by omega)
      have d1 : wa.cell? ⟨g6, (votTo M k).length, none⟩ = some (.int .i64 m.id) := by
        rw [hc6 _ (by omega), HLC.out]
        have := getD_app_right (votTo M k) (m.id :: bl) 0
        rw [Nat.add_zero] at this
        rw [this]; rfl
      have d2 : wa.cell? ⟨w.heap.size, 0, none⟩ = some (.int .i64 m.id) := (HC.out.below HC.out.lt HBr.out).c0
      clear hc6
      have hk0 : (0 : Int) ≤ ((votTo M k).length : Int) := by omega
      have hk1 : ((votTo M k).length : Int) < (la.length : Int) := by omega
      go_wp2_with fail
      go_quiet (fail)
      go_wp2_with fail
      go_loopw [18] (fun s18 wr => ∃ j : Nat, (votTo M k).length ≤ j ∧ j ≤ lb.length ∧ s18 = .int .i64 j ∧ Below wc.heap.size wc wr) (fun s18 _ => lb.length - (intOf s18).toNat)
      case atStart => exact ⟨(votTo M k).length, Nat.le_refl _, n3, rfl, below_drewN HBr.out _⟩
      case round =>
        obtain ⟨j, hj0, hj, rfl, hb⟩ := hrel
        have HBq : Hid (Below wc.heap.size wc wr) := hb
        clear hb d1 d2 hk0 hk1
        by_cases hjl : j < lb.length
        · obtain ⟨g4, rfl, _, hc4⟩ := HW.out.below HBq.out (by omega)
          obtain ⟨g6', he6, _, hc6⟩ := HR.out.below HBq.out (by omega)
          obtain rfl : g6 = g6' := by simpa using he6
          obtain ⟨z, hz⟩ : ∃ z, z = bl.getD (j - (votTo M k).length) 0 := ⟨_, rfl⟩
          have d1 : wr.cell? ⟨g4, j, none⟩ = some (.int .i64 z) := by
            have := getD_app_right (votTo M k) bl (j - (votTo M k).length)
            rw [show (votTo M k).length + (j - (votTo M k).length) = j from by omega, ← HLB.out, ← hz] at this
            rw [hc4 _ (by omega), this]
          have d2 : wr.cell? ⟨g6, j + 1, none⟩ = some (.int .i64 z) := by
            have := getD_app_right (votTo M k) (m.id :: bl) (j - (votTo M k).length + 1)
            rw [show (votTo M k).length + (j - (votTo M k).length + 1) = j + 1 from by omega, ← HLC.out] at this
            rw [hc6 _ (by omega), this, hz]
            rfl
          clear hz hc4 hc6 he6
          have hk0 : (0 : Int) ≤ (j : Int) := by omega
          have hk1 : (j : Int) < (lb.length : Int) := by omega
          have hk2 : (j : Int) + 1 < (la.length : Int) := by omega
          go_wp2_with fail
          go_quiet (fail)
          go_wp2
          go_roundw
          case rel => exact ⟨j + 1, by omega, by omega, by go_num, below_drewN HBq.out _⟩
          case measure => simp [intOf]; omega
        obtain rfl : j = lb.length := by omega
        have HBZ : Hid (Below w.heap.size w wr) := HB.out.trans (HBq.out.mono HB.out.size)
        go_wp2
        go_ret
        exact ⟨rfl, HBZ.out⟩
end Go.Proofs.Qxb6628297a
