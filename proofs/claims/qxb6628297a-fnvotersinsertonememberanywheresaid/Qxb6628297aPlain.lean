/-
  THE PLAIN LAWS of seat b6628297a: no Go in sight. Members by their index; the voters' ids of the first so many.
-/
namespace Go.Proofs.Qxb6628297a

/-- A member. -/
structure Mem where
  id : Int
  ad : ByteArray
  cl : ByteArray
  cu : Bool
  si : Int
  ic : Int

/-- What member m lays behind the voters' ids. -/
def vote (m : Mem) : List Int := if m.cu = true then [] else [m.id]
/-- The voters' ids of the first n members. -/
def votTo (M : Nat → Mem) : Nat → List Int
  | 0 => []
  | i + 1 => votTo M i ++ vote (M i)
/-- The members from place k on. -/
def fromK (M : Nat → Mem) (k : Nat) : Nat → Mem := fun i => M (k + i)
/-- m put in at place k. -/
def putIn (M : Nat → Mem) (k : Nat) (m : Mem) : Nat → Mem := fun i => if i < k then M i else if i = k then m else M (i - 1)

theorem vote_le (m : Mem) : (vote m).length ≤ 1 := by
  unfold vote; split <;> simp
theorem vot_le (M : Nat → Mem) : ∀ n, (votTo M n).length ≤ n
  | 0 => Nat.le_refl _
  | i + 1 => by
    have := vot_le M i
    have := vote_le (M i)
    simp only [votTo, List.length_append]; omega
theorem vot_split (M : Nat → Mem) (k : Nat) : ∀ d, votTo M (k + d) = votTo M k ++ votTo (fromK M k) d
  | 0 => by simp [votTo]
  | d + 1 => by
    show votTo M (k + d) ++ vote (M (k + d)) = _
    rw [vot_split M k d]
    simp [votTo, fromK]
theorem vot_cut (M : Nat → Mem) (k n : Nat) (h : k ≤ n) : votTo M n = votTo M k ++ votTo (fromK M k) (n - k) := by
  have := vot_split M k (n - k)
  rwa [show k + (n - k) = n from by omega] at this
theorem vot_congr (M M' : Nat → Mem) : ∀ n, (∀ i, i < n → M i = M' i) → votTo M n = votTo M' n
  | 0, _ => rfl
  | i + 1, h => by
    simp only [votTo]
    rw [vot_congr M M' i (fun j hj => h j (by omega)), h i (by omega)]
/-- The voters with m put in at place k. -/
theorem vot_put (M : Nat → Mem) (k n : Nat) (m : Mem) (h : k ≤ n) : votTo (putIn M k m) (n + 1) = votTo M k ++ (vote m ++ votTo (fromK M k) (n - k)) := by
  rw [vot_cut (putIn M k m) k (n + 1) (by omega)]
  have e1 : votTo (putIn M k m) k = votTo M k := vot_congr _ _ k (fun i hi => by simp [putIn, hi])
  have e2 : votTo (fromK (putIn M k m) k) (n + 1 - k) = vote m ++ votTo (fromK M k) (n - k) := by
    have e3 := vot_cut (fromK (putIn M k m) k) 1 (n + 1 - k) (by omega)
    rw [e3]
    have e4 : votTo (fromK (putIn M k m) k) 1 = vote m := by simp [votTo, fromK, putIn]
    have e5 : votTo (fromK (fromK (putIn M k m) k) 1) (n + 1 - k - 1) = votTo (fromK M k) (n - k) := by
      rw [show n + 1 - k - 1 = n - k from by omega]
      refine vot_congr _ _ _ (fun i _ => ?_)
      simp only [fromK, putIn]
      rw [if_neg (by omega), if_neg (by omega)]
      congr 1; omega
    rw [e4, e5]
  rw [e1, e2]
/-- A voting member just before the cut closes the front's voters. -/
theorem vot_last (M : Nat → Mem) (k : Nat) (h0 : 0 < k) (h : (M (k - 1)).cu = false) : 0 < (votTo M k).length ∧ (votTo M k).getD ((votTo M k).length - 1) 0 = (M (k - 1)).id := by
  obtain ⟨j, rfl⟩ : ∃ j, k = j + 1 := ⟨k - 1, by omega⟩
  simp only [Nat.add_sub_cancel] at h ⊢
  have e : votTo M (j + 1) = votTo M j ++ [(M j).id] := by simp [votTo, vote, h]
  rw [e]
  simp
/-- A voting member just after the cut opens the back's. -/
theorem vot_first (M : Nat → Mem) (d : Nat) (h0 : 0 < d) (h : (M 0).cu = false) : 0 < (votTo M d).length ∧ (votTo M d).getD 0 0 = (M 0).id := by
  have e := vot_cut M 1 d (by omega)
  have e1 : votTo M 1 = [(M 0).id] := by simp [votTo, vote, h]
  rw [e, e1]
  simp
theorem vot_hit (M : Nat → Mem) (i : Nat) (h : (M i).cu = false) : votTo M (i + 1) = votTo M i ++ [(M i).id] := by simp [votTo, vote, h]
theorem vot_miss (M : Nat → Mem) (i : Nat) (h : (M i).cu = true) : votTo M (i + 1) = votTo M i := by simp [votTo, vote, h]
theorem getD_app_left (a b : List Int) (i : Nat) (h : i < a.length) : (a ++ b).getD i 0 = a.getD i 0 := by
  simp [List.getElem?_append_left h]
theorem getD_app_right (a b : List Int) (j : Nat) : (a ++ b).getD (a.length + j) 0 = b.getD j 0 := by
  rw [List.getD_eq_getElem?_getD, List.getElem?_append_right (by omega), List.getD_eq_getElem?_getD, Nat.add_sub_cancel_left]
end Go.Proofs.Qxb6628297a
