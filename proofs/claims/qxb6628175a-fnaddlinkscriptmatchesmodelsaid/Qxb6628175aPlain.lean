/-
  THE PLAIN LAWS of seat b6628175a: no Go in sight. A script of pairs (X i, Y i); which of them are fresh; what each member's list and the set of keys hold behind i of them.
-/
namespace Go.Proofs.Qxb6628175a

/-- Is (x, y) a pair of two members of n? -/
def vpB (n x y : Int) : Bool := decide (0 ≤ x ∧ x < n ∧ 0 ≤ y ∧ y < n ∧ x ≠ y)
/-- Are {a, b} and {x, y} one pair? -/
def spB (a b x y : Int) : Bool := decide ((a = x ∧ b = y) ∨ (a = y ∧ b = x))
/-- Does {x, y} stand among the first i pairs? -/
def seenB (X Y : Nat → Int) : Nat → Int → Int → Bool
  | 0, _, _ => false
  | i + 1, x, y => seenB X Y i x y || spB (X i) (Y i) x y
/-- Is pair i the first of its kind? -/
def fr (X Y : Nat → Int) (i : Nat) : Bool := !seenB X Y i (X i) (Y i)
/-- How many of the first i are fresh. -/
def cnt (X Y : Nat → Int) : Nat → Nat
  | 0 => 0
  | i + 1 => cnt X Y i + (if fr X Y i = true then 1 else 0)
/-- What pair i lays behind member v's list, if it is fresh. -/
def addOf (X Y : Nat → Int) (v : Int) (i : Nat) : List Int :=
  if fr X Y i = true then (if X i = v then [Y i] else if Y i = v then [X i] else []) else []
/-- Member v's list behind i pairs. -/
def adjTo (X Y : Nat → Int) (v : Int) : Nat → List Int
  | 0 => []
  | i + 1 => adjTo X Y v i ++ addOf X Y v i
/-- A pair's key. -/
def keyP (x y : Int) : Int × Int := (min x y, max x y)
/-- The keys behind i pairs. -/
def keysTo (X Y : Nat → Int) : Nat → List (Int × Int)
  | 0 => []
  | i + 1 => keysTo X Y i ++ (if fr X Y i = true then [keyP (X i) (Y i)] else [])

theorem vp_mk {n x y : Int} (h1 : 0 ≤ x) (h2 : x < n) (h3 : 0 ≤ y) (h4 : y < n) (h5 : x ≠ y) : vpB n x y = true := by
  simp [vpB, h1, h2, h3, h4, h5]
theorem vp_out {n x y : Int} (h : vpB n x y = true) : 0 ≤ x ∧ x < n ∧ 0 ≤ y ∧ y < n ∧ x ≠ y := by
  simpa [vpB] using h
theorem sp_iff (a b x y : Int) : spB a b x y = true ↔ keyP a b = keyP x y := by
  simp only [spB, keyP, Prod.mk.injEq, decide_eq_true_eq]
  omega
theorem seen_iff (X Y : Nat → Int) (x y : Int) : ∀ i, seenB X Y i x y = true ↔ keyP x y ∈ keysTo X Y i
  | 0 => by simp [seenB, keysTo]
  | i + 1 => by
    simp only [seenB, keysTo, Bool.or_eq_true, List.mem_append, seen_iff X Y x y i, sp_iff]
    by_cases hf : fr X Y i = true
    · simp [hf, eq_comm]
    · have h2 : seenB X Y i (X i) (Y i) = true := by simpa [fr] using hf
      have h3 := (seen_iff X Y (X i) (Y i) i).1 h2
      simp only [if_neg hf, List.not_mem_nil, or_false]
      constructor
      · rintro (h | h)
        · exact h
        · rw [← h]; exact h3
      · exact .inl
theorem seen_mono (X Y : Nat → Int) (x y : Int) (i : Nat) (h : seenB X Y i x y = true) : ∀ d, seenB X Y (i + d) x y = true
  | 0 => h
  | d + 1 => by
    show (seenB X Y (i + d) x y || spB (X (i + d)) (Y (i + d)) x y) = true
    rw [seen_mono X Y x y i h d]; rfl
theorem seen_hit (X Y : Nat → Int) (x y : Int) (k i : Nat) (h : k < i) (hs : spB (X k) (Y k) x y = true) : seenB X Y i x y = true := by
  have h1 : seenB X Y (k + 1) x y = true := by
    show (seenB X Y k x y || spB (X k) (Y k) x y) = true
    rw [hs]; simp
  have := seen_mono X Y x y (k + 1) h1 (i - (k + 1))
  rwa [show k + 1 + (i - (k + 1)) = i from by omega] at this
theorem seen_miss (X Y : Nat → Int) (x y : Int) (k : Nat) (h : seenB X Y k x y = false) (hs : spB (X k) (Y k) x y = false) : seenB X Y (k + 1) x y = false := by
  show (seenB X Y k x y || spB (X k) (Y k) x y) = false
  rw [h, hs]; rfl
theorem len_keys (X Y : Nat → Int) : ∀ i, (keysTo X Y i).length = cnt X Y i
  | 0 => rfl
  | i + 1 => by
    simp only [keysTo, cnt, List.length_append, len_keys X Y i]
    split <;> rfl
theorem cnt_le (X Y : Nat → Int) : ∀ i, cnt X Y i ≤ i
  | 0 => Nat.le_refl _
  | i + 1 => by
    have := cnt_le X Y i
    simp only [cnt]; split <;> omega
theorem nodup_keys (X Y : Nat → Int) : ∀ i, (keysTo X Y i).Nodup
  | 0 => List.nodup_nil
  | i + 1 => by
    simp only [keysTo]
    by_cases hf : fr X Y i = true
    · rw [if_pos hf, List.nodup_append]
      refine ⟨nodup_keys X Y i, by simp, ?_⟩
      intro a ha b hb
      have hb' : b = keyP (X i) (Y i) := by simpa using hb
      intro e
      have : seenB X Y i (X i) (Y i) = true := (seen_iff X Y _ _ i).2 (by rw [← hb', ← e]; exact ha)
      simp [fr, this] at hf
    · rw [if_neg hf, List.append_nil]; exact nodup_keys X Y i
theorem addOf_le (X Y : Nat → Int) (v : Int) (i : Nat) : (addOf X Y v i).length ≤ 1 := by
  unfold addOf; repeat (first | split | simp)
theorem adj_le (X Y : Nat → Int) (v : Int) : ∀ i, (adjTo X Y v i).length ≤ i
  | 0 => Nat.le_refl _
  | i + 1 => by
    have := adj_le X Y v i
    have := addOf_le X Y v i
    simp only [adjTo, List.length_append]; omega
/-- What lies behind i pairs is the head of what lies behind i + d. -/
theorem adj_prefix (X Y : Nat → Int) (v : Int) (i : Nat) : ∀ d, adjTo X Y v i <+: adjTo X Y v (i + d)
  | 0 => List.prefix_refl _
  | d + 1 => List.IsPrefix.trans (adj_prefix X Y v i d) (List.prefix_append _ _)
theorem adj_at (X Y : Nat → Int) (v : Int) (i m : Nat) (h : i < m) (z : Int) (hz : addOf X Y v i = [z]) :
    (adjTo X Y v i).length < (adjTo X Y v m).length ∧ (adjTo X Y v m).getD (adjTo X Y v i).length 0 = z := by
  have hp := adj_prefix X Y v (i + 1) (m - (i + 1))
  rw [show i + 1 + (m - (i + 1)) = m from by omega] at hp
  obtain ⟨t, ht⟩ := hp
  have e : adjTo X Y v m = adjTo X Y v i ++ z :: t := by rw [← ht]; simp [adjTo, hz]
  rw [e]
  simp
theorem fr_key (X Y : Nat → Int) (i m : Nat) (h : i < m) (hf : fr X Y i = true) : keyP (X i) (Y i) ∈ keysTo X Y m := by
  have hin : ∀ d, keyP (X i) (Y i) ∈ keysTo X Y (i + 1 + d) := by
    intro d
    induction d with
    | zero => simp [keysTo, hf]
    | succ d ih =>
      show _ ∈ keysTo X Y (i + 1 + d + 1)
      simp only [keysTo, List.mem_append]
      exact .inl ih
  have := hin (m - (i + 1))
  rwa [show i + 1 + (m - (i + 1)) = m from by omega] at this
end Go.Proofs.Qxb6628175a
