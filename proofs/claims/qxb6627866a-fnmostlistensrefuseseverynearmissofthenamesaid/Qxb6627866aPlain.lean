/-
  THE PLAIN LAWS of seat b6627866a: no Go in sight. What 'MostListens' answers, as a plain function of the bytes.
-/
import Derived.Lib.Strings
namespace Go.Proofs.Qxb6627866a

/-- The name: "SSH-2.0-dropbear". -/
def nm : List UInt8 := [83, 83, 72, 45, 50, 46, 48, 45, 100, 114, 111, 112, 98, 101, 97, 114]
/-- Do the first sixteen bytes spell the name? -/
def isDb (l : List UInt8) : Bool := l.take 16 == nm
/-- What MostListens answers. -/
def ml (v : ByteArray) : Int := if isDb v.data.toList = true then 21 else 0

theorem isDb_short (l : List UInt8) (h : l.length < 16) : isDb l = false := by
  unfold isDb
  rw [beq_eq_false_iff_ne]
  intro e
  have := congrArg List.length e
  simp [nm] at this
  omega
theorem ml_of_short (v : ByteArray) (h : v.size < 16) : ml v = 0 := by
  unfold ml
  rw [isDb_short _ (by rw [← Lib.size_eq]; exact h)]; rfl
theorem extract16 (v : ByteArray) : (v.extract 0 16).toList = v.data.toList.take 16 := by
  rw [Lib.extract_toList]; rfl
theorem ml_of_yes (v : ByteArray) (h : ((v.extract 0 16).toList == nm) = true) : ml v = 21 := by
  unfold ml isDb
  rw [← extract16, h]; rfl
theorem ml_of_no (v : ByteArray) (h : ((v.extract 0 16).toList == nm) = false) : ml v = 0 := by
  unfold ml isDb
  rw [← extract16, h]; rfl
theorem append_data (a b : ByteArray) : (a ++ b).data.toList = a.data.toList ++ b.data.toList := by
  simp
theorem isDb_take (l : List UInt8) : isDb (l.take 16) = isDb l := by
  unfold isDb; rw [List.take_take, Nat.min_self]
theorem isDb_app (l r : List UInt8) (h : 16 ≤ l.length) : isDb (l ++ r) = isDb l := by
  unfold isDb; rw [List.take_append_of_le_length h]
theorem ml_cut (v : ByteArray) : ml (v.extract 0 16) = ml v := by
  unfold ml
  rw [show (v.extract 0 16).data.toList = v.data.toList.take 16 from by rw [← Lib.toList_data, extract16], isDb_take]
theorem ml_app (v s : ByteArray) (h : 16 ≤ v.size) : ml (v ++ s) = ml v := by
  unfold ml
  rw [append_data, isDb_app _ _ (by rw [← Lib.size_eq]; exact h)]
theorem ml_name (s : ByteArray) : ml ({ data := #[83, 83, 72, 45, 50, 46, 48, 45, 100, 114, 111, 112, 98, 101, 97, 114] } ++ s) = 21 := by
  rw [ml_app _ _ (by decide)]
  decide
theorem ml_two (v : ByteArray) : ml v = 0 ∨ ml v = 21 := by
  unfold ml; split
  · exact .inr rfl
  · exact .inl rfl
end Go.Proofs.Qxb6627866a
