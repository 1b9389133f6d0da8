/-
  WALKS of seat b6628286aF: zzIsPlainLabel at the four names, (Outcome).String at the four outcomes; the law. fmt.Sprintf is on none of these ways.
-/
import Derived.Test.Qxb6628286aFmtCards
import Derived.WalkKit
import Derived.WalkSpells
import Derived.WalkLawsBesides
import Derived.RowKit3
namespace Go.Proofs.Qxb6628286aFmt
open Go.RowKit

set_option maxRecDepth 100000 in
set_option maxHeartbeats 1600000 in
theorem label_processed (w : World) : Calls Tryf.prog 6 #[.string (ByteArray.mk #[112, 114, 111, 99, 101, 115, 115, 101, 100])] w fun e w' => e = .returned (.bool true) ∧ w' = w := by
  have g0 : (((ByteArray.mk #[112, 114, 111, 99, 101, 115, 115, 101, 100])[0]'(by decide)).toNat : Int) = 112 := rfl
  have g1 : (((ByteArray.mk #[112, 114, 111, 99, 101, 115, 115, 101, 100])[1]'(by decide)).toNat : Int) = 114 := rfl
  have g2 : (((ByteArray.mk #[112, 114, 111, 99, 101, 115, 115, 101, 100])[2]'(by decide)).toNat : Int) = 111 := rfl
  have g3 : (((ByteArray.mk #[112, 114, 111, 99, 101, 115, 115, 101, 100])[3]'(by decide)).toNat : Int) = 99 := rfl
  have g4 : (((ByteArray.mk #[112, 114, 111, 99, 101, 115, 115, 101, 100])[4]'(by decide)).toNat : Int) = 101 := rfl
  have g5 : (((ByteArray.mk #[112, 114, 111, 99, 101, 115, 115, 101, 100])[5]'(by decide)).toNat : Int) = 115 := rfl
  have g6 : (((ByteArray.mk #[112, 114, 111, 99, 101, 115, 115, 101, 100])[6]'(by decide)).toNat : Int) = 115 := rfl
  have g7 : (((ByteArray.mk #[112, 114, 111, 99, 101, 115, 115, 101, 100])[7]'(by decide)).toNat : Int) = 101 := rfl
  have g8 : (((ByteArray.mk #[112, 114, 111, 99, 101, 115, 115, 101, 100])[8]'(by decide)).toNat : Int) = 100 := rfl
  have hsz : (ByteArray.mk #[112, 114, 111, 99, 101, 115, 115, 101, 100]).size = 9 := rfl
  go_enter Tryf.func6, Tryf.ntmps6
  go_wp2
  go_loop [3] (fun i => ∃ k : Nat, k ≤ 9 ∧ i = .int .i64 k) (fun i => 9 - (intOf i).toNat)
  case atStart => exact ⟨0, by omega, rfl⟩
  case round =>
    obtain ⟨k, hk, rfl⟩ := hrel
    rcases (show k = 0 ∨ k = 1 ∨ k = 2 ∨ k = 3 ∨ k = 4 ∨ k = 5 ∨ k = 6 ∨ k = 7 ∨ k = 8 ∨ k = 9 from by omega) with rfl | rfl | rfl | rfl | rfl | rfl | rfl | rfl | rfl | rfl
    · go_wp2
      go_round
      case rel => exact ⟨1, by omega, by go_num⟩
      case measure => simp [intOf]
    · go_wp2
      go_round
      case rel => exact ⟨2, by omega, by go_num⟩
      case measure => simp [intOf]
    · go_wp2
      go_round
      case rel => exact ⟨3, by omega, by go_num⟩
      case measure => simp [intOf]
    · go_wp2
      go_round
      case rel => exact ⟨4, by omega, by go_num⟩
      case measure => simp [intOf]
    · go_wp2
      go_round
      case rel => exact ⟨5, by omega, by go_num⟩
      case measure => simp [intOf]
    · go_wp2
      go_round
      case rel => exact ⟨6, by omega, by go_num⟩
      case measure => simp [intOf]
    · go_wp2
      go_round
      case rel => exact ⟨7, by omega, by go_num⟩
      case measure => simp [intOf]
    · go_wp2
      go_round
      case rel => exact ⟨8, by omega, by go_num⟩
      case measure => simp [intOf]
    · go_wp2
      go_round
      case rel => exact ⟨9, by omega, by go_num⟩
      case measure => simp [intOf]
    · go_wp2
      go_ret
      exact ⟨rfl, rfl⟩

set_option maxRecDepth 100000 in
set_option maxHeartbeats 1600000 in
theorem label_duplicate (w : World) : Calls Tryf.prog 6 #[.string (ByteArray.mk #[100, 117, 112, 108, 105, 99, 97, 116, 101])] w fun e w' => e = .returned (.bool true) ∧ w' = w := by
  have g0 : (((ByteArray.mk #[100, 117, 112, 108, 105, 99, 97, 116, 101])[0]'(by decide)).toNat : Int) = 100 := rfl
  have g1 : (((ByteArray.mk #[100, 117, 112, 108, 105, 99, 97, 116, 101])[1]'(by decide)).toNat : Int) = 117 := rfl
  have g2 : (((ByteArray.mk #[100, 117, 112, 108, 105, 99, 97, 116, 101])[2]'(by decide)).toNat : Int) = 112 := rfl
  have g3 : (((ByteArray.mk #[100, 117, 112, 108, 105, 99, 97, 116, 101])[3]'(by decide)).toNat : Int) = 108 := rfl
  have g4 : (((ByteArray.mk #[100, 117, 112, 108, 105, 99, 97, 116, 101])[4]'(by decide)).toNat : Int) = 105 := rfl
  have g5 : (((ByteArray.mk #[100, 117, 112, 108, 105, 99, 97, 116, 101])[5]'(by decide)).toNat : Int) = 99 := rfl
  have g6 : (((ByteArray.mk #[100, 117, 112, 108, 105, 99, 97, 116, 101])[6]'(by decide)).toNat : Int) = 97 := rfl
  have g7 : (((ByteArray.mk #[100, 117, 112, 108, 105, 99, 97, 116, 101])[7]'(by decide)).toNat : Int) = 116 := rfl
  have g8 : (((ByteArray.mk #[100, 117, 112, 108, 105, 99, 97, 116, 101])[8]'(by decide)).toNat : Int) = 101 := rfl
  have hsz : (ByteArray.mk #[100, 117, 112, 108, 105, 99, 97, 116, 101]).size = 9 := rfl
  go_enter Tryf.func6, Tryf.ntmps6
  go_wp2
  go_loop [3] (fun i => ∃ k : Nat, k ≤ 9 ∧ i = .int .i64 k) (fun i => 9 - (intOf i).toNat)
  case atStart => exact ⟨0, by omega, rfl⟩
  case round =>
    obtain ⟨k, hk, rfl⟩ := hrel
    rcases (show k = 0 ∨ k = 1 ∨ k = 2 ∨ k = 3 ∨ k = 4 ∨ k = 5 ∨ k = 6 ∨ k = 7 ∨ k = 8 ∨ k = 9 from by omega) with rfl | rfl | rfl | rfl | rfl | rfl | rfl | rfl | rfl | rfl
    · go_wp2
      go_round
      case rel => exact ⟨1, by omega, by go_num⟩
      case measure => simp [intOf]
    · go_wp2
      go_round
      case rel => exact ⟨2, by omega, by go_num⟩
      case measure => simp [intOf]
    · go_wp2
      go_round
      case rel => exact ⟨3, by omega, by go_num⟩
      case measure => simp [intOf]
    · go_wp2
      go_round
      case rel => exact ⟨4, by omega, by go_num⟩
      case measure => simp [intOf]
    · go_wp2
      go_round
      case rel => exact ⟨5, by omega, by go_num⟩
      case measure => simp [intOf]
    · go_wp2
      go_round
      case rel => exact ⟨6, by omega, by go_num⟩
      case measure => simp [intOf]
    · go_wp2
      go_round
      case rel => exact ⟨7, by omega, by go_num⟩
      case measure => simp [intOf]
    · go_wp2
      go_round
      case rel => exact ⟨8, by omega, by go_num⟩
      case measure => simp [intOf]
    · go_wp2
      go_round
      case rel => exact ⟨9, by omega, by go_num⟩
      case measure => simp [intOf]
    · go_wp2
      go_ret
      exact ⟨rfl, rfl⟩

set_option maxRecDepth 100000 in
set_option maxHeartbeats 1600000 in
theorem label_inProgress (w : World) : Calls Tryf.prog 6 #[.string (ByteArray.mk #[105, 110, 32, 112, 114, 111, 103, 114, 101, 115, 115])] w fun e w' => e = .returned (.bool true) ∧ w' = w := by
  have g0 : (((ByteArray.mk #[105, 110, 32, 112, 114, 111, 103, 114, 101, 115, 115])[0]'(by decide)).toNat : Int) = 105 := rfl
  have g1 : (((ByteArray.mk #[105, 110, 32, 112, 114, 111, 103, 114, 101, 115, 115])[1]'(by decide)).toNat : Int) = 110 := rfl
  have g2 : (((ByteArray.mk #[105, 110, 32, 112, 114, 111, 103, 114, 101, 115, 115])[2]'(by decide)).toNat : Int) = 32 := rfl
  have g3 : (((ByteArray.mk #[105, 110, 32, 112, 114, 111, 103, 114, 101, 115, 115])[3]'(by decide)).toNat : Int) = 112 := rfl
  have g4 : (((ByteArray.mk #[105, 110, 32, 112, 114, 111, 103, 114, 101, 115, 115])[4]'(by decide)).toNat : Int) = 114 := rfl
  have g5 : (((ByteArray.mk #[105, 110, 32, 112, 114, 111, 103, 114, 101, 115, 115])[5]'(by decide)).toNat : Int) = 111 := rfl
  have g6 : (((ByteArray.mk #[105, 110, 32, 112, 114, 111, 103, 114, 101, 115, 115])[6]'(by decide)).toNat : Int) = 103 := rfl
  have g7 : (((ByteArray.mk #[105, 110, 32, 112, 114, 111, 103, 114, 101, 115, 115])[7]'(by decide)).toNat : Int) = 114 := rfl
  have g8 : (((ByteArray.mk #[105, 110, 32, 112, 114, 111, 103, 114, 101, 115, 115])[8]'(by decide)).toNat : Int) = 101 := rfl
  have g9 : (((ByteArray.mk #[105, 110, 32, 112, 114, 111, 103, 114, 101, 115, 115])[9]'(by decide)).toNat : Int) = 115 := rfl
  have g10 : (((ByteArray.mk #[105, 110, 32, 112, 114, 111, 103, 114, 101, 115, 115])[10]'(by decide)).toNat : Int) = 115 := rfl
  have hsz : (ByteArray.mk #[105, 110, 32, 112, 114, 111, 103, 114, 101, 115, 115]).size = 11 := rfl
  go_enter Tryf.func6, Tryf.ntmps6
  go_wp2
  go_loop [3] (fun i => ∃ k : Nat, k ≤ 11 ∧ i = .int .i64 k) (fun i => 11 - (intOf i).toNat)
  case atStart => exact ⟨0, by omega, rfl⟩
  case round =>
    obtain ⟨k, hk, rfl⟩ := hrel
    rcases (show k = 0 ∨ k = 1 ∨ k = 2 ∨ k = 3 ∨ k = 4 ∨ k = 5 ∨ k = 6 ∨ k = 7 ∨ k = 8 ∨ k = 9 ∨ k = 10 ∨ k = 11 from by omega) with rfl | rfl | rfl | rfl | rfl | rfl | rfl | rfl | rfl | rfl | rfl | rfl
    · go_wp2
      go_round
      case rel => exact ⟨1, by omega, by go_num⟩
      case measure => simp [intOf]
    · go_wp2
      go_round
      case rel => exact ⟨2, by omega, by go_num⟩
      case measure => simp [intOf]
    · go_wp2
      go_round
      case rel => exact ⟨3, by omega, by go_num⟩
      case measure => simp [intOf]
    · go_wp2
      go_round
      case rel => exact ⟨4, by omega, by go_num⟩
      case measure => simp [intOf]
    · go_wp2
      go_round
      case rel => exact ⟨5, by omega, by go_num⟩
      case measure => simp [intOf]
    · go_wp2
      go_round
      case rel => exact ⟨6, by omega, by go_num⟩
      case measure => simp [intOf]
    · go_wp2
      go_round
      case rel => exact ⟨7, by omega, by go_num⟩
      case measure => simp [intOf]
    · go_wp2
      go_round
      case rel => exact ⟨8, by omega, by go_num⟩
      case measure => simp [intOf]
    · go_wp2
      go_round
      case rel => exact ⟨9, by omega, by go_num⟩
      case measure => simp [intOf]
    · go_wp2
      go_round
      case rel => exact ⟨10, by omega, by go_num⟩
      case measure => simp [intOf]
    · go_wp2
      go_round
      case rel => exact ⟨11, by omega, by go_num⟩
      case measure => simp [intOf]
    · go_wp2
      go_ret
      exact ⟨rfl, rfl⟩

set_option maxRecDepth 100000 in
set_option maxHeartbeats 1600000 in
theorem label_failed (w : World) : Calls Tryf.prog 6 #[.string (ByteArray.mk #[102, 97, 105, 108, 101, 100])] w fun e w' => e = .returned (.bool true) ∧ w' = w := by
  have g0 : (((ByteArray.mk #[102, 97, 105, 108, 101, 100])[0]'(by decide)).toNat : Int) = 102 := rfl
  have g1 : (((ByteArray.mk #[102, 97, 105, 108, 101, 100])[1]'(by decide)).toNat : Int) = 97 := rfl
  have g2 : (((ByteArray.mk #[102, 97, 105, 108, 101, 100])[2]'(by decide)).toNat : Int) = 105 := rfl
  have g3 : (((ByteArray.mk #[102, 97, 105, 108, 101, 100])[3]'(by decide)).toNat : Int) = 108 := rfl
  have g4 : (((ByteArray.mk #[102, 97, 105, 108, 101, 100])[4]'(by decide)).toNat : Int) = 101 := rfl
  have g5 : (((ByteArray.mk #[102, 97, 105, 108, 101, 100])[5]'(by decide)).toNat : Int) = 100 := rfl
  have hsz : (ByteArray.mk #[102, 97, 105, 108, 101, 100]).size = 6 := rfl
  go_enter Tryf.func6, Tryf.ntmps6
  go_wp2
  go_loop [3] (fun i => ∃ k : Nat, k ≤ 6 ∧ i = .int .i64 k) (fun i => 6 - (intOf i).toNat)
  case atStart => exact ⟨0, by omega, rfl⟩
  case round =>
    obtain ⟨k, hk, rfl⟩ := hrel
    rcases (show k = 0 ∨ k = 1 ∨ k = 2 ∨ k = 3 ∨ k = 4 ∨ k = 5 ∨ k = 6 from by omega) with rfl | rfl | rfl | rfl | rfl | rfl | rfl
    · go_wp2
      go_round
      case rel => exact ⟨1, by omega, by go_num⟩
      case measure => simp [intOf]
    · go_wp2
      go_round
      case rel => exact ⟨2, by omega, by go_num⟩
      case measure => simp [intOf]
    · go_wp2
      go_round
      case rel => exact ⟨3, by omega, by go_num⟩
      case measure => simp [intOf]
    · go_wp2
      go_round
      case rel => exact ⟨4, by omega, by go_num⟩
      case measure => simp [intOf]
    · go_wp2
      go_round
      case rel => exact ⟨5, by omega, by go_num⟩
      case measure => simp [intOf]
    · go_wp2
      go_round
      case rel => exact ⟨6, by omega, by go_num⟩
      case measure => simp [intOf]
    · go_wp2
      go_ret
      exact ⟨rfl, rfl⟩

theorem law_low (o : Int) (h : o < 1) (w : World) : Calls Tryf.prog 4 #[.int .i64 o] w fun e w' => e = .returned (.bool true) ∧ w' = w := by
  go_enter Tryf.func4, Tryf.ntmps4
  go_wp2
  go_ret
  exact ⟨rfl, rfl⟩
theorem law_high (o : Int) (h : 4 < o) (w : World) : Calls Tryf.prog 4 #[.int .i64 o] w fun e w' => e = .returned (.bool true) ∧ w' = w := by
  go_enter Tryf.func4, Tryf.ntmps4
  go_wp2
  go_ret
  exact ⟨rfl, rfl⟩
theorem law_processed (w : World) : Calls Tryf.prog 4 #[.int .i64 1] w fun e w' => e = .returned (.bool true) ∧ w' = w := by
  go_enter Tryf.func4, Tryf.ntmps4
  go_wp2_with (go_at_call 5; go_in)
  refine (label_processed w).mono ?_
  rintro e w' ⟨rfl, rfl⟩
  go_wp2
  go_ret
  exact ⟨rfl, rfl⟩
theorem law_duplicate (w : World) : Calls Tryf.prog 4 #[.int .i64 2] w fun e w' => e = .returned (.bool true) ∧ w' = w := by
  go_enter Tryf.func4, Tryf.ntmps4
  go_wp2_with (go_at_call 5; go_in)
  refine (label_duplicate w).mono ?_
  rintro e w' ⟨rfl, rfl⟩
  go_wp2
  go_ret
  exact ⟨rfl, rfl⟩
theorem law_inProgress (w : World) : Calls Tryf.prog 4 #[.int .i64 3] w fun e w' => e = .returned (.bool true) ∧ w' = w := by
  go_enter Tryf.func4, Tryf.ntmps4
  go_wp2_with (go_at_call 5; go_in)
  refine (label_inProgress w).mono ?_
  rintro e w' ⟨rfl, rfl⟩
  go_wp2
  go_ret
  exact ⟨rfl, rfl⟩
theorem law_failed (w : World) : Calls Tryf.prog 4 #[.int .i64 4] w fun e w' => e = .returned (.bool true) ∧ w' = w := by
  go_enter Tryf.func4, Tryf.ntmps4
  go_wp2_with (go_at_call 5; go_in)
  refine (label_failed w).mono ?_
  rintro e w' ⟨rfl, rfl⟩
  go_wp2
  go_ret
  exact ⟨rfl, rfl⟩
/-- The law, at every int: true; the world stands. -/
theorem law_any (o : Int) (w : World) : Calls Tryf.prog 4 #[.int .i64 o] w fun e w' => e = .returned (.bool true) ∧ w' = w := by
  by_cases h1 : o < 1
  · exact law_low o h1 w
  by_cases h2 : 4 < o
  · exact law_high o h2 w
  rcases (show o = 1 ∨ o = 2 ∨ o = 3 ∨ o = 4 from by omega) with rfl | rfl | rfl | rfl
  · exact law_processed w
  · exact law_duplicate w
  · exact law_inProgress w
  · exact law_failed w
end Go.Proofs.Qxb6628286aFmt
