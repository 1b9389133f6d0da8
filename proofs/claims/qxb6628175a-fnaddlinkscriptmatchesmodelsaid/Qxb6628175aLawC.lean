/-
  seat b6628175a: the law where there is no pair (a nil slice too).
-/
import Derived.Test.Qxb6628175aRel
import Derived.Test.Qxb6628175aLawA
namespace Go.Proofs.Qxb6628175a
open Go.RowKit Go.Maps

set_option maxRecDepth 100000 in
set_option maxHeartbeats 3200000 in
theorem law_empty (n : Nat) (ao : Option Addr) (cap : Nat) (hn : n ≤ 4096) (w : World) :
    Calls Try.prog 3 #[.int .i64 n, .slice ao 0 cap] w fun e w' => e = .returned (.bool true) ∧ Below w.heap.size w w' := by
  have hmk : ∀ w : World, (Instr.makeSlice 28 (.int .i64 0) (.int .i64 0)).run Try.prog w = .ok (.slice (some ⟨w.heap.size, 0, none⟩) 0 0) (w.alloc (.cells #[] 4)) := fun _ => by kernel_rfl
  go_enter Try.func3, Try.ntmps3
  go_wp2_with (go_at_call 4; go_in)
  refine wp_loop_rounds 1 ?_
  rw [rounds_succ]
  go_wp2_with fail
  refine (graph_any n hn _).mono ?_
  rintro e w1 ⟨Bg, Ba, x0, x1, rfl, hg1, ha1, hBa, hBag, hb1⟩
  have HG1 : Hid (w1.rowIs Bg 44 4 (gcell x0 x1 Ba n (.map none))) := hg1
  have HA1 : Hid (w1.rowIs Ba 33 n (fun _ => .slice none 0 0)) := ha1
  have HB1 : Hid (Below w.heap.size w w1) := hb1
  clear hg1 ha1 hb1 hBa hBag
  go_wp2_with fail
  refine wp_loop_rounds 1 ?_
  rw [rounds_succ]
  have c2 : ∀ o : Obj, (w1.alloc o).cell? ⟨Bg, 2, none⟩ = some (.slice (some ⟨Ba, 0, none⟩) n n) := fun o => (HG1.out.alloc o).cell (i := 2) (by omega)
  have c3 : ∀ o : Obj, (w1.alloc o).cell? ⟨Bg, 3, none⟩ = some (.map none) := fun o => (HG1.out.alloc o).cell (i := 3) (by omega)
  go_wp2_with (go_at_call 9; go_in)
  go_loop [14] (fun s14 => ∃ v : Nat, v ≤ n ∧ s14 = .int .i64 v) (fun s14 => n - (intOf s14).toNat)
  case atStart => exact ⟨0, Nat.zero_le _, rfl⟩
  case round =>
    obtain ⟨v, hv, rfl⟩ := hrel
    by_cases hvn : v < n
    · have cv : ∀ o : Obj, (w1.alloc o).cell? ⟨Ba, v, none⟩ = some (.slice none 0 0) := fun o => (HA1.out.alloc o).cell hvn
      go_wp2_with fail
      go_loop [15, 16] (fun s15 s16 => s15 = .int .i64 0 ∧ s16 = .int .i64 0) (fun _ _ => 0)
      case atStart => exact ⟨rfl, rfl⟩
      case round =>
        obtain ⟨rfl, rfl⟩ := hrel
        go_wp2
        go_round
        case rel => exact ⟨v + 1, by omega, by go_num⟩
        case measure => simp [intOf]; omega
    obtain rfl : v = n := by omega
    go_wp2_with (first | (go_at_call 10; go_in) | (at_len; refine wpList_len_links _ rfl (.tmp 172) rfl (B := 0) (ks := []) ⟨by simp, .inl ⟨rfl, rfl⟩⟩ List.nodup_nil 0 rfl rfl ?_))
    refine wp_loop_rounds 1 ?_
    rw [rounds_succ]
    go_wp2
    go_ret
    exact ⟨rfl, HB1.out.alloc HB1.out.size _⟩
end Go.Proofs.Qxb6628175a
