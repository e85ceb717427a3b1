/-
  LawS0295AFires: the small functions: paths and parents. By an AI agent.
-/
import Derived.Test.YbulkfbwFireMaps
import Derived.WalkKit
import Derived.ProofKit
import Derived.Below
import Derived.BigQuiet
namespace Go.Proofs.Ybulkfbw.lawS0295AFires
open Go.ChangeShapes Go.WideShapes Go.RowKit
set_option linter.unusedVariables false
set_option linter.unusedSimpArgs false

def par : Nat → Nat
  | 0 => 4 | 1 => 0 | 2 => 4 | _ => 1
theorem path_any (i : Nat) (hi : i < 5) (w : World) : Calls Yba.prog 8 #[.int .i64 i] w fun e w' => e = .returned (.string (path i)) ∧ w' = w := by
  match i, hi with
  | 0, _ => go_enter Yba.func8, Yba.ntmps8; go_wp2; go_ret; exact ⟨rfl, rfl⟩
  | 1, _ => go_enter Yba.func8, Yba.ntmps8; go_wp2; go_ret; exact ⟨rfl, rfl⟩
  | 2, _ => go_enter Yba.func8, Yba.ntmps8; go_wp2; go_ret; exact ⟨rfl, rfl⟩
  | 3, _ => go_enter Yba.func8, Yba.ntmps8; go_wp2; go_ret; exact ⟨rfl, rfl⟩
  | 4, _ => go_enter Yba.func8, Yba.ntmps8; go_wp2; go_ret; exact ⟨rfl, rfl⟩
theorem parent_any (i : Nat) (hi : i < 4) (w : World) : Calls Yba.prog 9 #[.int .i64 i] w fun e w' => e = .returned (.int .i64 (par i)) ∧ w' = w := by
  match i, hi with
  | 0, _ => go_enter Yba.func9, Yba.ntmps9; go_wp2; go_ret; exact ⟨rfl, rfl⟩
  | 1, _ => go_enter Yba.func9, Yba.ntmps9; go_wp2; go_ret; exact ⟨rfl, rfl⟩
  | 2, _ => go_enter Yba.func9, Yba.ntmps9; go_wp2; go_ret; exact ⟨rfl, rfl⟩
  | 3, _ => go_enter Yba.func9, Yba.ntmps9; go_wp2; go_ret; exact ⟨rfl, rfl⟩

set_option maxRecDepth 100000 in
theorem last0 (w : World) : Calls Yba.prog 46 #[.string ⟨#[47, 97]⟩, .int .u8 47] w fun e w' => e = .returned (.int .i64 0) ∧ w' = w := by
  go_enter Yba.func46, Yba.ntmps46
  go_wp2
  refine wp_loop_rounds 2 ?_
  rw [rounds_succ]
  go_wp2
  rw [rounds_succ]
  go_wp2
  go_ret
  exact ⟨rfl, rfl⟩
set_option maxRecDepth 100000 in
theorem last1 (w : World) : Calls Yba.prog 46 #[.string ⟨#[47, 97, 47, 98]⟩, .int .u8 47] w fun e w' => e = .returned (.int .i64 2) ∧ w' = w := by
  go_enter Yba.func46, Yba.ntmps46
  go_wp2
  refine wp_loop_rounds 2 ?_
  rw [rounds_succ]
  go_wp2
  rw [rounds_succ]
  go_wp2
  go_ret
  exact ⟨rfl, rfl⟩
set_option maxRecDepth 100000 in
theorem last2 (w : World) : Calls Yba.prog 46 #[.string ⟨#[47, 98]⟩, .int .u8 47] w fun e w' => e = .returned (.int .i64 0) ∧ w' = w := by
  go_enter Yba.func46, Yba.ntmps46
  go_wp2
  refine wp_loop_rounds 2 ?_
  rw [rounds_succ]
  go_wp2
  rw [rounds_succ]
  go_wp2
  go_ret
  exact ⟨rfl, rfl⟩
set_option maxRecDepth 100000 in
theorem last3 (w : World) : Calls Yba.prog 46 #[.string ⟨#[47, 97, 47, 98, 47, 99]⟩, .int .u8 47] w fun e w' => e = .returned (.int .i64 4) ∧ w' = w := by
  go_enter Yba.func46, Yba.ntmps46
  go_wp2
  refine wp_loop_rounds 2 ?_
  rw [rounds_succ]
  go_wp2
  rw [rounds_succ]
  go_wp2
  go_ret
  exact ⟨rfl, rfl⟩
set_option maxRecDepth 100000 in
theorem parentOf0 (w : World) : Calls Yba.prog 24 #[.string ⟨#[47, 97]⟩] w fun e w' => e = .returned (.string (path (par 0))) ∧ w' = w := by
  have hlast := last0
  go_enter Yba.func24, Yba.ntmps24
  go_wp2_with (first | (go_at_call 46; refine (hlast _).mono ?_; rintro e w' ⟨rfl, rfl⟩) | (go_at_call 33; go_in))
  go_ret
  exact ⟨rfl, rfl⟩
set_option maxRecDepth 100000 in
theorem parentOf1 (w : World) : Calls Yba.prog 24 #[.string ⟨#[47, 97, 47, 98]⟩] w fun e w' => e = .returned (.string (path (par 1))) ∧ w' = w := by
  have hlast := last1
  go_enter Yba.func24, Yba.ntmps24
  go_wp2_with (first | (go_at_call 46; refine (hlast _).mono ?_; rintro e w' ⟨rfl, rfl⟩) | (go_at_call 33; go_in))
  go_ret
  exact ⟨rfl, rfl⟩
set_option maxRecDepth 100000 in
theorem parentOf2 (w : World) : Calls Yba.prog 24 #[.string ⟨#[47, 98]⟩] w fun e w' => e = .returned (.string (path (par 2))) ∧ w' = w := by
  have hlast := last2
  go_enter Yba.func24, Yba.ntmps24
  go_wp2_with (first | (go_at_call 46; refine (hlast _).mono ?_; rintro e w' ⟨rfl, rfl⟩) | (go_at_call 33; go_in))
  go_ret
  exact ⟨rfl, rfl⟩
set_option maxRecDepth 100000 in
theorem parentOf3 (w : World) : Calls Yba.prog 24 #[.string ⟨#[47, 97, 47, 98, 47, 99]⟩] w fun e w' => e = .returned (.string (path (par 3))) ∧ w' = w := by
  have hlast := last3
  go_enter Yba.func24, Yba.ntmps24
  go_wp2_with (first | (go_at_call 46; refine (hlast _).mono ?_; rintro e w' ⟨rfl, rfl⟩) | (go_at_call 33; go_in))
  go_ret
  exact ⟨rfl, rfl⟩
theorem parentOf_any (k : Nat) (hk : k < 4) (w : World) : Calls Yba.prog 24 #[.string (path k)] w fun e w' => e = .returned (.string (path (par k))) ∧ w' = w := by
  match k, hk with
  | 0, _ => exact parentOf0 w
  | 1, _ => exact parentOf1 w
  | 2, _ => exact parentOf2 w
  | 3, _ => exact parentOf3 w
set_option maxRecDepth 100000 in
theorem cm_any (a2 : Option Addr) (len2 cap2 : Nat) (g : Nat → Int) (i : Nat) (w : World) (hi : i ≤ 1024) (h : i < len2 → ∃ x, a2 = some x ∧ w.cell? (x.add i) = some (.int .u8 (g i))) :
    Calls Yba.prog 10 #[.slice a2 len2 cap2, .int .i64 i] w fun e w' => e = .returned (.int .u8 (if i < len2 then g i else 0)) ∧ w' = w := by
  by_cases hlt : i < len2
  · obtain ⟨x, rfl, hx⟩ := h hlt
    rw [if_pos hlt]
    clear h
    go_enter Yba.func10, Yba.ntmps10
    go_wp2
    go_ret
    exact ⟨rfl, rfl⟩
  · rw [if_neg hlt]
    clear h
    go_enter Yba.func10, Yba.ntmps10
    go_wp2
    go_ret
    exact ⟨rfl, rfl⟩
end Go.Proofs.Ybulkfbw.lawS0295AFires
