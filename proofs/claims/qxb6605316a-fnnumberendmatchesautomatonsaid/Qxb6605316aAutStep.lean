/-
  THE WALK of 'numStep' (23): a state at a time.
-/
import Derived.Test.Qxb6605316aAutPlain
import Derived.Test.Qxb6605316aNumDigits
namespace Go.Proofs.Qxb6605316a.Num
open Go.RowKit

set_option maxRecDepth 100000 in
theorem step0 (c : Int) (w : World) : Calls Try.prog 23 #[.int .i64 0, .int .u8 c] w fun e w' => e = .returned (.int .i64 (step 0 c)) ∧ w' = w := by
  go_enter Try.func23, Try.ntmps23
  go_wp2
  all_goals
    go_ret
    refine ⟨ret_int ?_, rfl⟩
    try simp only [beq_iff_eq, beq_eq_false_iff_ne, ne_eq] at *
    rw [step]
    repeat' split
    all_goals omega
set_option maxRecDepth 100000 in
theorem step1 (c : Int) (w : World) : Calls Try.prog 23 #[.int .i64 1, .int .u8 c] w fun e w' => e = .returned (.int .i64 (step 1 c)) ∧ w' = w := by
  go_enter Try.func23, Try.ntmps23
  go_wp2
  all_goals
    go_ret
    refine ⟨ret_int ?_, rfl⟩
    try simp only [beq_iff_eq, beq_eq_false_iff_ne, ne_eq] at *
    rw [step]
    repeat' split
    all_goals omega
set_option maxRecDepth 100000 in
theorem step2 (c : Int) (w : World) : Calls Try.prog 23 #[.int .i64 2, .int .u8 c] w fun e w' => e = .returned (.int .i64 (step 2 c)) ∧ w' = w := by
  go_enter Try.func23, Try.ntmps23
  go_wp2
  all_goals
    go_ret
    refine ⟨ret_int ?_, rfl⟩
    try simp only [beq_iff_eq, beq_eq_false_iff_ne, ne_eq] at *
    rw [step]
    repeat' split
    all_goals omega
set_option maxRecDepth 100000 in
theorem step3 (c : Int) (w : World) : Calls Try.prog 23 #[.int .i64 3, .int .u8 c] w fun e w' => e = .returned (.int .i64 (step 3 c)) ∧ w' = w := by
  go_enter Try.func23, Try.ntmps23
  go_wp2
  all_goals
    go_ret
    refine ⟨ret_int ?_, rfl⟩
    try simp only [beq_iff_eq, beq_eq_false_iff_ne, ne_eq] at *
    rw [step]
    repeat' split
    all_goals omega
set_option maxRecDepth 100000 in
theorem step4 (c : Int) (w : World) : Calls Try.prog 23 #[.int .i64 4, .int .u8 c] w fun e w' => e = .returned (.int .i64 (step 4 c)) ∧ w' = w := by
  go_enter Try.func23, Try.ntmps23
  go_wp2
  all_goals
    go_ret
    refine ⟨ret_int ?_, rfl⟩
    try simp only [beq_iff_eq, beq_eq_false_iff_ne, ne_eq] at *
    rw [step]
    repeat' split
    all_goals omega
set_option maxRecDepth 100000 in
theorem step5 (c : Int) (w : World) : Calls Try.prog 23 #[.int .i64 5, .int .u8 c] w fun e w' => e = .returned (.int .i64 (step 5 c)) ∧ w' = w := by
  go_enter Try.func23, Try.ntmps23
  go_wp2
  all_goals
    go_ret
    refine ⟨ret_int ?_, rfl⟩
    try simp only [beq_iff_eq, beq_eq_false_iff_ne, ne_eq] at *
    rw [step]
    repeat' split
    all_goals omega
set_option maxRecDepth 100000 in
theorem step6 (c : Int) (w : World) : Calls Try.prog 23 #[.int .i64 6, .int .u8 c] w fun e w' => e = .returned (.int .i64 (step 6 c)) ∧ w' = w := by
  go_enter Try.func23, Try.ntmps23
  go_wp2
  all_goals
    go_ret
    refine ⟨ret_int ?_, rfl⟩
    try simp only [beq_iff_eq, beq_eq_false_iff_ne, ne_eq] at *
    rw [step]
    repeat' split
    all_goals omega
set_option maxRecDepth 100000 in
theorem step7 (c : Int) (w : World) : Calls Try.prog 23 #[.int .i64 7, .int .u8 c] w fun e w' => e = .returned (.int .i64 (step 7 c)) ∧ w' = w := by
  go_enter Try.func23, Try.ntmps23
  go_wp2
  all_goals
    go_ret
    refine ⟨ret_int ?_, rfl⟩
    try simp only [beq_iff_eq, beq_eq_false_iff_ne, ne_eq] at *
    rw [step]
    repeat' split
    all_goals omega
set_option maxRecDepth 100000 in
theorem step8 (c : Int) (w : World) : Calls Try.prog 23 #[.int .i64 8, .int .u8 c] w fun e w' => e = .returned (.int .i64 (step 8 c)) ∧ w' = w := by
  go_enter Try.func23, Try.ntmps23
  go_wp2
  all_goals
    go_ret
    refine ⟨ret_int ?_, rfl⟩
    try simp only [beq_iff_eq, beq_eq_false_iff_ne, ne_eq] at *
    rw [step]
    repeat' split
    all_goals omega

theorem step_any (s : Nat) (hs : s ≤ 8) (c : Int) (w : World) : Calls Try.prog 23 #[.int .i64 s, .int .u8 c] w fun e w' => e = .returned (.int .i64 (step s c)) ∧ w' = w := by
  match s, hs with
  | 0, _ => exact step0 c w
  | 1, _ => exact step1 c w
  | 2, _ => exact step2 c w
  | 3, _ => exact step3 c w
  | 4, _ => exact step4 c w
  | 5, _ => exact step5 c w
  | 6, _ => exact step6 c w
  | 7, _ => exact step7 c w
  | 8, _ => exact step8 c w
end Go.Proofs.Qxb6605316a.Num
