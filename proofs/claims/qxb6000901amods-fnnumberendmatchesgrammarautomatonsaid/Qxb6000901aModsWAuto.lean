import Derived.Test.Qxb6000901aModsWMem
import Derived.Test.Qxb6000901aModsPlainAuto
import Derived.Deep.Light
namespace Go.Proofs.Qxb6000901aMods
open Go.RowKit
set_option maxRecDepth 100000 in
theorem step_0 (c : Int) (w : World) : Calls Trym.prog 28 #[.int .i64 0, .int .u8 c] w fun e w' => e = .returned (.int .i64 (Pl.nstep 0 c)) ∧ w' = w := by
  go_enter Trym.func28, Trym.ntmps28
  go_wp2
  all_goals
    go_ret
    refine ⟨ret_i64 ?_, rfl⟩
    go_light
    try simp only [beq_iff_eq, beq_eq_false_iff_ne, ne_eq] at *
    simp only [Pl.nstep]
    first | (simp; done) | ((repeat' split) <;> omega)

set_option maxRecDepth 100000 in
theorem step_1 (c : Int) (w : World) : Calls Trym.prog 28 #[.int .i64 1, .int .u8 c] w fun e w' => e = .returned (.int .i64 (Pl.nstep 1 c)) ∧ w' = w := by
  go_enter Trym.func28, Trym.ntmps28
  go_wp2
  all_goals
    go_ret
    refine ⟨ret_i64 ?_, rfl⟩
    go_light
    try simp only [beq_iff_eq, beq_eq_false_iff_ne, ne_eq] at *
    simp only [Pl.nstep]
    first | (simp; done) | ((repeat' split) <;> omega)

set_option maxRecDepth 100000 in
theorem step_2 (c : Int) (w : World) : Calls Trym.prog 28 #[.int .i64 2, .int .u8 c] w fun e w' => e = .returned (.int .i64 (Pl.nstep 2 c)) ∧ w' = w := by
  go_enter Trym.func28, Trym.ntmps28
  go_wp2
  all_goals
    go_ret
    refine ⟨ret_i64 ?_, rfl⟩
    go_light
    try simp only [beq_iff_eq, beq_eq_false_iff_ne, ne_eq] at *
    simp only [Pl.nstep]
    first | (simp; done) | ((repeat' split) <;> omega)

set_option maxRecDepth 100000 in
theorem step_3 (c : Int) (w : World) : Calls Trym.prog 28 #[.int .i64 3, .int .u8 c] w fun e w' => e = .returned (.int .i64 (Pl.nstep 3 c)) ∧ w' = w := by
  go_enter Trym.func28, Trym.ntmps28
  go_wp2
  all_goals
    go_ret
    refine ⟨ret_i64 ?_, rfl⟩
    go_light
    try simp only [beq_iff_eq, beq_eq_false_iff_ne, ne_eq] at *
    simp only [Pl.nstep]
    first | (simp; done) | ((repeat' split) <;> omega)

set_option maxRecDepth 100000 in
theorem step_4 (c : Int) (w : World) : Calls Trym.prog 28 #[.int .i64 4, .int .u8 c] w fun e w' => e = .returned (.int .i64 (Pl.nstep 4 c)) ∧ w' = w := by
  go_enter Trym.func28, Trym.ntmps28
  go_wp2
  all_goals
    go_ret
    refine ⟨ret_i64 ?_, rfl⟩
    go_light
    try simp only [beq_iff_eq, beq_eq_false_iff_ne, ne_eq] at *
    simp only [Pl.nstep]
    first | (simp; done) | ((repeat' split) <;> omega)

set_option maxRecDepth 100000 in
theorem step_5 (c : Int) (w : World) : Calls Trym.prog 28 #[.int .i64 5, .int .u8 c] w fun e w' => e = .returned (.int .i64 (Pl.nstep 5 c)) ∧ w' = w := by
  go_enter Trym.func28, Trym.ntmps28
  go_wp2
  all_goals
    go_ret
    refine ⟨ret_i64 ?_, rfl⟩
    go_light
    try simp only [beq_iff_eq, beq_eq_false_iff_ne, ne_eq] at *
    simp only [Pl.nstep]
    first | (simp; done) | ((repeat' split) <;> omega)

set_option maxRecDepth 100000 in
theorem step_6 (c : Int) (w : World) : Calls Trym.prog 28 #[.int .i64 6, .int .u8 c] w fun e w' => e = .returned (.int .i64 (Pl.nstep 6 c)) ∧ w' = w := by
  go_enter Trym.func28, Trym.ntmps28
  go_wp2
  all_goals
    go_ret
    refine ⟨ret_i64 ?_, rfl⟩
    go_light
    try simp only [beq_iff_eq, beq_eq_false_iff_ne, ne_eq] at *
    simp only [Pl.nstep]
    first | (simp; done) | ((repeat' split) <;> omega)

set_option maxRecDepth 100000 in
theorem step_7 (c : Int) (w : World) : Calls Trym.prog 28 #[.int .i64 7, .int .u8 c] w fun e w' => e = .returned (.int .i64 (Pl.nstep 7 c)) ∧ w' = w := by
  go_enter Trym.func28, Trym.ntmps28
  go_wp2
  all_goals
    go_ret
    refine ⟨ret_i64 ?_, rfl⟩
    go_light
    try simp only [beq_iff_eq, beq_eq_false_iff_ne, ne_eq] at *
    simp only [Pl.nstep]
    first | (simp; done) | ((repeat' split) <;> omega)

set_option maxRecDepth 100000 in
theorem step_8 (c : Int) (w : World) : Calls Trym.prog 28 #[.int .i64 8, .int .u8 c] w fun e w' => e = .returned (.int .i64 (Pl.nstep 8 c)) ∧ w' = w := by
  go_enter Trym.func28, Trym.ntmps28
  go_wp2
  all_goals
    go_ret
    refine ⟨ret_i64 ?_, rfl⟩
    go_light
    try simp only [beq_iff_eq, beq_eq_false_iff_ne, ne_eq] at *
    simp only [Pl.nstep]
    first | (simp; done) | ((repeat' split) <;> omega)

/-- numStep_b1 -/
theorem step_any (s : Nat) (c : Int) (w : World) (h : s ≤ 8) : Calls Trym.prog 28 #[.int .i64 s, .int .u8 c] w fun e w' => e = .returned (.int .i64 (Pl.nstep s c)) ∧ w' = w :=
  match s, h with
  | 0, _ => step_0 c w
  | 1, _ => step_1 c w
  | 2, _ => step_2 c w
  | 3, _ => step_3 c w
  | 4, _ => step_4 c w
  | 5, _ => step_5 c w
  | 6, _ => step_6 c w
  | 7, _ => step_7 c w
  | 8, _ => step_8 c w
  | n + 9, h => absurd h (by omega)
end Go.Proofs.Qxb6000901aMods
