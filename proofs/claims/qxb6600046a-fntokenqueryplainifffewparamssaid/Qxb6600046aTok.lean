import Derived.Test.Qxb6600046aRows
import Derived.WalkKit
import Derived.WalkSpells
namespace Go.Proofs.Qxb6600046a
open Go.RowKit
set_option linter.unusedVariables false

/-- the token bytes -/
def tokB (c : Int) : Bool := decide (c = 33 ∨ (35 ≤ c ∧ c ≤ 39) ∨ (42 ≤ c ∧ c ≤ 43) ∨ (45 ≤ c ∧ c ≤ 46) ∨ (48 ≤ c ∧ c ≤ 57) ∨ (65 ≤ c ∧ c ≤ 90) ∨ (94 ≤ c ∧ c ≤ 122) ∨ c = 124 ∨ c = 126)
theorem tokB_t {c : Int} (h : c = 33 ∨ (35 ≤ c ∧ c ≤ 39) ∨ (42 ≤ c ∧ c ≤ 43) ∨ (45 ≤ c ∧ c ≤ 46) ∨ (48 ≤ c ∧ c ≤ 57) ∨ (65 ≤ c ∧ c ≤ 90) ∨ (94 ≤ c ∧ c ≤ 122) ∨ c = 124 ∨ c = 126) : tokB c = true := decide_eq_true h
theorem tokB_f {c : Int} (h : ¬ (c = 33 ∨ (35 ≤ c ∧ c ≤ 39) ∨ (42 ≤ c ∧ c ≤ 43) ∨ (45 ≤ c ∧ c ≤ 46) ∨ (48 ≤ c ∧ c ≤ 57) ∨ (65 ≤ c ∧ c ≤ 90) ∨ (94 ≤ c ∧ c ≤ 122) ∨ c = 124 ∨ c = 126)) : tokB c = false := decide_eq_false h

set_option maxHeartbeats 400000 in
theorem f20_0 (c : Int) (w : World) (h1 : 0 ≤ c) (h2 : c ≤ 32) : Calls Try.prog 20 #[.int .u8 c] w fun e w' => e = .returned (.bool false) ∧ w' = w := by
  go_enter Try.func20, Try.ntmps20
  go_wp2
  all_goals
    go_ret
    exact ⟨rfl, rfl⟩

set_option maxHeartbeats 400000 in
theorem f20_33 (c : Int) (w : World) (h1 : 33 ≤ c) (h2 : c ≤ 33) : Calls Try.prog 20 #[.int .u8 c] w fun e w' => e = .returned (.bool true) ∧ w' = w := by
  go_enter Try.func20, Try.ntmps20
  go_wp2
  all_goals
    go_ret
    exact ⟨rfl, rfl⟩

set_option maxHeartbeats 400000 in
theorem f20_34 (c : Int) (w : World) (h1 : 34 ≤ c) (h2 : c ≤ 34) : Calls Try.prog 20 #[.int .u8 c] w fun e w' => e = .returned (.bool false) ∧ w' = w := by
  go_enter Try.func20, Try.ntmps20
  go_wp2
  all_goals
    go_ret
    exact ⟨rfl, rfl⟩

set_option maxHeartbeats 400000 in
theorem f20_35 (c : Int) (w : World) (h1 : 35 ≤ c) (h2 : c ≤ 39) : Calls Try.prog 20 #[.int .u8 c] w fun e w' => e = .returned (.bool true) ∧ w' = w := by
  go_enter Try.func20, Try.ntmps20
  go_wp2
  all_goals
    go_ret
    exact ⟨rfl, rfl⟩

set_option maxHeartbeats 400000 in
theorem f20_40 (c : Int) (w : World) (h1 : 40 ≤ c) (h2 : c ≤ 41) : Calls Try.prog 20 #[.int .u8 c] w fun e w' => e = .returned (.bool false) ∧ w' = w := by
  go_enter Try.func20, Try.ntmps20
  go_wp2
  all_goals
    go_ret
    exact ⟨rfl, rfl⟩

set_option maxHeartbeats 400000 in
theorem f20_42 (c : Int) (w : World) (h1 : 42 ≤ c) (h2 : c ≤ 43) : Calls Try.prog 20 #[.int .u8 c] w fun e w' => e = .returned (.bool true) ∧ w' = w := by
  go_enter Try.func20, Try.ntmps20
  go_wp2
  all_goals
    go_ret
    exact ⟨rfl, rfl⟩

set_option maxHeartbeats 400000 in
theorem f20_44 (c : Int) (w : World) (h1 : 44 ≤ c) (h2 : c ≤ 44) : Calls Try.prog 20 #[.int .u8 c] w fun e w' => e = .returned (.bool false) ∧ w' = w := by
  go_enter Try.func20, Try.ntmps20
  go_wp2
  all_goals
    go_ret
    exact ⟨rfl, rfl⟩

set_option maxHeartbeats 400000 in
theorem f20_45 (c : Int) (w : World) (h1 : 45 ≤ c) (h2 : c ≤ 46) : Calls Try.prog 20 #[.int .u8 c] w fun e w' => e = .returned (.bool true) ∧ w' = w := by
  go_enter Try.func20, Try.ntmps20
  go_wp2
  all_goals
    go_ret
    exact ⟨rfl, rfl⟩

set_option maxHeartbeats 400000 in
theorem f20_47 (c : Int) (w : World) (h1 : 47 ≤ c) (h2 : c ≤ 47) : Calls Try.prog 20 #[.int .u8 c] w fun e w' => e = .returned (.bool false) ∧ w' = w := by
  go_enter Try.func20, Try.ntmps20
  go_wp2
  all_goals
    go_ret
    exact ⟨rfl, rfl⟩

set_option maxHeartbeats 400000 in
theorem f20_48 (c : Int) (w : World) (h1 : 48 ≤ c) (h2 : c ≤ 57) : Calls Try.prog 20 #[.int .u8 c] w fun e w' => e = .returned (.bool true) ∧ w' = w := by
  go_enter Try.func20, Try.ntmps20
  go_wp2
  all_goals
    go_ret
    exact ⟨rfl, rfl⟩

set_option maxHeartbeats 400000 in
theorem f20_58 (c : Int) (w : World) (h1 : 58 ≤ c) (h2 : c ≤ 64) : Calls Try.prog 20 #[.int .u8 c] w fun e w' => e = .returned (.bool false) ∧ w' = w := by
  have g48 : decide (c ≤ 57) = false := decide_eq_false (by omega)
  go_enter Try.func20, Try.ntmps20
  go_wp2
  all_goals
    go_ret
    exact ⟨rfl, rfl⟩

set_option maxHeartbeats 400000 in
theorem f20_65 (c : Int) (w : World) (h1 : 65 ≤ c) (h2 : c ≤ 90) : Calls Try.prog 20 #[.int .u8 c] w fun e w' => e = .returned (.bool true) ∧ w' = w := by
  have g48 : decide (c ≤ 57) = false := decide_eq_false (by omega)
  go_enter Try.func20, Try.ntmps20
  go_wp2
  all_goals
    go_ret
    exact ⟨rfl, rfl⟩

set_option maxHeartbeats 400000 in
theorem f20_91 (c : Int) (w : World) (h1 : 91 ≤ c) (h2 : c ≤ 93) : Calls Try.prog 20 #[.int .u8 c] w fun e w' => e = .returned (.bool false) ∧ w' = w := by
  have g65 : decide (c ≤ 90) = false := decide_eq_false (by omega)
  have g48 : decide (c ≤ 57) = false := decide_eq_false (by omega)
  go_enter Try.func20, Try.ntmps20
  go_wp2
  all_goals
    go_ret
    exact ⟨rfl, rfl⟩

set_option maxHeartbeats 400000 in
theorem f20_94 (c : Int) (w : World) (h1 : 94 ≤ c) (h2 : c ≤ 96) : Calls Try.prog 20 #[.int .u8 c] w fun e w' => e = .returned (.bool true) ∧ w' = w := by
  have g65 : decide (c ≤ 90) = false := decide_eq_false (by omega)
  have g48 : decide (c ≤ 57) = false := decide_eq_false (by omega)
  go_enter Try.func20, Try.ntmps20
  go_wp2
  all_goals
    go_ret
    exact ⟨rfl, rfl⟩

set_option maxHeartbeats 400000 in
theorem f20_97 (c : Int) (w : World) (h1 : 97 ≤ c) (h2 : c ≤ 122) : Calls Try.prog 20 #[.int .u8 c] w fun e w' => e = .returned (.bool true) ∧ w' = w := by
  have g65 : decide (c ≤ 90) = false := decide_eq_false (by omega)
  have g48 : decide (c ≤ 57) = false := decide_eq_false (by omega)
  go_enter Try.func20, Try.ntmps20
  go_wp2
  all_goals
    go_ret
    exact ⟨rfl, rfl⟩

set_option maxHeartbeats 400000 in
theorem f20_123 (c : Int) (w : World) (h1 : 123 ≤ c) (h2 : c ≤ 123) : Calls Try.prog 20 #[.int .u8 c] w fun e w' => e = .returned (.bool false) ∧ w' = w := by
  have g97 : decide (c ≤ 122) = false := decide_eq_false (by omega)
  have g65 : decide (c ≤ 90) = false := decide_eq_false (by omega)
  have g48 : decide (c ≤ 57) = false := decide_eq_false (by omega)
  go_enter Try.func20, Try.ntmps20
  go_wp2
  all_goals
    go_ret
    exact ⟨rfl, rfl⟩

set_option maxHeartbeats 400000 in
theorem f20_124 (c : Int) (w : World) (h1 : 124 ≤ c) (h2 : c ≤ 124) : Calls Try.prog 20 #[.int .u8 c] w fun e w' => e = .returned (.bool true) ∧ w' = w := by
  have g97 : decide (c ≤ 122) = false := decide_eq_false (by omega)
  have g65 : decide (c ≤ 90) = false := decide_eq_false (by omega)
  have g48 : decide (c ≤ 57) = false := decide_eq_false (by omega)
  go_enter Try.func20, Try.ntmps20
  go_wp2
  all_goals
    go_ret
    exact ⟨rfl, rfl⟩

set_option maxHeartbeats 400000 in
theorem f20_125 (c : Int) (w : World) (h1 : 125 ≤ c) (h2 : c ≤ 125) : Calls Try.prog 20 #[.int .u8 c] w fun e w' => e = .returned (.bool false) ∧ w' = w := by
  have g97 : decide (c ≤ 122) = false := decide_eq_false (by omega)
  have g65 : decide (c ≤ 90) = false := decide_eq_false (by omega)
  have g48 : decide (c ≤ 57) = false := decide_eq_false (by omega)
  go_enter Try.func20, Try.ntmps20
  go_wp2
  all_goals
    go_ret
    exact ⟨rfl, rfl⟩

set_option maxHeartbeats 400000 in
theorem f20_126 (c : Int) (w : World) (h1 : 126 ≤ c) (h2 : c ≤ 126) : Calls Try.prog 20 #[.int .u8 c] w fun e w' => e = .returned (.bool true) ∧ w' = w := by
  have g97 : decide (c ≤ 122) = false := decide_eq_false (by omega)
  have g65 : decide (c ≤ 90) = false := decide_eq_false (by omega)
  have g48 : decide (c ≤ 57) = false := decide_eq_false (by omega)
  go_enter Try.func20, Try.ntmps20
  go_wp2
  all_goals
    go_ret
    exact ⟨rfl, rfl⟩

set_option maxHeartbeats 400000 in
theorem f20_127 (c : Int) (w : World) (h1 : 127 ≤ c) (h2 : c ≤ 255) : Calls Try.prog 20 #[.int .u8 c] w fun e w' => e = .returned (.bool false) ∧ w' = w := by
  have g97 : decide (c ≤ 122) = false := decide_eq_false (by omega)
  have g65 : decide (c ≤ 90) = false := decide_eq_false (by omega)
  have g48 : decide (c ≤ 57) = false := decide_eq_false (by omega)
  go_enter Try.func20, Try.ntmps20
  go_wp2
  all_goals
    go_ret
    exact ⟨rfl, rfl⟩

theorem f20_any (c : Int) (w : World) (h0 : 0 ≤ c) (h1 : c ≤ 255) : Calls Try.prog 20 #[.int .u8 c] w fun e w' => e = .returned (.bool (tokB c)) ∧ w' = w := by
  by_cases b0 : c ≤ 32
  · rw [tokB_f (by omega)]; exact f20_0 c w (by omega) b0
  by_cases b1 : c ≤ 33
  · rw [tokB_t (by omega)]; exact f20_33 c w (by omega) b1
  by_cases b2 : c ≤ 34
  · rw [tokB_f (by omega)]; exact f20_34 c w (by omega) b2
  by_cases b3 : c ≤ 39
  · rw [tokB_t (by omega)]; exact f20_35 c w (by omega) b3
  by_cases b4 : c ≤ 41
  · rw [tokB_f (by omega)]; exact f20_40 c w (by omega) b4
  by_cases b5 : c ≤ 43
  · rw [tokB_t (by omega)]; exact f20_42 c w (by omega) b5
  by_cases b6 : c ≤ 44
  · rw [tokB_f (by omega)]; exact f20_44 c w (by omega) b6
  by_cases b7 : c ≤ 46
  · rw [tokB_t (by omega)]; exact f20_45 c w (by omega) b7
  by_cases b8 : c ≤ 47
  · rw [tokB_f (by omega)]; exact f20_47 c w (by omega) b8
  by_cases b9 : c ≤ 57
  · rw [tokB_t (by omega)]; exact f20_48 c w (by omega) b9
  by_cases b10 : c ≤ 64
  · rw [tokB_f (by omega)]; exact f20_58 c w (by omega) b10
  by_cases b11 : c ≤ 90
  · rw [tokB_t (by omega)]; exact f20_65 c w (by omega) b11
  by_cases b12 : c ≤ 93
  · rw [tokB_f (by omega)]; exact f20_91 c w (by omega) b12
  by_cases b13 : c ≤ 96
  · rw [tokB_t (by omega)]; exact f20_94 c w (by omega) b13
  by_cases b14 : c ≤ 122
  · rw [tokB_t (by omega)]; exact f20_97 c w (by omega) b14
  by_cases b15 : c ≤ 123
  · rw [tokB_f (by omega)]; exact f20_123 c w (by omega) b15
  by_cases b16 : c ≤ 124
  · rw [tokB_t (by omega)]; exact f20_124 c w (by omega) b16
  by_cases b17 : c ≤ 125
  · rw [tokB_f (by omega)]; exact f20_125 c w (by omega) b17
  by_cases b18 : c ≤ 126
  · rw [tokB_t (by omega)]; exact f20_126 c w (by omega) b18
  rw [tokB_f (by omega)]; exact f20_127 c w (by omega) h1

set_option maxHeartbeats 400000 in
theorem f17_0 (c : Int) (w : World) (h1 : 0 ≤ c) (h2 : c ≤ 32) : Calls Try.prog 17 #[.int .u8 c] w fun e w' => e = .returned (.bool false) ∧ w' = w := by
  go_enter Try.func17, Try.ntmps17
  go_wp2
  all_goals
    go_ret
    exact ⟨rfl, rfl⟩

set_option maxHeartbeats 400000 in
theorem f17_33 (c : Int) (w : World) (h1 : 33 ≤ c) (h2 : c ≤ 33) : Calls Try.prog 17 #[.int .u8 c] w fun e w' => e = .returned (.bool true) ∧ w' = w := by
  go_enter Try.func17, Try.ntmps17
  go_wp2
  all_goals
    go_ret
    exact ⟨rfl, rfl⟩

set_option maxHeartbeats 400000 in
theorem f17_34 (c : Int) (w : World) (h1 : 34 ≤ c) (h2 : c ≤ 34) : Calls Try.prog 17 #[.int .u8 c] w fun e w' => e = .returned (.bool false) ∧ w' = w := by
  go_enter Try.func17, Try.ntmps17
  go_wp2
  all_goals
    go_ret
    exact ⟨rfl, rfl⟩

set_option maxHeartbeats 400000 in
theorem f17_35 (c : Int) (w : World) (h1 : 35 ≤ c) (h2 : c ≤ 39) : Calls Try.prog 17 #[.int .u8 c] w fun e w' => e = .returned (.bool true) ∧ w' = w := by
  go_enter Try.func17, Try.ntmps17
  go_wp2
  all_goals
    go_ret
    exact ⟨rfl, rfl⟩

set_option maxHeartbeats 400000 in
theorem f17_40 (c : Int) (w : World) (h1 : 40 ≤ c) (h2 : c ≤ 41) : Calls Try.prog 17 #[.int .u8 c] w fun e w' => e = .returned (.bool false) ∧ w' = w := by
  go_enter Try.func17, Try.ntmps17
  go_wp2
  all_goals
    go_ret
    exact ⟨rfl, rfl⟩

set_option maxHeartbeats 400000 in
theorem f17_42 (c : Int) (w : World) (h1 : 42 ≤ c) (h2 : c ≤ 43) : Calls Try.prog 17 #[.int .u8 c] w fun e w' => e = .returned (.bool true) ∧ w' = w := by
  go_enter Try.func17, Try.ntmps17
  go_wp2
  all_goals
    go_ret
    exact ⟨rfl, rfl⟩

set_option maxHeartbeats 400000 in
theorem f17_44 (c : Int) (w : World) (h1 : 44 ≤ c) (h2 : c ≤ 44) : Calls Try.prog 17 #[.int .u8 c] w fun e w' => e = .returned (.bool false) ∧ w' = w := by
  go_enter Try.func17, Try.ntmps17
  go_wp2
  all_goals
    go_ret
    exact ⟨rfl, rfl⟩

set_option maxHeartbeats 400000 in
theorem f17_45 (c : Int) (w : World) (h1 : 45 ≤ c) (h2 : c ≤ 46) : Calls Try.prog 17 #[.int .u8 c] w fun e w' => e = .returned (.bool true) ∧ w' = w := by
  go_enter Try.func17, Try.ntmps17
  go_wp2
  all_goals
    go_ret
    exact ⟨rfl, rfl⟩

set_option maxHeartbeats 400000 in
theorem f17_47 (c : Int) (w : World) (h1 : 47 ≤ c) (h2 : c ≤ 47) : Calls Try.prog 17 #[.int .u8 c] w fun e w' => e = .returned (.bool false) ∧ w' = w := by
  go_enter Try.func17, Try.ntmps17
  go_wp2
  all_goals
    go_ret
    exact ⟨rfl, rfl⟩

set_option maxHeartbeats 400000 in
theorem f17_48 (c : Int) (w : World) (h1 : 48 ≤ c) (h2 : c ≤ 57) : Calls Try.prog 17 #[.int .u8 c] w fun e w' => e = .returned (.bool true) ∧ w' = w := by
  go_enter Try.func17, Try.ntmps17
  go_wp2
  all_goals
    go_ret
    exact ⟨rfl, rfl⟩

set_option maxHeartbeats 400000 in
theorem f17_58 (c : Int) (w : World) (h1 : 58 ≤ c) (h2 : c ≤ 64) : Calls Try.prog 17 #[.int .u8 c] w fun e w' => e = .returned (.bool false) ∧ w' = w := by
  go_enter Try.func17, Try.ntmps17
  go_wp2
  all_goals
    go_ret
    exact ⟨rfl, rfl⟩

set_option maxHeartbeats 400000 in
theorem f17_65 (c : Int) (w : World) (h1 : 65 ≤ c) (h2 : c ≤ 90) : Calls Try.prog 17 #[.int .u8 c] w fun e w' => e = .returned (.bool true) ∧ w' = w := by
  go_enter Try.func17, Try.ntmps17
  go_wp2
  all_goals
    go_ret
    exact ⟨rfl, rfl⟩

set_option maxHeartbeats 400000 in
theorem f17_91 (c : Int) (w : World) (h1 : 91 ≤ c) (h2 : c ≤ 93) : Calls Try.prog 17 #[.int .u8 c] w fun e w' => e = .returned (.bool false) ∧ w' = w := by
  go_enter Try.func17, Try.ntmps17
  go_wp2
  all_goals
    go_ret
    exact ⟨rfl, rfl⟩

set_option maxHeartbeats 400000 in
theorem f17_94 (c : Int) (w : World) (h1 : 94 ≤ c) (h2 : c ≤ 96) : Calls Try.prog 17 #[.int .u8 c] w fun e w' => e = .returned (.bool true) ∧ w' = w := by
  go_enter Try.func17, Try.ntmps17
  go_wp2
  all_goals
    go_ret
    exact ⟨rfl, rfl⟩

set_option maxHeartbeats 400000 in
theorem f17_97 (c : Int) (w : World) (h1 : 97 ≤ c) (h2 : c ≤ 122) : Calls Try.prog 17 #[.int .u8 c] w fun e w' => e = .returned (.bool true) ∧ w' = w := by
  go_enter Try.func17, Try.ntmps17
  go_wp2
  all_goals
    go_ret
    exact ⟨rfl, rfl⟩

set_option maxHeartbeats 400000 in
theorem f17_123 (c : Int) (w : World) (h1 : 123 ≤ c) (h2 : c ≤ 123) : Calls Try.prog 17 #[.int .u8 c] w fun e w' => e = .returned (.bool false) ∧ w' = w := by
  go_enter Try.func17, Try.ntmps17
  go_wp2
  all_goals
    go_ret
    exact ⟨rfl, rfl⟩

set_option maxHeartbeats 400000 in
theorem f17_124 (c : Int) (w : World) (h1 : 124 ≤ c) (h2 : c ≤ 124) : Calls Try.prog 17 #[.int .u8 c] w fun e w' => e = .returned (.bool true) ∧ w' = w := by
  go_enter Try.func17, Try.ntmps17
  go_wp2
  all_goals
    go_ret
    exact ⟨rfl, rfl⟩

set_option maxHeartbeats 400000 in
theorem f17_125 (c : Int) (w : World) (h1 : 125 ≤ c) (h2 : c ≤ 125) : Calls Try.prog 17 #[.int .u8 c] w fun e w' => e = .returned (.bool false) ∧ w' = w := by
  go_enter Try.func17, Try.ntmps17
  go_wp2
  all_goals
    go_ret
    exact ⟨rfl, rfl⟩

set_option maxHeartbeats 400000 in
theorem f17_126 (c : Int) (w : World) (h1 : 126 ≤ c) (h2 : c ≤ 126) : Calls Try.prog 17 #[.int .u8 c] w fun e w' => e = .returned (.bool true) ∧ w' = w := by
  go_enter Try.func17, Try.ntmps17
  go_wp2
  all_goals
    go_ret
    exact ⟨rfl, rfl⟩

set_option maxHeartbeats 400000 in
theorem f17_127 (c : Int) (w : World) (h1 : 127 ≤ c) (h2 : c ≤ 255) : Calls Try.prog 17 #[.int .u8 c] w fun e w' => e = .returned (.bool false) ∧ w' = w := by
  go_enter Try.func17, Try.ntmps17
  go_wp2
  all_goals
    go_ret
    exact ⟨rfl, rfl⟩

theorem f17_any (c : Int) (w : World) (h0 : 0 ≤ c) (h1 : c ≤ 255) : Calls Try.prog 17 #[.int .u8 c] w fun e w' => e = .returned (.bool (tokB c)) ∧ w' = w := by
  by_cases b0 : c ≤ 32
  · rw [tokB_f (by omega)]; exact f17_0 c w (by omega) b0
  by_cases b1 : c ≤ 33
  · rw [tokB_t (by omega)]; exact f17_33 c w (by omega) b1
  by_cases b2 : c ≤ 34
  · rw [tokB_f (by omega)]; exact f17_34 c w (by omega) b2
  by_cases b3 : c ≤ 39
  · rw [tokB_t (by omega)]; exact f17_35 c w (by omega) b3
  by_cases b4 : c ≤ 41
  · rw [tokB_f (by omega)]; exact f17_40 c w (by omega) b4
  by_cases b5 : c ≤ 43
  · rw [tokB_t (by omega)]; exact f17_42 c w (by omega) b5
  by_cases b6 : c ≤ 44
  · rw [tokB_f (by omega)]; exact f17_44 c w (by omega) b6
  by_cases b7 : c ≤ 46
  · rw [tokB_t (by omega)]; exact f17_45 c w (by omega) b7
  by_cases b8 : c ≤ 47
  · rw [tokB_f (by omega)]; exact f17_47 c w (by omega) b8
  by_cases b9 : c ≤ 57
  · rw [tokB_t (by omega)]; exact f17_48 c w (by omega) b9
  by_cases b10 : c ≤ 64
  · rw [tokB_f (by omega)]; exact f17_58 c w (by omega) b10
  by_cases b11 : c ≤ 90
  · rw [tokB_t (by omega)]; exact f17_65 c w (by omega) b11
  by_cases b12 : c ≤ 93
  · rw [tokB_f (by omega)]; exact f17_91 c w (by omega) b12
  by_cases b13 : c ≤ 96
  · rw [tokB_t (by omega)]; exact f17_94 c w (by omega) b13
  by_cases b14 : c ≤ 122
  · rw [tokB_t (by omega)]; exact f17_97 c w (by omega) b14
  by_cases b15 : c ≤ 123
  · rw [tokB_f (by omega)]; exact f17_123 c w (by omega) b15
  by_cases b16 : c ≤ 124
  · rw [tokB_t (by omega)]; exact f17_124 c w (by omega) b16
  by_cases b17 : c ≤ 125
  · rw [tokB_f (by omega)]; exact f17_125 c w (by omega) b17
  by_cases b18 : c ≤ 126
  · rw [tokB_t (by omega)]; exact f17_126 c w (by omega) b18
  rw [tokB_f (by omega)]; exact f17_127 c w (by omega) h1

theorem zztok_any (c : Int) (w : World) (h0 : 0 ≤ c) (h1 : c ≤ 255) : Calls Try.prog 16 #[.int .u8 c] w fun e w' => e = .returned (.bool (tokB c)) ∧ w' = w := by
  have H := f20_any c w h0 h1
  go_enter Try.func16, Try.ntmps16
  go_wp2_with (go_at_call 20; refine H.mono ?_; rintro e w' ⟨rfl, rfl⟩)
  go_ret
  exact ⟨rfl, rfl⟩

theorem law_tok (c : Int) (w : World) (h0 : 0 ≤ c) (h1 : c ≤ 255) : Calls Try.prog 6 #[.int .u8 c] w fun e w' => e = .returned (.bool true) ∧ w' = w := by
  have H := fun wx => zztok_any c wx h0 h1
  have K := fun wx => f17_any c wx h0 h1
  obtain ⟨t, ht⟩ : ∃ t, tokB c = t := ⟨_, rfl⟩
  rw [ht] at H K
  clear ht
  cases t
  all_goals
    go_enter Try.func6, Try.ntmps6
    go_wp2_with (first | (go_at_call 16; refine (H _).mono ?_; rintro e w' ⟨rfl, rfl⟩) | (go_at_call 17; refine (K _).mono ?_; rintro e w' ⟨rfl, rfl⟩))
    go_ret
    exact ⟨rfl, rfl⟩
end Go.Proofs.Qxb6600046a
