import Derived.Test.Qxb6000618aDigits
import Derived.Laws.BytesArg
import Derived.Laws.IdiomStrings
namespace Go.Proofs.Qxb6000618a
open Go.RowKit
set_option linter.unusedVariables false

theorem two_conv (w : World) (a b : Int) : (convert 32 9 (.slice (some ⟨w.heap.size, 0, none⟩) 2 2)).run Try.prog (w.alloc (.cells #[.int .u8 a, .int .u8 b] 5)) = .ok (.string (strOfNums [a, b])) (w.alloc (.cells #[.int .u8 a, .int .u8 b] 5)) := by
  refine run_convert_bytes_arg (P := Try.prog) _ 32 5 Try.underlying32 Try.underlying5 w.heap.size 0 2 2 [a, b] rfl (fun i hi => ?_) 9 Try.underlying9
  rw [World.cell?_alloc_new]
  match i, hi with
  | 0, _ => rfl
  | 1, _ => rfl

set_option maxHeartbeats 400000 in
theorem two_any (n : Int) (w : World) (h0 : 0 ≤ n) (h1 : n ≤ 99) :
    Calls Try.prog 21 #[.int .i64 n] w fun e w' => e = .returned (.string (strOfNums [48 + n / 10, 48 + n % 10])) ∧ Below w.heap.size w w' := by
  have hc := fun a b => two_conv w a b
  go_enter Try.func21, Try.ntmps21
  go_wp2
  go_ret
  exact ⟨rfl, (Below.refl _ _).alloc (Nat.le_refl _) _⟩

theorem nine_make (w : World) : (Instr.makeSlice 32 (.int .i64 9) (.int .i64 9)).run Try.prog w = .ok (.slice (some ⟨w.heap.size, 0, none⟩) 9 9) (w.alloc (.cells #[.int .u8 0, .int .u8 0, .int .u8 0, .int .u8 0, .int .u8 0, .int .u8 0, .int .u8 0, .int .u8 0, .int .u8 0] 5)) := by kernel_rfl

/-- the nine digits of a number below 10^9, as the loop reckons them -/
def nine (n : Int) : List Int := [48 + n / 10 / 10 / 10 / 10 / 10 / 10 / 10 / 10 % 10, 48 + n / 10 / 10 / 10 / 10 / 10 / 10 / 10 % 10, 48 + n / 10 / 10 / 10 / 10 / 10 / 10 % 10, 48 + n / 10 / 10 / 10 / 10 / 10 % 10, 48 + n / 10 / 10 / 10 / 10 % 10, 48 + n / 10 / 10 / 10 % 10, 48 + n / 10 / 10 % 10, 48 + n / 10 % 10, 48 + n % 10]

theorem nine_conv (w : World) (a b c d e f g h i : Int) : (convert 32 9 (.slice (some ⟨w.heap.size, 0, none⟩) 9 9)).run Try.prog (w.alloc (.cells #[.int .u8 a, .int .u8 b, .int .u8 c, .int .u8 d, .int .u8 e, .int .u8 f, .int .u8 g, .int .u8 h, .int .u8 i] 5)) =
    .ok (.string (strOfNums [a, b, c, d, e, f, g, h, i])) (w.alloc (.cells #[.int .u8 a, .int .u8 b, .int .u8 c, .int .u8 d, .int .u8 e, .int .u8 f, .int .u8 g, .int .u8 h, .int .u8 i] 5)) := by
  refine run_convert_bytes_arg (P := Try.prog) _ 32 5 Try.underlying32 Try.underlying5 w.heap.size 0 9 9 [a, b, c, d, e, f, g, h, i] rfl (fun j hj => ?_) 9 Try.underlying9
  rw [World.cell?_alloc_new]
  match j, hj with
  | 0, _ => rfl
  | 1, _ => rfl
  | 2, _ => rfl
  | 3, _ => rfl
  | 4, _ => rfl
  | 5, _ => rfl
  | 6, _ => rfl
  | 7, _ => rfl
  | 8, _ => rfl

set_option maxHeartbeats 2000000 in
theorem nine_any (n : Int) (w : World) (h0 : 0 ≤ n) (h1 : n ≤ 999999999) :
    Calls Try.prog 23 #[.int .i64 n] w fun e w' => e = .returned (.string (strOfNums (nine n))) ∧ Below w.heap.size w w' := by
  have hm := fun wx => nine_make wx
  have hc := fun a b c d e f g h i => nine_conv w a b c d e f g h i
  go_enter Try.func23, Try.ntmps23
  go_wp2
  refine wp_loop_rounds 10 ?_
  iterate 9
    rw [rounds_succ]
    go_wp2
  rw [rounds_succ]
  go_wp2
  go_ret
  exact ⟨rfl, (Below.refl _ _).alloc (Nat.le_refl _) _⟩
end Go.Proofs.Qxb6000618a
