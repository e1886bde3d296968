import Derived.Test.Qxb6000076aUnit
namespace Go.Proofs.Qxb6000076a
open Go.RowKit
set_option linter.unusedVariables false

theorem low_hex (k : Nat) (h : k < 16) : HexV ((((⟨#[48, 49, 50, 51, 52, 53, 54, 55, 56, 57, 97, 98, 99, 100, 101, 102]⟩ : ByteArray)[k]'h).toNat : Nat) : Int) k := by
  have H : ∀ j : Fin 16, HexV ((((⟨#[48, 49, 50, 51, 52, 53, 54, 55, 56, 57, 97, 98, 99, 100, 101, 102]⟩ : ByteArray)[j.val]'j.isLt).toNat : Nat) : Int) j.val := by
    unfold HexV; decide
  exact H ⟨k, h⟩

theorem up_hex (k : Nat) (h : k < 16) : HexV ((((⟨#[48, 49, 50, 51, 52, 53, 54, 55, 56, 57, 65, 66, 67, 68, 69, 70]⟩ : ByteArray)[k]'h).toNat : Nat) : Int) k := by
  have H : ∀ j : Fin 16, HexV ((((⟨#[48, 49, 50, 51, 52, 53, 54, 55, 56, 57, 65, 66, 67, 68, 69, 70]⟩ : ByteArray)[j.val]'j.isLt).toNat : Nat) : Int) j.val := by
    unfold HexV; decide
  exact H ⟨k, h⟩

def DigitPost (c : Int) (w : World) (e : Ending) (w' : World) : Prop :=
  w' = w ∧ ((e = .returned (.tuple #[.int .i64 0, .bool false])) ∨ ∃ d, e = .returned (.tuple #[.int .i64 d, .bool true]) ∧ HexV c d)

set_option maxHeartbeats 400000 in
theorem digit_any (c : Int) (h0 : 0 ≤ c) (h1 : c ≤ 255) (w : World) :
    Calls Try.prog 9 #[.int .u8 c] w (DigitPost c w) := by
  go_enter Try.func9, Try.ntmps9
  go_wp2
  go_loop [4] (fun i => ∃ k : Nat, k ≤ 16 ∧ i = .int .i64 k) (fun i => 16 - (intOf i).toNat)
  case atStart => exact ⟨0, Nat.zero_le _, rfl⟩
  case round =>
    obtain ⟨k, hk, rfl⟩ := hrel
    by_cases hlt : k < 16
    · have hl := low_hex k hlt
      have hu := up_hex k hlt
      go_wp2
      · rename_i h _
        rw [h] at hl
        go_ret2
        exact ⟨rfl, .inr ⟨k, rfl, hl⟩⟩
      · rename_i h' h _
        have e := h.resolve_left (by simpa using h')
        rw [eq_of_beq e] at hu
        go_ret2
        exact ⟨rfl, .inr ⟨k, rfl, hu⟩⟩
      · go_round
        case rel => exact ⟨k + 1, by omega, by go_num⟩
        case measure => simp [intOf]; omega
    · go_wp2
      go_ret2
      exact ⟨rfl, .inl rfl⟩
end Go.Proofs.Qxb6000076a
