import Derived.Test.Qxb6000618aTimeH
namespace Go.Proofs.Qxb6000618a
open Go.RowKit
set_option linter.unusedVariables false

set_option maxRecDepth 100000 in
set_option maxHeartbeats 2000000 in
theorem law1 (h m s n : Int) (R : ByteArray) (w : World) (hR : R.size ≤ 1048576) (h0 : 0 ≤ h) (h1 : h ≤ 23) (m0 : 0 ≤ m) (m1 : m ≤ 59) (s0 : 0 ≤ s) (s1 : s ≤ 59) (n0 : 0 ≤ n) (n1 : n ≤ 999999999) :
    Calls Try.prog 8 #[.int .i64 h, .int .i64 m, .int .i64 s, .int .i64 n, .int .i64 1, .string R] w fun e w' => e = .returned (.bool true) ∧ Below w.heap.size w w' := by
  obtain ⟨P, sP, bP, cP⟩ := two_named h h0 (by omega)
  obtain ⟨Q, sQ, bQ, cQ⟩ := two_named m m0 (by omega)
  obtain ⟨S, sS, bS, cS⟩ := two_named s s0 (by omega)
  have HR : Hid ((∀ e0 : 0 < R.size, ¬ ((R[0].toNat : Nat) : Int) = 46) → ∀ wx, Calls Try.prog 24 #[.string (P ++ (⟨#[58]⟩ : ByteArray) ++ Q ++ (⟨#[58]⟩ : ByteArray) ++ S ++ R)] wx fun e w' => e = .returned (.tuple #[.int .i64 h, .int .i64 m, .int .i64 s, .int .i64 0, .string R, .bool true]) ∧ Below wx.heap.size wx w') :=
    fun hne wx => rt1 P _ Q _ S R h m s wx h0 h1 m0 m1 s0 s1 hR (bytes_one 58) (bytes_one 58) bP bQ bS hne
  clear bP bQ bS
  by_cases hr : 0 < R.size
  · obtain ⟨x, ex⟩ : ∃ x, ((R[0].toNat : Nat) : Int) = x := ⟨_, rfl⟩
    by_cases h46 : x = 46
    · have t : (x == 46) = true := by simpa using h46
      clear h46 HR
      go_enter Try.func8, Try.ntmps8
      go_wp2_with (first | (go_at_call 20; go_in) | (go_at_call_of 21 (Value.int IntKind.i64 h); refine (cP _).mono ?_; rintro e w1 ⟨rfl, b1⟩) | (go_at_call_of 21 (Value.int IntKind.i64 m); refine (cQ _).mono ?_; rintro e w2 ⟨rfl, b2⟩))
      go_ret
      exact ⟨rfl, b1.trans (b2.mono b1.size)⟩
    · have HT := HR.out (fun _ => by rw [ex]; exact h46)
      have t : (x == 46) = false := by simpa using h46
      clear h46 HR
      go_enter Try.func8, Try.ntmps8
      go_wp2_with (first | (go_at_call 20; go_in) | (go_at_call_of 21 (Value.int IntKind.i64 h); refine (cP _).mono ?_; rintro e w1 ⟨rfl, b1⟩) | (go_at_call_of 21 (Value.int IntKind.i64 m); refine (cQ _).mono ?_; rintro e w2 ⟨rfl, b2⟩) | (go_at_call_of 21 (Value.int IntKind.i64 s); refine (cS _).mono ?_; rintro e w3 ⟨rfl, b3⟩) | (go_at_call 24; refine (HT _).mono ?_; rintro e w9 ⟨rfl, b9⟩))
      go_ret
      exact ⟨rfl, ((b1.trans (b2.mono b1.size)).trans (b3.mono (Nat.le_trans b1.size b2.size))).trans (b9.mono (Nat.le_trans (Nat.le_trans b1.size b2.size) b3.size))⟩
  · have HT := HR.out (fun e0 => absurd e0 hr)
    have t : decide ((0 : Int) < (R.size : Int)) = false := decide_eq_false (by omega)
    clear HR
    go_enter Try.func8, Try.ntmps8
    go_wp2_with (first | (go_at_call 20; go_in) | (go_at_call_of 21 (Value.int IntKind.i64 h); refine (cP _).mono ?_; rintro e w1 ⟨rfl, b1⟩) | (go_at_call_of 21 (Value.int IntKind.i64 m); refine (cQ _).mono ?_; rintro e w2 ⟨rfl, b2⟩) | (go_at_call_of 21 (Value.int IntKind.i64 s); refine (cS _).mono ?_; rintro e w3 ⟨rfl, b3⟩) | (go_at_call 24; refine (HT _).mono ?_; rintro e w9 ⟨rfl, b9⟩))
    go_ret
    exact ⟨rfl, ((b1.trans (b2.mono b1.size)).trans (b3.mono (Nat.le_trans b1.size b2.size))).trans (b9.mono (Nat.le_trans (Nat.le_trans b1.size b2.size) b3.size))⟩
end Go.Proofs.Qxb6000618a
