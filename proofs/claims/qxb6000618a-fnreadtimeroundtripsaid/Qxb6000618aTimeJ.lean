import Derived.Test.Qxb6000618aTimeH
import Derived.Test.Qxb6000618aModelWalk
namespace Go.Proofs.Qxb6000618a
open Go.RowKit
set_option linter.unusedVariables false

set_option maxRecDepth 100000 in
set_option maxHeartbeats 2000000 in
theorem law2 (h m s n : Int) (R : ByteArray) (w : World) (hR : R.size ≤ 1048576) (h0 : 0 ≤ h) (h1 : h ≤ 23) (m0 : 0 ≤ m) (m1 : m ≤ 59) (s0 : 0 ≤ s) (s1 : s ≤ 59) (n0 : 0 ≤ n) (n1 : n ≤ 999999999) :
    Calls Try.prog 8 #[.int .i64 h, .int .i64 m, .int .i64 s, .int .i64 n, .int .i64 2, .string R] w fun e w' => e = .returned (.bool true) ∧ Below w.heap.size w w' := by
  obtain ⟨P, sP, bP, cP⟩ := two_named h h0 (by omega)
  obtain ⟨Q, sQ, bQ, cQ⟩ := two_named m m0 (by omega)
  obtain ⟨S, sS, bS, cS⟩ := two_named s s0 (by omega)
  obtain ⟨N, sN, bN, cN⟩ := nine_named n n0 n1
  have HR : Hid ((∀ e0 : 0 < R.size, Run.dig ((R[0].toNat : Nat) : Int) = false) → ∀ wx, Calls Try.prog 24 #[.string (P ++ (⟨#[58]⟩ : ByteArray) ++ Q ++ (⟨#[58]⟩ : ByteArray) ++ S ++ (⟨#[46]⟩ : ByteArray) ++ N ++ R)] wx fun e w' => e = .returned (.tuple #[.int .i64 h, .int .i64 m, .int .i64 s, .int .i64 n, .string R, .bool true]) ∧ Below wx.heap.size wx w') :=
    fun hne wx => rt2 P _ Q _ S _ N R h m s n wx h0 h1 m0 m1 s0 s1 n0 n1 hR (bytes_one 58) (bytes_one 58) (bytes_one 46) bP bQ bS bN hne
  clear bP bQ bS bN
  by_cases hr : 0 < R.size
  · obtain ⟨x, ex⟩ : ∃ x, ((R[0].toNat : Nat) : Int) = x := ⟨_, rfl⟩
    have HD := fun wx => zisd_any x wx
    cases hx : Run.dig x with
    | true =>
      rw [hx] at HD
      clear hx HR
      go_enter Try.func8, Try.ntmps8
      go_wp2_with (first | (go_at_call 20; go_in) | (go_at_call_of 21 (Value.int IntKind.i64 h); refine (cP _).mono ?_; rintro e w1 ⟨rfl, b1⟩) | (go_at_call_of 21 (Value.int IntKind.i64 m); refine (cQ _).mono ?_; rintro e w2 ⟨rfl, b2⟩) | (go_at_call 22; refine (HD _).mono ?_; rintro e w8 ⟨rfl, hw8⟩; obtain rfl := hw8.symm))
      go_ret
      exact ⟨rfl, b1.trans (b2.mono b1.size)⟩
    | false =>
      have HT := HR.out (fun _ => by rw [ex]; exact hx)
      rw [hx] at HD
      clear hx HR
      go_enter Try.func8, Try.ntmps8
      go_wp2_with (first | (go_at_call 20; go_in) | (go_at_call_of 21 (Value.int IntKind.i64 h); refine (cP _).mono ?_; rintro e w1 ⟨rfl, b1⟩) | (go_at_call_of 21 (Value.int IntKind.i64 m); refine (cQ _).mono ?_; rintro e w2 ⟨rfl, b2⟩) | (go_at_call 22; refine (HD _).mono ?_; rintro e w8 ⟨rfl, hw8⟩; obtain rfl := hw8.symm) | (go_at_call_of 21 (Value.int IntKind.i64 s); refine (cS _).mono ?_; rintro e w3 ⟨rfl, b3⟩) | (go_at_call 23; refine (cN _).mono ?_; rintro e w4 ⟨rfl, b4⟩) | (go_at_call 24; refine (HT _).mono ?_; rintro e w9 ⟨rfl, b9⟩))
      go_ret
      exact ⟨rfl, (((b1.trans (b2.mono b1.size)).trans (b3.mono (Nat.le_trans b1.size b2.size))).trans (b4.mono (Nat.le_trans (Nat.le_trans b1.size b2.size) b3.size))).trans (b9.mono (Nat.le_trans (Nat.le_trans (Nat.le_trans b1.size b2.size) b3.size) b4.size))⟩
  · have HT := HR.out (fun e0 => absurd e0 hr)
    have t : decide ((0 : Int) < (R.size : Int)) = false := decide_eq_false (by omega)
    clear HR
    go_enter Try.func8, Try.ntmps8
    go_wp2_with (first | (go_at_call 20; go_in) | (go_at_call_of 21 (Value.int IntKind.i64 h); refine (cP _).mono ?_; rintro e w1 ⟨rfl, b1⟩) | (go_at_call_of 21 (Value.int IntKind.i64 m); refine (cQ _).mono ?_; rintro e w2 ⟨rfl, b2⟩) | (go_at_call_of 21 (Value.int IntKind.i64 s); refine (cS _).mono ?_; rintro e w3 ⟨rfl, b3⟩) | (go_at_call 23; refine (cN _).mono ?_; rintro e w4 ⟨rfl, b4⟩) | (go_at_call 24; refine (HT _).mono ?_; rintro e w9 ⟨rfl, b9⟩))
    go_ret
    exact ⟨rfl, (((b1.trans (b2.mono b1.size)).trans (b3.mono (Nat.le_trans b1.size b2.size))).trans (b4.mono (Nat.le_trans (Nat.le_trans b1.size b2.size) b3.size))).trans (b9.mono (Nat.le_trans (Nat.le_trans (Nat.le_trans b1.size b2.size) b3.size) b4.size))⟩
end Go.Proofs.Qxb6000618a
