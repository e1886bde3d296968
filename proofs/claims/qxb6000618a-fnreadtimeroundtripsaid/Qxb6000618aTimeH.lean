import Derived.Test.Qxb6000618aTimeF
namespace Go.Proofs.Qxb6000618a
open Go.RowKit
set_option linter.unusedVariables false

/-- zzTwo, its string by a name of its own -/
theorem two_named (n : Int) (h0 : 0 ≤ n) (h1 : n ≤ 99) : ∃ P : ByteArray, P.size = 2 ∧ bytes P = [48 + n / 10, 48 + n % 10] ∧
    ∀ w, Calls Try.prog 21 #[.int .i64 n] w fun e w' => e = .returned (.string P) ∧ Below w.heap.size w w' :=
  ⟨strOfNums [48 + n / 10, 48 + n % 10], by rw [strOfNums_size]; rfl, bytes_nums _ (by
    intro x hx
    simp at hx
    omega), fun w => two_any n w h0 h1⟩

theorem nine_named (n : Int) (h0 : 0 ≤ n) (h1 : n ≤ 999999999) : ∃ P : ByteArray, P.size = 9 ∧ bytes P = nine n ∧
    ∀ w, Calls Try.prog 23 #[.int .i64 n] w fun e w' => e = .returned (.string P) ∧ Below w.heap.size w w' :=
  ⟨strOfNums (nine n), by rw [strOfNums_size]; rfl, bytes_nums _ (by
    intro x hx
    obtain ⟨k, hk⟩ := List.getElem?_of_mem hx
    have hl : k < 9 := (List.getElem?_eq_some_iff.1 hk).1
    have := nine_dig n k hl
    rw [hk] at this
    simp at this
    omega), fun w => nine_any n w h0 h1⟩

set_option maxRecDepth 100000 in
set_option maxHeartbeats 2000000 in
theorem law0 (h m s n : Int) (R : ByteArray) (w : World) (hR : R.size ≤ 1048576) (h0 : 0 ≤ h) (h1 : h ≤ 23) (m0 : 0 ≤ m) (m1 : m ≤ 59) (s0 : 0 ≤ s) (s1 : s ≤ 59) (n0 : 0 ≤ n) (n1 : n ≤ 999999999) :
    Calls Try.prog 8 #[.int .i64 h, .int .i64 m, .int .i64 s, .int .i64 n, .int .i64 0, .string R] w fun e w' => e = .returned (.bool true) ∧ Below w.heap.size w w' := by
  obtain ⟨P, sP, bP, cP⟩ := two_named h h0 (by omega)
  obtain ⟨Q, sQ, bQ, cQ⟩ := two_named m m0 (by omega)
  have HR : Hid ((∀ e0 : 0 < R.size, ¬ ((R[0].toNat : Nat) : Int) = 58) → ∀ wx, Calls Try.prog 24 #[.string (P ++ ⟨#[58]⟩ ++ Q ++ R)] wx fun e w' => e = .returned (.tuple #[.int .i64 h, .int .i64 m, .int .i64 0, .int .i64 0, .string R, .bool true]) ∧ Below wx.heap.size wx w') :=
    fun hne wx => rt0 P _ Q R h m wx h0 h1 m0 m1 hR (bytes_one 58) bP bQ hne
  clear bP bQ
  by_cases hr : 0 < R.size
  · obtain ⟨x, ex⟩ : ∃ x, ((R[0].toNat : Nat) : Int) = x := ⟨_, rfl⟩
    by_cases h58 : x = 58
    · have t : (x == 58) = true := by simpa using h58
      clear h58 HR
      go_enter Try.func8, Try.ntmps8
      go_wp2_with (first | (go_at_call 20; go_in) | (go_at_call_of 21 (Value.int IntKind.i64 h); refine (cP _).mono ?_; rintro e w1 ⟨rfl, b1⟩) | (go_at_call_of 21 (Value.int IntKind.i64 m); refine (cQ _).mono ?_; rintro e w2 ⟨rfl, b2⟩))
      go_ret
      exact ⟨rfl, b1.trans (b2.mono b1.size)⟩
    · have HT := HR.out (fun _ => by rw [ex]; exact h58)
      have t : (x == 58) = false := by simpa using h58
      clear h58 HR
      go_enter Try.func8, Try.ntmps8
      go_wp2_with (first | (go_at_call 20; go_in) | (go_at_call_of 21 (Value.int IntKind.i64 h); refine (cP _).mono ?_; rintro e w1 ⟨rfl, b1⟩) | (go_at_call_of 21 (Value.int IntKind.i64 m); refine (cQ _).mono ?_; rintro e w2 ⟨rfl, b2⟩) | (go_at_call 24; refine (HT _).mono ?_; rintro e w3 ⟨rfl, b3⟩))
      go_ret
      exact ⟨rfl, (b1.trans (b2.mono b1.size)).trans (b3.mono (Nat.le_trans b1.size b2.size))⟩
  · have HT := HR.out (fun e0 => absurd e0 hr)
    have t : decide ((0 : Int) < (R.size : Int)) = false := decide_eq_false (by omega)
    clear HR
    go_enter Try.func8, Try.ntmps8
    go_wp2_with (first | (go_at_call 20; go_in) | (go_at_call_of 21 (Value.int IntKind.i64 h); refine (cP _).mono ?_; rintro e w1 ⟨rfl, b1⟩) | (go_at_call_of 21 (Value.int IntKind.i64 m); refine (cQ _).mono ?_; rintro e w2 ⟨rfl, b2⟩) | (go_at_call 24; refine (HT _).mono ?_; rintro e w3 ⟨rfl, b3⟩))
    go_ret
    exact ⟨rfl, (b1.trans (b2.mono b1.size)).trans (b3.mono (Nat.le_trans b1.size b2.size))⟩
end Go.Proofs.Qxb6000618a
