import Derived.Test.Qxb6000618aDigits
namespace Go.Proofs.Qxb6000618a
open Go.RowKit
set_option linter.unusedVariables false

theorem bytes_append (a b : ByteArray) : bytes (a ++ b) = bytes a ++ bytes b := by
  simp [bytes, ByteArray.data_append]

/-- sizes beyond the bound: the law does not look -/
theorem shift_big (p s : ByteArray) (i : Int) (w : World) (hp : p.size ≤ 9223372036854775807) (hs : s.size ≤ 9223372036854775807) (h : 1048576 < p.size ∨ 1048576 < s.size ∨ 1048576 < p.size + s.size) :
    Calls Try.prog 4 #[.string p, .string s, .int .i64 i] w fun e w' => e = .returned (.bool true) ∧ w' = w := by
  by_cases h1 : 1048576 < p.size
  · go_enter Try.func4, Try.ntmps4
    go_wp2
    go_ret
    exact ⟨rfl, rfl⟩
  · by_cases h2 : 1048576 < s.size
    · go_enter Try.func4, Try.ntmps4
      go_wp2
      go_ret
      exact ⟨rfl, rfl⟩
    · have h3 : 1048576 < p.size + s.size := by omega
      go_enter Try.func4, Try.ntmps4
      go_wp2
      go_ret
      exact ⟨rfl, rfl⟩

theorem shift_out (p s : ByteArray) (i : Int) (w : World) (hp : p.size + s.size ≤ 1048576) (h : i < 0 ∨ (s.size : Int) < i) :
    Calls Try.prog 4 #[.string p, .string s, .int .i64 i] w fun e w' => e = .returned (.bool true) ∧ w' = w := by
  rcases h with h | h
  · go_enter Try.func4, Try.ntmps4
    go_wp2
    go_ret
    exact ⟨rfl, rfl⟩
  · have h0 : ¬ i < 0 := by omega
    go_enter Try.func4, Try.ntmps4
    go_wp2
    go_ret
    exact ⟨rfl, rfl⟩

set_option maxHeartbeats 400000 in
theorem shift_in (p s : ByteArray) (i : Nat) (w : World) (hp : p.size + s.size ≤ 1048576) (h : i ≤ s.size) :
    Calls Try.prog 4 #[.string p, .string s, .int .i64 i] w fun e w' => e = .returned (.bool true) ∧ w' = w := by
  have H1 := fun wx => zzdd_any s i wx (by omega) h
  have H2 := fun wx => zzdd_any (p ++ s) (i + p.size) wx (by rw [ByteArray.size_append]; omega) (by rw [ByteArray.size_append]; omega)
  have hsh := Run.shift (bytes p) (bytes s) i
  rw [bytes_length] at hsh
  rw [bytes_append, hsh] at H2
  have hbd := Run.at_bd (bytes s) i (by rw [bytes_length]; exact h)
  rw [bytes_length] at hbd
  obtain ⟨r, hr⟩ : ∃ r, Run.at_ (bytes s) i = r := ⟨_, rfl⟩
  rw [hr] at H1 H2 hbd
  clear hsh hr
  obtain ⟨hb1, hb2⟩ := hbd
  have e : ((i + p.size : Nat) : Int) = (i : Int) + (p.size : Int) := by omega
  rw [e] at H2
  clear e
  by_cases hneg : r < 0
  · rw [if_pos hneg] at H2
    go_enter Try.func4, Try.ntmps4
    go_wp2_with (first | (go_at_call 13; go_in) | (go_at_call_of 11 (Value.string s); refine (H1 _).mono ?_; rintro e w' ⟨rfl, rfl⟩) | (go_at_call_of 11 (Value.string (p ++ s)); refine (H2 _).mono ?_; rintro e w' ⟨rfl, rfl⟩))
    go_ret
    exact ⟨rfl, rfl⟩
  · rw [if_neg hneg] at H2
    go_enter Try.func4, Try.ntmps4
    go_wp2_with (first | (go_at_call 13; go_in) | (go_at_call_of 11 (Value.string s); refine (H1 _).mono ?_; rintro e w' ⟨rfl, rfl⟩) | (go_at_call_of 11 (Value.string (p ++ s)); refine (H2 _).mono ?_; rintro e w' ⟨rfl, rfl⟩))
    go_ret
    exact ⟨rfl, rfl⟩
end Go.Proofs.Qxb6000618a
