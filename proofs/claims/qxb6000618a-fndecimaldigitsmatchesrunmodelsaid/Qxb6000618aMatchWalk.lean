import Derived.Test.Qxb6000618aModelWalk
namespace Go.Proofs.Qxb6000618a
open Go.RowKit
set_option linter.unusedVariables false

theorem match_big (s : ByteArray) (i : Int) (w : World) (hs : s.size ≤ 9223372036854775807) (h : 1048576 < s.size) :
    Calls Try.prog 3 #[.string s, .int .i64 i] w fun e w' => e = .returned (.bool true) ∧ w' = w := by
  go_enter Try.func3, Try.ntmps3
  go_wp2
  go_ret
  exact ⟨rfl, rfl⟩

theorem match_out (s : ByteArray) (i : Int) (w : World) (hs : s.size ≤ 1048576) (h : i < 0 ∨ (s.size : Int) < i) :
    Calls Try.prog 3 #[.string s, .int .i64 i] w fun e w' => e = .returned (.bool true) ∧ w' = w := by
  rcases h with h | h
  · go_enter Try.func3, Try.ntmps3
    go_wp2
    go_ret
    exact ⟨rfl, rfl⟩
  · have h0 : ¬ i < 0 := by omega
    go_enter Try.func3, Try.ntmps3
    go_wp2
    go_ret
    exact ⟨rfl, rfl⟩

set_option maxHeartbeats 400000 in
theorem match_in (s : ByteArray) (i : Nat) (w : World) (hs : s.size ≤ 1048576) (h : i ≤ s.size) :
    Calls Try.prog 3 #[.string s, .int .i64 i] w fun e w' => e = .returned (.bool true) ∧ w' = w := by
  have H1 := fun wx => zzdd_any s i wx (by omega) h
  have H2 := fun wx => model_any s i wx (by omega) h
  obtain ⟨r, hr⟩ : ∃ r, Run.at_ (bytes s) i = r := ⟨_, rfl⟩
  rw [hr] at H1 H2
  clear hr
  go_enter Try.func3, Try.ntmps3
  go_wp2_with (first | (go_at_call 10; go_in) | (go_at_call 11; refine (H1 _).mono ?_; rintro e w' ⟨rfl, rfl⟩) | (go_at_call 12; refine (H2 _).mono ?_; rintro e w' ⟨rfl, rfl⟩))
  go_ret
  exact ⟨rfl, rfl⟩
end Go.Proofs.Qxb6000618a
