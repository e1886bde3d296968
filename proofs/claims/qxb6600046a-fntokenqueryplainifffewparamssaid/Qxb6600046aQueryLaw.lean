import Derived.Test.Qxb6600046aQuery
namespace Go.Proofs.Qxb6600046a
open Go.RowKit
set_option linter.unusedVariables false

theorem query_big (s : ByteArray) (w : World) (hs : s.size ≤ 9223372036854775807) (h : 1048576 < s.size) :
    Calls Try.prog 7 #[.string s] w fun e w' => e = .returned (.bool true) ∧ w' = w := by
  go_enter Try.func7, Try.ntmps7
  go_wp2
  go_ret
  exact ⟨rfl, rfl⟩

theorem zzbytes_in (s : ByteArray) (w : World) (hs : s.size ≤ 1048576) : Calls Try.prog 18 #[.string s] w fun e w' => e = .returned (.bool true) ∧ w' = w := by
  go_enter Try.func18, Try.ntmps18
  go_wp2
  go_ret
  exact ⟨rfl, rfl⟩

set_option maxHeartbeats 1000000 in
theorem query_in (s : ByteArray) (w : World) (hs : s.size ≤ 1048576) :
    Calls Try.prog 7 #[.string s] w fun e w' => e = .returned (.bool true) ∧ w' = w := by
  go_enter Try.func7, Try.ntmps7
  go_wp2_with (go_at_call 18; refine (zzbytes_in s _ hs).mono ?_; rintro e w' ⟨rfl, rfl⟩)
  go_loop [3] (fun i => ∃ k : Nat, k ≤ s.size ∧ i = .int .i64 k ∧ Plain (bytes s) k) (fun i => s.size - (intOf i).toNat)
  case atStart => exact ⟨0, Nat.zero_le _, rfl, by intro j h; omega⟩
  case round =>
    obtain ⟨k, hk, rfl, hp⟩ := hrel
    by_cases hlt : k < s.size
    · have hcb := bytes_at s k hlt
      have hcl := s[k].toNat_lt
      obtain ⟨c, hc⟩ : ∃ c, ((s[k].toNat : Nat) : Int) = c := ⟨_, rfl⟩
      rw [hc] at hcb
      have hc0 : 0 ≤ c := by omega
      have hc1 : c ≤ 255 := by omega
      clear hcl
      have HP : Hid (Plain (bytes s) k) := hp
      clear hp
      by_cases h37 : c = 37
      · have t : (c == 37) = true := by simpa using h37
        clear h37 hcb
        go_wp2
        go_ret
        exact ⟨rfl, rfl⟩
      · have t : (c == 37) = false := by simpa using h37
        have HT := fun wx => zztok_any c wx hc0 hc1
        cases hd : tokB c with
        | false =>
          rw [hd] at HT
          clear hd h37 hcb
          go_wp2_with (go_at_call 16; refine (HT _).mono ?_; rintro e w' ⟨rfl, rfl⟩)
          go_ret
          exact ⟨rfl, rfl⟩
        | true =>
          have HN : Hid (Plain (bytes s) (k + 1)) := Plain.next HP.out (by rw [hcb]; exact hd) (by rw [hcb]; exact h37)
          rw [hd] at HT
          clear hd h37 hcb
          go_wp2_with (go_at_call 16; refine (HT _).mono ?_; rintro e w' ⟨rfl, rfl⟩)
          go_round
          case rel => exact ⟨k + 1, by omega, by go_num, HN.out⟩
          case measure => simp [intOf]; omega
    · have e : k = s.size := by omega
      have hp' : Plain (bytes s) s.size := by rw [← e]; exact hp
      clear e hp
      have HC := fun wx => count_any s wx hs
      by_cases hr : amp (bytes s) s.size < 10000
      · have HQ := fun wx => zzplain_any s wx true hs hp' (decide_eq_true hr)
        have hb := amp_bd (bytes s) s.size
        obtain ⟨r, er⟩ : ∃ r, amp (bytes s) s.size = r := ⟨_, rfl⟩
        rw [er] at HC hr hb
        obtain ⟨hb0, hb1⟩ := hb
        clear er hp'
        go_wp2_with (first | (go_at_call 9; refine (HQ _).mono ?_; rintro e w' ⟨rfl, rfl⟩) | (go_at_call 10; refine (HC _).mono ?_; rintro e w' ⟨rfl, rfl⟩))
        go_ret
        exact ⟨rfl, rfl⟩
      · have HQ := fun wx => zzplain_any s wx false hs hp' (decide_eq_false hr)
        have hb := amp_bd (bytes s) s.size
        obtain ⟨r, er⟩ : ∃ r, amp (bytes s) s.size = r := ⟨_, rfl⟩
        rw [er] at HC hr hb
        obtain ⟨hb0, hb1⟩ := hb
        have hd : decide (r < 10000) = false := decide_eq_false hr
        clear er hp'
        go_wp2_with (first | (go_at_call 9; refine (HQ _).mono ?_; rintro e w' ⟨rfl, rfl⟩) | (go_at_call 10; refine (HC _).mono ?_; rintro e w' ⟨rfl, rfl⟩))
        go_ret
        exact ⟨rfl, rfl⟩
end Go.Proofs.Qxb6600046a
