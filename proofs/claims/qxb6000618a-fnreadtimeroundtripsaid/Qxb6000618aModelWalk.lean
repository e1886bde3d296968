import Derived.Test.Qxb6000618aDigits
import Derived.Test.Qxb6000618aModel
namespace Go.Proofs.Qxb6000618a
open Go.RowKit
set_option linter.unusedVariables false

theorem zisd_any (c : Int) (w : World) : Calls Try.prog 22 #[.int .u8 c] w fun e w' => e = .returned (.bool (Run.dig c)) ∧ w' = w := by
  by_cases h : 48 ≤ c ∧ c ≤ 57
  · rw [Run.dig_t h.1 h.2]
    obtain ⟨h1, h2⟩ := h
    go_enter Try.func22, Try.ntmps22
    go_wp2
    go_ret
    exact ⟨rfl, rfl⟩
  · rw [Run.dig_f (by omega)]
    by_cases h1 : c < 48
    · clear h
      go_enter Try.func22, Try.ntmps22
      go_wp2
      go_ret
      exact ⟨rfl, rfl⟩
    · have h2 : 57 < c := by omega
      have hd : decide (c ≤ 57) = false := by simp; omega
      clear h
      go_enter Try.func22, Try.ntmps22
      go_wp2
      go_ret
      exact ⟨rfl, rfl⟩

/-- the run so far -/
def SoFar (l : List Int) (i j : Nat) : Prop := ∀ m, i ≤ m → m < j → Run.dig (l[m]?.getD 0) = true ∨ l[m]?.getD 0 = 95
theorem SoFar.next {l : List Int} {i j : Nat} (h : SoFar l i j) (hj : Run.dig (l[j]?.getD 0) = true ∨ l[j]?.getD 0 = 95) : SoFar l i (j + 1) := by
  intro m h1 h2
  by_cases e : m < j
  · exact h m h1 e
  · have : m = j := by omega
    subst this
    exact hj

theorem noTwo_next {l : List Int} {i j k : Nat} (h : Run.NoTwo l i j k) (hk : ¬ l[k]?.getD 0 = 95 ∨ ¬ l[k + 1]?.getD 0 = 95) : Run.NoTwo l i j (k + 1) := by
  intro m h1 h2 h3
  by_cases e : m < k
  · exact h m h1 e h3
  · have : m = k := by omega
    subst this
    rintro ⟨a, b⟩
    rcases hk with hk | hk
    · exact hk a
    · exact hk b

set_option maxHeartbeats 2000000 in
theorem model_any (s : ByteArray) (i : Nat) (w : World) (hs : s.size ≤ 2097152) (hi : i ≤ s.size) :
    Calls Try.prog 12 #[.string s, .int .i64 i] w fun e w' => e = .returned (.int .i64 (Run.at_ (bytes s) i)) ∧ w' = w := by
  go_enter Try.func12, Try.ntmps12
  go_wp2
  go_loop [5] (fun t => ∃ j : Nat, i ≤ j ∧ j ≤ s.size ∧ t = .int .i64 j ∧ SoFar (bytes s) i j) (fun t => s.size - (intOf t).toNat)
  case atStart => exact ⟨i, Nat.le_refl _, hi, rfl, by intro m h1 h2; omega⟩
  case round =>
    obtain ⟨j, hij, hj, rfl, hsf⟩ := hrel
    have HSF : Hid _ := hsf
    clear hsf
    by_cases hgo : j < s.size ∧ (Run.dig ((bytes s)[j]?.getD 0) = true ∨ (bytes s)[j]?.getD 0 = 95)
    · obtain ⟨hjl, hor⟩ := hgo
      have HN : Hid _ := SoFar.next HSF.out hor
      rw [bytes_at s j hjl] at hor
      obtain ⟨x, hx⟩ : ∃ x, ((s[j].toNat : Nat) : Int) = x := ⟨_, rfl⟩
      rw [hx] at hor
      have HD := fun wx => zisd_any x wx
      cases hd : Run.dig x with
      | true =>
        rw [hd] at HD
        clear hor hd
        go_wp2_with (go_at_call 22; refine (HD _).mono ?_; rintro e w' ⟨rfl, rfl⟩)
        go_round
        case rel => exact ⟨j + 1, by omega, by omega, by go_num, HN.out⟩
        case measure => simp [intOf]; omega
      | false =>
        have h95 : x = 95 := by rcases hor with h | h; rw [hd] at h; cases h; exact h
        have t95 : (x == 95) = true := by simpa using h95
        rw [hd] at HD
        clear hor hd h95
        go_wp2_with (go_at_call 22; refine (HD _).mono ?_; rintro e w' ⟨rfl, rfl⟩)
        go_round
        case rel => exact ⟨j + 1, by omega, by omega, by go_num, HN.out⟩
        case measure => simp [intOf]; omega
    · have HRUN : Hid (Run.IsRun (bytes s) i j) := ⟨hij, by rw [bytes_length]; exact hj, HSF.out, by
        rw [bytes_length]
        by_cases hjl : j < s.size
        · right
          refine ⟨?_, fun h => hgo ⟨hjl, .inr h⟩⟩
          cases h : Run.dig ((bytes s)[j]?.getD 0) with
          | false => rfl
          | true => exact absurd ⟨hjl, .inl h⟩ hgo
        · left; omega⟩
      by_cases hjl : j < s.size
      · have hor : Run.dig ((bytes s)[j]?.getD 0) = false ∧ ¬ (bytes s)[j]?.getD 0 = 95 := by
          rcases HRUN.out.stop with h | h
          · rw [bytes_length] at h; omega
          · exact h
        rw [bytes_at s j hjl] at hor
        obtain ⟨x, hx⟩ : ∃ x, ((s[j].toNat : Nat) : Int) = x := ⟨_, rfl⟩
        rw [hx] at hor
        have HD := fun wx => zisd_any x wx
        rw [hor.1] at HD
        have t95 : (x == 95) = false := by simpa using hor.2
        clear hor hgo
        by_cases hje : j = i
        · have HA : Hid _ := Run.run_empty (by have := HRUN.out; rw [hje] at this; exact this)
          have tje : ((j : Int) == (i : Int)) = true := by simp; omega
          clear hje
          go_wp2_with (go_at_call_of 22 (Value.int IntKind.u8 x); refine (HD _).mono ?_; rintro e w' ⟨rfl, rfl⟩)
          go_ret
          exact ⟨ret_int HA.out.symm, rfl⟩
        · obtain ⟨j', rfl⟩ : ∃ j', j = j' + 1 := ⟨j - 1, by omega⟩
          have hi' : i < s.size := by omega
          have hj' : j' < s.size := by omega
          have tje : (((j' + 1 : Nat) : Int) == (i : Int)) = false := by simp; omega
          have tje' : ((j' : Int) + 1 == (i : Int)) = false := by simp; omega
          have hcb := bytes_at s i hi'
          have hyb := bytes_at s j' hj'
          obtain ⟨c, hc⟩ : ∃ c, ((s[i].toNat : Nat) : Int) = c := ⟨_, rfl⟩
          obtain ⟨y, hy⟩ : ∃ y, ((s[j'].toNat : Nat) : Int) = y := ⟨_, rfl⟩
          rw [hc] at hcb
          rw [hy] at hyb
          have D1 := fun wx => zisd_any c wx
          have D2 := fun wx => zisd_any y wx
          cases hdc : Run.dig c with
          | false =>
            have HA : Hid _ := Run.run_first HRUN.out (by omega) (by rw [hcb]; exact hdc)
            rw [hdc] at D1
            clear hdc hcb hyb
            go_wp2_with (first | (go_at_call_of 22 (Value.int IntKind.u8 x); refine (HD _).mono ?_; rintro e w' ⟨rfl, rfl⟩) | (go_at_call_of 22 (Value.int IntKind.u8 c); refine (D1 _).mono ?_; rintro e w' ⟨rfl, rfl⟩) | (go_at_call_of 22 (Value.int IntKind.u8 y); refine (D2 _).mono ?_; rintro e w' ⟨rfl, rfl⟩))
            go_ret
            exact ⟨ret_int HA.out.symm, rfl⟩
          | true =>
            rw [hdc] at D1
            cases hdy : Run.dig y with
            | false =>
              have HA : Hid _ := Run.run_last HRUN.out (by omega) (by rw [hcb]; exact hdc) (by rw [Nat.add_sub_cancel, hyb]; exact hdy)
              rw [hdy] at D2
              clear hdc hdy hcb hyb
              go_wp2_with (first | (go_at_call_of 22 (Value.int IntKind.u8 x); refine (HD _).mono ?_; rintro e w' ⟨rfl, rfl⟩) | (go_at_call_of 22 (Value.int IntKind.u8 c); refine (D1 _).mono ?_; rintro e w' ⟨rfl, rfl⟩) | (go_at_call_of 22 (Value.int IntKind.u8 y); refine (D2 _).mono ?_; rintro e w' ⟨rfl, rfl⟩))
              go_ret
              exact ⟨ret_int HA.out.symm, rfl⟩
            | true =>
              rw [hdy] at D2
              have H0 : Hid _ := (show Run.dig ((bytes s)[i]?.getD 0) = true by rw [hcb]; exact hdc)
              have H1 : Hid _ := (show Run.dig ((bytes s)[j' + 1 - 1]?.getD 0) = true by rw [Nat.add_sub_cancel, hyb]; exact hdy)
              clear hdc hdy hcb hyb
              go_wp2_with (first | (go_at_call_of 22 (Value.int IntKind.u8 x); refine (HD _).mono ?_; rintro e w' ⟨rfl, rfl⟩) | (go_at_call_of 22 (Value.int IntKind.u8 c); refine (D1 _).mono ?_; rintro e w' ⟨rfl, rfl⟩) | (go_at_call_of 22 (Value.int IntKind.u8 y); refine (D2 _).mono ?_; rintro e w' ⟨rfl, rfl⟩))
              clear D1 D2 hc hy
              go_loop [6] (fun t => ∃ k : Nat, i ≤ k ∧ k ≤ j' ∧ t = .int .i64 k ∧ Run.NoTwo (bytes s) i (j' + 1) k) (fun t => s.size - (intOf t).toNat)
              case atStart => exact ⟨i, Nat.le_refl _, by omega, rfl, by intro m h1 h2; omega⟩
              case round =>
                obtain ⟨k, hik, hkj, rfl, hnt⟩ := hrel
                have HNT : Hid _ := hnt
                clear hnt
                by_cases hk1 : k < j'
                · have hkl : k < s.size := by omega
                  have hkl1 : k + 1 < s.size := by omega
                  have hpb := bytes_at s k hkl
                  have hqb := bytes_at s (k + 1) hkl1
                  obtain ⟨p, hp⟩ : ∃ p, ((s[k].toNat : Nat) : Int) = p := ⟨_, rfl⟩
                  obtain ⟨q, hq⟩ : ∃ q, ((s[k + 1].toNat : Nat) : Int) = q := ⟨_, rfl⟩
                  rw [hp] at hpb
                  rw [hq] at hqb
                  by_cases hp95 : p = 95
                  · have tp : (p == 95) = true := by simpa using hp95
                    by_cases hq95 : q = 95
                    · have tq : (q == 95) = true := by simpa using hq95
                      have HA : Hid _ := Run.run_two HRUN.out H0.out hik (by omega) (by rw [hpb]; exact hp95) (by rw [hqb]; exact hq95)
                      clear hp95 hq95 hpb hqb
                      go_wp2
                      go_ret
                      exact ⟨ret_int HA.out.symm, rfl⟩
                    · have tq : (q == 95) = false := by simpa using hq95
                      have HN : Hid _ := noTwo_next HNT.out (.inr (by rw [hqb]; exact hq95))
                      clear hp95 hq95 hpb hqb
                      go_wp2
                      go_round
                      case rel => exact ⟨k + 1, by omega, by omega, by go_num, HN.out⟩
                      case measure => simp [intOf]; omega
                  · have tp : (p == 95) = false := by simpa using hp95
                    have HN : Hid _ := noTwo_next HNT.out (.inl (by rw [hpb]; exact hp95))
                    clear hp95 hpb hqb
                    go_wp2
                    go_round
                    case rel => exact ⟨k + 1, by omega, by omega, by go_num, HN.out⟩
                    case measure => simp [intOf]; omega
                · have HA : Hid _ := Run.run_good HRUN.out (by omega) H0.out H1.out (fun m h1 h2 h3 => HNT.out m h1 (by omega) h3)
                  go_wp2
                  go_ret
                  exact ⟨ret_int (by rw [HA.out]; go_num), rfl⟩
      · have hnl : decide ((j : Int) < (s.size : Int)) = false := by simp; omega
        clear hgo
        by_cases hje : j = i
        · have HA : Hid _ := Run.run_empty (by have := HRUN.out; rw [hje] at this; exact this)
          have tje : ((j : Int) == (i : Int)) = true := by simp; omega
          clear hje
          go_wp2_with fail
          go_ret
          exact ⟨ret_int HA.out.symm, rfl⟩
        · obtain ⟨j', rfl⟩ : ∃ j', j = j' + 1 := ⟨j - 1, by omega⟩
          have hi' : i < s.size := by omega
          have hj' : j' < s.size := by omega
          have tje : (((j' + 1 : Nat) : Int) == (i : Int)) = false := by simp; omega
          have tje' : ((j' : Int) + 1 == (i : Int)) = false := by simp; omega
          have hcb := bytes_at s i hi'
          have hyb := bytes_at s j' hj'
          obtain ⟨c, hc⟩ : ∃ c, ((s[i].toNat : Nat) : Int) = c := ⟨_, rfl⟩
          obtain ⟨y, hy⟩ : ∃ y, ((s[j'].toNat : Nat) : Int) = y := ⟨_, rfl⟩
          rw [hc] at hcb
          rw [hy] at hyb
          have D1 := fun wx => zisd_any c wx
          have D2 := fun wx => zisd_any y wx
          cases hdc : Run.dig c with
          | false =>
            have HA : Hid _ := Run.run_first HRUN.out (by omega) (by rw [hcb]; exact hdc)
            rw [hdc] at D1
            clear hdc hcb hyb
            go_wp2_with (first | (go_at_call_of 22 (Value.int IntKind.u8 c); refine (D1 _).mono ?_; rintro e w' ⟨rfl, rfl⟩) | (go_at_call_of 22 (Value.int IntKind.u8 y); refine (D2 _).mono ?_; rintro e w' ⟨rfl, rfl⟩))
            go_ret
            exact ⟨ret_int HA.out.symm, rfl⟩
          | true =>
            rw [hdc] at D1
            cases hdy : Run.dig y with
            | false =>
              have HA : Hid _ := Run.run_last HRUN.out (by omega) (by rw [hcb]; exact hdc) (by rw [Nat.add_sub_cancel, hyb]; exact hdy)
              rw [hdy] at D2
              clear hdc hdy hcb hyb
              go_wp2_with (first | (go_at_call_of 22 (Value.int IntKind.u8 c); refine (D1 _).mono ?_; rintro e w' ⟨rfl, rfl⟩) | (go_at_call_of 22 (Value.int IntKind.u8 y); refine (D2 _).mono ?_; rintro e w' ⟨rfl, rfl⟩))
              go_ret
              exact ⟨ret_int HA.out.symm, rfl⟩
            | true =>
              rw [hdy] at D2
              have H0 : Hid _ := (show Run.dig ((bytes s)[i]?.getD 0) = true by rw [hcb]; exact hdc)
              have H1 : Hid _ := (show Run.dig ((bytes s)[j' + 1 - 1]?.getD 0) = true by rw [Nat.add_sub_cancel, hyb]; exact hdy)
              clear hdc hdy hcb hyb
              go_wp2_with (first | (go_at_call_of 22 (Value.int IntKind.u8 c); refine (D1 _).mono ?_; rintro e w' ⟨rfl, rfl⟩) | (go_at_call_of 22 (Value.int IntKind.u8 y); refine (D2 _).mono ?_; rintro e w' ⟨rfl, rfl⟩))
              clear D1 D2 hc hy
              go_loop [6] (fun t => ∃ k : Nat, i ≤ k ∧ k ≤ j' ∧ t = .int .i64 k ∧ Run.NoTwo (bytes s) i (j' + 1) k) (fun t => s.size - (intOf t).toNat)
              case atStart => exact ⟨i, Nat.le_refl _, by omega, rfl, by intro m h1 h2; omega⟩
              case round =>
                obtain ⟨k, hik, hkj, rfl, hnt⟩ := hrel
                have HNT : Hid _ := hnt
                clear hnt
                by_cases hk1 : k < j'
                · have hkl : k < s.size := by omega
                  have hkl1 : k + 1 < s.size := by omega
                  have hpb := bytes_at s k hkl
                  have hqb := bytes_at s (k + 1) hkl1
                  obtain ⟨p, hp⟩ : ∃ p, ((s[k].toNat : Nat) : Int) = p := ⟨_, rfl⟩
                  obtain ⟨q, hq⟩ : ∃ q, ((s[k + 1].toNat : Nat) : Int) = q := ⟨_, rfl⟩
                  rw [hp] at hpb
                  rw [hq] at hqb
                  by_cases hp95 : p = 95
                  · have tp : (p == 95) = true := by simpa using hp95
                    by_cases hq95 : q = 95
                    · have tq : (q == 95) = true := by simpa using hq95
                      have HA : Hid _ := Run.run_two HRUN.out H0.out hik (by omega) (by rw [hpb]; exact hp95) (by rw [hqb]; exact hq95)
                      clear hp95 hq95 hpb hqb
                      go_wp2
                      go_ret
                      exact ⟨ret_int HA.out.symm, rfl⟩
                    · have tq : (q == 95) = false := by simpa using hq95
                      have HN : Hid _ := noTwo_next HNT.out (.inr (by rw [hqb]; exact hq95))
                      clear hp95 hq95 hpb hqb
                      go_wp2
                      go_round
                      case rel => exact ⟨k + 1, by omega, by omega, by go_num, HN.out⟩
                      case measure => simp [intOf]; omega
                  · have tp : (p == 95) = false := by simpa using hp95
                    have HN : Hid _ := noTwo_next HNT.out (.inl (by rw [hpb]; exact hp95))
                    clear hp95 hpb hqb
                    go_wp2
                    go_round
                    case rel => exact ⟨k + 1, by omega, by omega, by go_num, HN.out⟩
                    case measure => simp [intOf]; omega
                · have HA : Hid _ := Run.run_good HRUN.out (by omega) H0.out H1.out (fun m h1 h2 h3 => HNT.out m h1 (by omega) h3)
                  go_wp2
                  go_ret
                  exact ⟨ret_int (by rw [HA.out]; go_num), rfl⟩
end Go.Proofs.Qxb6000618a
