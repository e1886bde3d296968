import Derived.Test.Qxb6000618aRows
import Derived.Test.Qxb6000618aRun
import Derived.WalkKit
import Derived.WalkSpells
import Derived.Deep.RegionWith
namespace Go.Proofs.Qxb6000618a
open Go.RowKit
set_option linter.unusedVariables false

/-- a string's bytes, as numbers -/
def bytes (s : ByteArray) : List Int := s.data.toList.map fun b => (b.toNat : Int)
theorem bytes_length (s : ByteArray) : (bytes s).length = s.size := by
  rw [bytes, List.length_map, Array.length_toList]; rfl
theorem bytes_at (s : ByteArray) (k : Nat) (h : k < s.size) : (bytes s)[k]?.getD 0 = ((s[k].toNat : Nat) : Int) := by
  have h' : k < s.data.toList.length := by rw [Array.length_toList]; exact h
  simp only [bytes, List.getElem?_map, List.getElem?_eq_getElem h', Option.map_some, Option.getD_some]
  rfl

theorem isd_t (c : Int) (w : World) (h1 : 48 ≤ c) (h2 : c ≤ 57) : Calls Try.prog 29 #[.int .u8 c] w fun e w' => e = .returned (.bool true) ∧ w' = w := by
  go_enter Try.func29, Try.ntmps29
  go_wp2
  go_ret
  exact ⟨rfl, rfl⟩
theorem isd_f (c : Int) (w : World) (h : c < 48 ∨ 57 < c) : Calls Try.prog 29 #[.int .u8 c] w fun e w' => e = .returned (.bool false) ∧ w' = w := by
  rcases h with h | h
  · go_enter Try.func29, Try.ntmps29
    go_wp2
    go_ret
    exact ⟨rfl, rfl⟩
  · have hd : decide (c ≤ 57) = false := by simp; omega
    go_enter Try.func29, Try.ntmps29
    go_wp2
    go_ret
    exact ⟨rfl, rfl⟩
theorem isd_any (c : Int) (w : World) : Calls Try.prog 29 #[.int .u8 c] w fun e w' => e = .returned (.bool (Run.dig c)) ∧ w' = w := by
  by_cases h : 48 ≤ c ∧ c ≤ 57
  · rw [Run.dig_t h.1 h.2]; exact isd_t c w h.1 h.2
  · rw [Run.dig_f (by omega)]; exact isd_f c w (by omega)

theorem ret_int {k : IntKind} {a b : Int} (h : a = b) : Ending.returned (.int k a) = .returned (.int k b) := by rw [h]

set_option maxHeartbeats 1000000 in
theorem dd_any (s : ByteArray) (i : Nat) (w : World) (hs : s.size ≤ 2097152) (hi : i ≤ s.size) :
    Calls Try.prog 26 #[.string s, .int .i64 i] w fun e w' => e = .returned (.int .i64 (Run.at_ (bytes s) i)) ∧ w' = w := by
  by_cases hlt : i < s.size
  · have hcb := bytes_at s i hlt
    obtain ⟨c, hc⟩ : ∃ c, ((s[i].toNat : Nat) : Int) = c := ⟨_, rfl⟩
    rw [hc] at hcb
    have HCB : Hid _ := hcb
    clear hcb
    have ht : ((i : Int) == (s.size : Int)) = false := by simp; omega
    cases hd : Run.dig c with
    | false =>
      have HA : Hid _ := Run.start_no (by rw [bytes_length]; exact hlt) HCB.out hd
      have HD := isd_any c w
      rw [hd] at HD
      clear hd
      go_enter Try.func26, Try.ntmps26
      go_wp2_with (go_at_call 29; refine HD.mono ?_; rintro e w' ⟨rfl, rfl⟩)
      go_ret
      exact ⟨ret_int HA.out.symm, rfl⟩
    | true =>
      have HA : Hid _ := Run.inv_start (by rw [bytes_length]; exact hlt) HCB.out hd
      have HD := isd_any c w
      rw [hd] at HD
      clear hd
      go_enter Try.func26, Try.ntmps26
      go_wp2_with (go_at_call 29; refine HD.mono ?_; rintro e w' ⟨rfl, rfl⟩)
      clear HD HCB hc
      go_loop [1] (fun j => ∃ k : Nat, k ≤ s.size ∧ j = .int .i64 k ∧ Run.Inv (bytes s) i k) (fun j => s.size - (intOf j).toNat)
      case atStart => exact ⟨i + 1, by omega, by go_num, HA.out⟩
      case round =>
        clear HA
        obtain ⟨k, hk, rfl, hinv⟩ := hrel
        have HI : Hid _ := hinv
        clear hinv
        by_cases hkl : k < s.size
        · have hcb := bytes_at s k hkl
          obtain ⟨x, hx⟩ : ∃ x, ((s[k].toNat : Nat) : Int) = x := ⟨_, rfl⟩
          rw [hx] at hcb
          have HXB : Hid _ := hcb
          clear hcb
          cases hd : Run.dig x with
          | true =>
            have HA : Hid _ := Run.inv_digit HI.out (by rw [bytes_length]; exact hkl) HXB.out hd
            have HD := fun wx => isd_any x wx
            rw [hd] at HD
            clear hd
            go_wp2_with (go_at_call 29; refine (HD _).mono ?_; rintro e w' ⟨rfl, rfl⟩)
            go_round
            case rel => exact ⟨k + 1, by omega, by go_num, HA.out⟩
            case measure => simp [intOf]; omega
          | false =>
            have HD := fun wx => isd_any x wx
            rw [hd] at HD
            by_cases h95 : x = 95
            · have t95 : (x == 95) = true := by simpa using h95
              by_cases hk1 : k + 1 < s.size
              · have hyb := bytes_at s (k + 1) hk1
                obtain ⟨y, hy⟩ : ∃ y, ((s[k + 1].toNat : Nat) : Int) = y := ⟨_, rfl⟩
                rw [hy] at hyb
                have HYB : Hid _ := hyb
                clear hyb
                cases hdy : Run.dig y with
                | true =>
                  have HA : Hid _ := Run.inv_under HI.out (by rw [bytes_length]; exact hk1) HXB.out h95 HYB.out hdy
                  have HE := fun wx => isd_any y wx
                  rw [hdy] at HE
                  clear hd hdy h95
                  go_wp2_with (first | (go_at_call_of 29 (Value.int IntKind.u8 x); refine (HD _).mono ?_; rintro e w' ⟨rfl, rfl⟩) | (go_at_call_of 29 (Value.int IntKind.u8 y); refine (HE _).mono ?_; rintro e w' ⟨rfl, rfl⟩))
                  go_round
                  case rel => exact ⟨k + 1, by omega, by go_num, HA.out⟩
                  case measure => simp [intOf]; omega
                | false =>
                  have HA : Hid _ := Run.end_bad HI.out (by rw [bytes_length]; exact hk1) HXB.out h95 HYB.out hdy
                  have HE := fun wx => isd_any y wx
                  rw [hdy] at HE
                  clear hd hdy h95
                  go_wp2_with (first | (go_at_call_of 29 (Value.int IntKind.u8 x); refine (HD _).mono ?_; rintro e w' ⟨rfl, rfl⟩) | (go_at_call_of 29 (Value.int IntKind.u8 y); refine (HE _).mono ?_; rintro e w' ⟨rfl, rfl⟩))
                  go_ret
                  exact ⟨ret_int HA.out.symm, rfl⟩
              · have HA : Hid _ := Run.end_last HI.out (by rw [bytes_length]; exact hkl) (by rw [bytes_length]; exact hk1) HXB.out h95
                have hk2 : decide ((k : Int) + 1 < (s.size : Int)) = false := by simp; omega
                clear hd h95
                go_wp2_with (go_at_call 29; refine (HD _).mono ?_; rintro e w' ⟨rfl, rfl⟩)
                go_ret
                exact ⟨ret_int HA.out.symm, rfl⟩
            · have t95 : (x == 95) = false := by simpa using h95
              have HA : Hid _ := Run.end_other HI.out (by rw [bytes_length]; exact hkl) HXB.out hd h95
              clear hd h95
              go_wp2_with (go_at_call 29; refine (HD _).mono ?_; rintro e w' ⟨rfl, rfl⟩)
              go_ret
              exact ⟨ret_int HA.out.symm, rfl⟩
        · have HA : Hid _ := Run.end_end HI.out (by rw [bytes_length]; exact hkl)
          go_wp2
          go_ret
          exact ⟨ret_int HA.out.symm, rfl⟩
  · have HA : Hid _ := Run.start_end (l := bytes s) (i := i) (by rw [bytes_length]; exact hlt)
    have ht : ((i : Int) == (s.size : Int)) = true := by simp; omega
    go_enter Try.func26, Try.ntmps26
    go_wp2
    go_ret
    exact ⟨ret_int HA.out.symm, rfl⟩

set_option maxHeartbeats 400000 in
theorem zzdd_any (s : ByteArray) (i : Nat) (w : World) (hs : s.size ≤ 2097152) (hi : i ≤ s.size) :
    Calls Try.prog 11 #[.string s, .int .i64 i] w fun e w' => e = .returned (.int .i64 (Run.at_ (bytes s) i)) ∧ w' = w := by
  have H := dd_any s i w hs hi
  go_enter Try.func11, Try.ntmps11
  go_wp2_with (go_at_call 26; refine H.mono ?_; rintro e w' ⟨rfl, rfl⟩)
  go_ret
  exact ⟨rfl, rfl⟩
end Go.Proofs.Qxb6000618a
