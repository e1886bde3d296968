import Derived.Test.Qxb6600046aTok
namespace Go.Proofs.Qxb6600046a
open Go.RowKit
set_option linter.unusedVariables false

/-- a string's bytes, as numbers -/
def bytes (s : ByteArray) : List Int := s.data.toList.map fun b => (b.toNat : Int)
theorem bytes_length (s : ByteArray) : (bytes s).length = s.size := by
  rw [bytes, List.length_map, Array.length_toList]; rfl
theorem bytes_at (s : ByteArray) (k : Nat) (h : k < s.size) : (bytes s)[k]?.getD 0 = ((s[k].toNat : Nat) : Int) := by
  have h' : k < s.data.toList.length := by rw [Array.length_toList]; exact h
  simp only [bytes, List.getElem?_map, List.getElem?_eq_getElem h', Option.map_some, Option.getD_some]
  rfl

/-- how many of the first k bytes are ampersands -/
def amp (l : List Int) : Nat → Int
  | 0 => 0
  | k + 1 => amp l k + if l[k]?.getD 0 = 38 then 1 else 0
theorem amp_bd (l : List Int) (k : Nat) : 0 ≤ amp l k ∧ amp l k ≤ k := by
  induction k with
  | zero => simp [amp]
  | succ k ih =>
    rw [amp]
    split <;> omega

theorem ret_int {k : IntKind} {a b : Int} (h : a = b) : Ending.returned (.int k a) = .returned (.int k b) := by rw [h]

set_option maxHeartbeats 400000 in
theorem count_any (s : ByteArray) (w : World) (hs : s.size ≤ 1048576) :
    Calls Try.prog 10 #[.string s] w fun e w' => e = .returned (.int .i64 (amp (bytes s) s.size)) ∧ w' = w := by
  go_enter Try.func10, Try.ntmps10
  go_wp2
  go_loop [3, 4] (fun n i => ∃ k : Nat, k ≤ s.size ∧ i = .int .i64 k ∧ n = .int .i64 (amp (bytes s) k)) (fun _ i => s.size - (intOf i).toNat)
  case atStart => exact ⟨0, Nat.zero_le _, rfl, rfl⟩
  case round =>
    obtain ⟨k, hk, rfl, rfl⟩ := hrel
    have hb := amp_bd (bytes s) k
    obtain ⟨r, hr⟩ : ∃ r, amp (bytes s) k = r := ⟨_, rfl⟩
    rw [hr] at hb
    obtain ⟨hb0, hb1⟩ := hb
    have HR : Hid _ := hr
    rw [hr]
    clear hr
    by_cases hlt : k < s.size
    · have hcb := bytes_at s k hlt
      obtain ⟨c, hc⟩ : ∃ c, ((s[k].toNat : Nat) : Int) = c := ⟨_, rfl⟩
      rw [hc] at hcb
      by_cases h38 : c = 38
      · have t : (c == 38) = true := by simpa using h38
        have HN : Hid (amp (bytes s) (k + 1) = r + 1) := by show amp _ (k + 1) = _; rw [amp, HR.out, hcb, if_pos h38]
        clear h38 hcb
        go_wp2
        go_round
        case rel => exact ⟨k + 1, by omega, by go_num, by rw [HN.out]⟩
        case measure => simp [intOf]; omega
      · have t : (c == 38) = false := by simpa using h38
        have HN : Hid (amp (bytes s) (k + 1) = r) := by show amp _ (k + 1) = _; rw [amp, HR.out, hcb, if_neg h38]; omega
        clear h38 hcb
        go_wp2
        go_round
        case rel => exact ⟨k + 1, by omega, by go_num, by rw [HN.out]⟩
        case measure => simp [intOf]; omega
    · have e : k = s.size := by omega
      have HE : Hid (amp (bytes s) s.size = r) := by show amp _ s.size = r; rw [← e]; exact HR.out
      clear e
      go_wp2
      go_ret
      exact ⟨ret_int HE.out.symm, rfl⟩

/-- token bytes other than the percent sign -/
def Plain (l : List Int) (k : Nat) : Prop := ∀ j, j < k → tokB (l[j]?.getD 0) = true ∧ ¬ l[j]?.getD 0 = 37
theorem Plain.next {l : List Int} {k : Nat} (h : Plain l k) (h1 : tokB (l[k]?.getD 0) = true) (h2 : ¬ l[k]?.getD 0 = 37) : Plain l (k + 1) := by
  intro j hj
  by_cases e : j < k
  · exact h j e
  · have : j = k := by omega
    subst this
    exact ⟨h1, h2⟩

set_option maxHeartbeats 1000000 in
theorem plain_any (s : ByteArray) (w : World) (b : Bool) (hs : s.size ≤ 1048576) (hp : Plain (bytes s) s.size) (hb : decide (amp (bytes s) s.size < 10000) = b) :
    Calls Try.prog 19 #[.string s] w fun e w' => e = .returned (.bool b) ∧ w' = w := by
  have HB : Hid _ := hb
  have HP : Hid _ := hp
  clear hb hp
  go_enter Try.func19, Try.ntmps19
  go_wp2
  go_loop [3, 4] (fun n i => ∃ k : Nat, k ≤ s.size ∧ i = .int .i64 k ∧ n = .int .i64 (1 + amp (bytes s) k)) (fun _ i => s.size - (intOf i).toNat)
  case atStart => exact ⟨0, Nat.zero_le _, rfl, rfl⟩
  case round =>
    obtain ⟨k, hk, rfl, rfl⟩ := hrel
    have hb := amp_bd (bytes s) k
    obtain ⟨r, hr⟩ : ∃ r, amp (bytes s) k = r := ⟨_, rfl⟩
    rw [hr] at hb
    obtain ⟨hb0, hb1⟩ := hb
    have HR : Hid _ := hr
    rw [hr]
    clear hr
    by_cases hlt : k < s.size
    · have hcb := bytes_at s k hlt
      obtain ⟨c, hc⟩ : ∃ c, ((s[k].toNat : Nat) : Int) = c := ⟨_, rfl⟩
      rw [hc] at hcb
      have hpk := HP.out k hlt
      rw [hcb] at hpk
      have htok := of_decide_eq_true hpk.1
      have t59 : (c == 59) = false := by simp; omega
      have t32 : ¬ c < 32 := by omega
      have t127 : (c == 127) = false := by simp; omega
      have t37 : (c == 37) = false := by simpa using hpk.2
      clear htok hpk
      by_cases h38 : c = 38
      · have t : (c == 38) = true := by simpa using h38
        have HN : Hid (amp (bytes s) (k + 1) = r + 1) := by show amp _ (k + 1) = _; rw [amp, HR.out, hcb, if_pos h38]
        clear h38 hcb
        go_wp2
        go_round
        case rel => exact ⟨k + 1, by omega, by go_num, by rw [HN.out]; go_num⟩
        case measure => simp [intOf]; omega
      · have t : (c == 38) = false := by simpa using h38
        have HN : Hid (amp (bytes s) (k + 1) = r) := by show amp _ (k + 1) = _; rw [amp, HR.out, hcb, if_neg h38]; omega
        clear h38 hcb
        go_wp2
        go_round
        case rel => exact ⟨k + 1, by omega, by go_num, by rw [HN.out]⟩
        case measure => simp [intOf]; omega
    · have e : k = s.size := by omega
      have HE : Hid (decide (r < 10000) = b) := by have h := HB.out; rw [← e, HR.out] at h; exact h
      clear e
      by_cases hr : r < 10000
      · have e1 : b = true := by rw [← HE.out]; exact decide_eq_true hr
        have e2 : decide (1 + r ≤ 10000) = true := decide_eq_true (by omega)
        subst e1
        go_wp2
        go_ret
        exact ⟨rfl, rfl⟩
      · have e1 : b = false := by rw [← HE.out]; exact decide_eq_false hr
        have e2 : decide (1 + r ≤ 10000) = false := decide_eq_false (by omega)
        subst e1
        go_wp2
        go_ret
        exact ⟨rfl, rfl⟩

theorem zzplain_any (s : ByteArray) (w : World) (b : Bool) (hs : s.size ≤ 1048576) (hp : Plain (bytes s) s.size) (hb : decide (amp (bytes s) s.size < 10000) = b) :
    Calls Try.prog 9 #[.string s] w fun e w' => e = .returned (.bool b) ∧ w' = w := by
  have H := plain_any s w b hs hp hb
  clear hp hb
  go_enter Try.func9, Try.ntmps9
  go_wp2_with (go_at_call 19; refine H.mono ?_; rintro e w' ⟨rfl, rfl⟩)
  go_ret
  exact ⟨rfl, rfl⟩
end Go.Proofs.Qxb6600046a
