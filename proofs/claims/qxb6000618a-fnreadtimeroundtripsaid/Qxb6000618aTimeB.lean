import Derived.Test.Qxb6000618aTimeA
namespace Go.Proofs.Qxb6000618a
open Go.RowKit
set_option linter.unusedVariables false

/-- the number that the digits f 0, f 1, .. write -/
def dval (f : Nat → Int) : Nat → Int
  | 0 => 0
  | k + 1 => 10 * dval f k + (f k - 48)

theorem dval_bd (f : Nat → Int) (k : Nat) (h : ∀ j, j < k → 48 ≤ f j ∧ f j ≤ 57) : 0 ≤ dval f k ∧ dval f k < (10 : Int) ^ k := by
  induction k with
  | zero => simp [dval]
  | succ k ih =>
    have h1 := ih (fun j hj => h j (by omega))
    have h2 := h k (by omega)
    rw [Int.pow_succ, dval]
    omega
theorem pow_le (k : Nat) (h : k ≤ 8) : (10 : Int) ^ k ≤ 100000000 := by
  have H : ∀ j : Fin 9, (10 : Int) ^ j.val ≤ 100000000 := by decide
  exact H ⟨k, by omega⟩

theorem bytes_extract (T : ByteArray) (i n : Nat) (h : i + n ≤ T.size) : (T.extract i (i + n)).size = n := by
  rw [ByteArray.size_extract]; omega

theorem bytes_conv (w : World) (T : ByteArray) (i n : Nat) (h : i + n ≤ T.size) : ∃ C W1, (convert 9 32 (.string (T.extract i (i + n)))).run Try.prog w = .ok (.slice (some ⟨w.heap.size, 0, none⟩) n C) W1 ∧
    (∀ k, k < n → W1.cell? ⟨w.heap.size, k, none⟩ = some (.int .u8 ((bytes T)[i + k]?.getD 0))) ∧ Below w.heap.size w W1 := by
  have hb := run_bytes_of_string (P := Try.prog) w 9 32 5 (T.extract i (i + n)) Try.underlying9 Try.underlying32 Try.underlying5
  rw [bytes_extract T i n h] at hb
  refine ⟨_, _, hb, fun k hk => ?_, ?_⟩
  · rw [World.alloc_drew]
    show (w.alloc _).cell? _ = _
    rw [World.cell?_alloc_mark]
    have hl : k < (T.extract i (i + n)).data.size := by
      have := bytes_extract T i n h
      show k < (T.extract i (i + n)).size
      omega
    unfold bytesRow
    rw [Array.getElem?_append_left (by simpa using hl)]
    simp only [Array.getElem?_map, Array.getElem?_eq_getElem hl, Option.map_some]
    rw [bytes_at T (i + k) (by omega)]
    have e : (T.extract i (i + n)).data[k] = T[i + k] := ByteArray.getElem_extract (b := T) (start := i) (stop := i + n) (h := hl)
    rw [e]
  · exact (Below.refl _ _).drew.alloc (Nat.le_refl _) _

set_option maxHeartbeats 1000000 in
theorem rd_any (T : ByteArray) (i n : Nat) (w : World) (hT : T.size ≤ 2097152) (hin : i + n ≤ T.size) (hn : n ≤ 9) (hd : ∀ k, k < n → 48 ≤ (bytes T)[i + k]?.getD 0 ∧ (bytes T)[i + k]?.getD 0 ≤ 57) :
    Calls Try.prog 31 #[.string T, .int .i64 i, .int .i64 n] w fun e w' => e = .returned (.int .i64 (dval (fun k => (bytes T)[i + k]?.getD 0) n)) ∧ Below w.heap.size w w' := by
  obtain ⟨C, W1, hconv, hcell, hbel⟩ := bytes_conv w T i n hin
  go_enter Try.func31, Try.ntmps31
  go_wp2
  go_loop [7, 24] (fun v t => ∃ k : Nat, k ≤ n ∧ t = .int .i64 k ∧ v = .int .i64 (dval (fun k => (bytes T)[i + k]?.getD 0) k)) (fun _ t => n - (intOf t).toNat)
  case atStart => exact ⟨0, Nat.zero_le _, rfl, rfl⟩
  case round =>
    obtain ⟨k, hk, rfl, rfl⟩ := hrel
    by_cases hlt : k < n
    · have hcx := hcell k hlt
      obtain ⟨hx1, hx2⟩ := hd k hlt
      have hb := dval_bd (fun k => (bytes T)[i + k]?.getD 0) k (fun j hj => hd j (by omega))
      have hp := pow_le k (by omega)
      obtain ⟨r, hr⟩ : ∃ r, dval (fun k => (bytes T)[i + k]?.getD 0) k = r := ⟨_, rfl⟩
      obtain ⟨x, hx⟩ : ∃ x, (bytes T)[i + k]?.getD 0 = x := ⟨_, rfl⟩
      have HS : Hid (dval (fun k => (bytes T)[i + k]?.getD 0) (k + 1) = 10 * r + (x - 48)) := by
        show dval _ (k + 1) = _
        rw [dval, hr, hx]
      rw [hr] at hb
      rw [hx] at hcx hx1 hx2
      rw [hr]
      have hr0 : 0 ≤ r := hb.1
      have hr1 : r ≤ 100000000 := by omega
      have HD := fun wx => isd_any x wx
      rw [Run.dig_t hx1 hx2] at HD
      clear hb hp hr hx hcell hd
      go_wp2_with (go_at_call 29; refine (HD _).mono ?_; rintro e w' ⟨rfl, rfl⟩)
      go_round
      case rel => exact ⟨k + 1, by omega, by go_num, by rw [HS.out]⟩
      case measure => simp [intOf]; omega
    · have e : k = n := by omega
      subst e
      go_wp2
      go_ret
      exact ⟨rfl, hbel⟩
end Go.Proofs.Qxb6000618a
