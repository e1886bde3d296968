import Derived.Test.Qxb6000076aClone
import Derived.Test.Qxb6000076aDigit
namespace Go.Proofs.Qxb6000076a
open Go.RowKit
set_option linter.unusedVariables false

/-- the value of a digit, reckoned -/
def hexval (c : Int) : Int := if c ≤ 57 then c - 48 else if c ≤ 70 then c - 55 else c - 87
theorem HexV.eq {c d : Int} (h : HexV c d) : d = hexval c := by
  unfold HexV at h
  unfold hexval
  split
  · omega
  · split <;> omega

theorem hv_lt (d : Nat → Int) (k : Nat) (h : ∀ i, i < k → 0 ≤ d i ∧ d i ≤ 15) : 0 ≤ hv d k ∧ hv d k < (16 : Int) ^ k := by
  induction k with
  | zero => simp [hv]
  | succ k ih =>
    have h1 := ih (fun i hi => h i (by omega))
    have h2 := h k (by omega)
    rw [Int.pow_succ, hv]
    omega

theorem hv_le (d : Nat → Int) (k : Nat) (hk : k < 4) (h : ∀ i, i < k → 0 ≤ d i ∧ d i ≤ 15) : 0 ≤ hv d k ∧ hv d k ≤ 4095 := by
  have h1 := hv_lt d k h
  have h2 : (16 : Int) ^ k ≤ 4096 := by
    match k, hk with
    | 0, _ => decide
    | 1, _ => decide
    | 2, _ => decide
    | 3, _ => decide
  omega

/-- too short or too long: nothing is looked at -/
theorem hex_out (a : Option Addr) (len cap : Nat) (w : World) (hm : len ≤ 9223372036854775807) (h : len < 4 ∨ 1048576 < len) :
    Calls Try.prog 3 #[.slice a len cap] w fun e w' => e = .returned (.bool true) ∧ Below w.heap.size w w' := by
  rcases h with h | h
  · go_enter Try.func3, Try.ntmps3
    go_wp2
    go_ret
    exact ⟨rfl, Below.refl _ _⟩
  · go_enter Try.func3, Try.ntmps3
    go_wp2
    go_ret
    exact ⟨rfl, Below.refl _ _⟩

/-- the cells of a copied row, one by one -/
theorem row_cells {w : World} {base g len cap : Nat} {zs : List Int} (h : w.ownsRow base 5 1 (.slice (some ⟨g, 0, none⟩) len cap) len ((zs.take len).map (Value.int .u8))) (hl : len ≤ zs.length) :
    ∀ i, i < len → w.cell? ⟨g, i, none⟩ = some (.int .u8 (zs[i]?.getD 0)) := by
  intro i hi
  rw [h.cellAt i (by omega)]
  simp [hi, show i < zs.length by omega]

set_option maxHeartbeats 400000 in
theorem hex_in (b off len cap : Nat) (zs : List Int) (w : World) (hlen : len ≤ zs.length) (h4 : 4 ≤ len) (hm : len ≤ 1048576)
    (hb : b < w.heap.size) (hc : ∀ i, i < len → w.cell? ⟨b, off + i, none⟩ = some (.int .u8 (zs[i]?.getD 0))) (hz : ∀ i : Nat, 0 ≤ zs[i]?.getD 0 ∧ zs[i]?.getD 0 ≤ 255) :
    Calls Try.prog 3 #[.slice (some ⟨b, off, none⟩) len cap] w fun e w' => e = .returned (.bool true) ∧ Below w.heap.size w w' := by
  have HC := clone_any b off len cap zs w hlen hm hb hc
  clear hc
  go_enter Try.func3, Try.ntmps3
  go_wp2_with (first | (go_at_call 8; refine HC.mono ?_; rintro e w1 ⟨rfl, hown, hbel⟩) | (go_at_call 7; go_in))
  clear HC
  have hcl := row_cells hown hlen
  clear hown
  go_loop [3, 4] (fun v i => ∃ k : Nat, k ≤ 4 ∧ i = .int .i64 k ∧ v = .int .i64 (hv (fun i => hexval (zs[i]?.getD 0)) k) ∧ (∀ i, i < k → HexV (zs[i]?.getD 0) (hexval (zs[i]?.getD 0)))) (fun _ i => 4 - (intOf i).toNat)
  case atStart => exact ⟨0, Nat.zero_le _, rfl, rfl, by intro i h; omega⟩
  case round =>
    obtain ⟨k, hk, rfl, rfl, hx⟩ := hrel
    by_cases hlt : k < 4
    · have hcx := hcl k (by omega)
      obtain ⟨hz1, hz2⟩ := hz k
      have HX : Hid _ := hx
      have HCL : Hid _ := hcl
      have HZ : Hid _ := hz
      clear hx hcl hz
      obtain ⟨r, hr⟩ : ∃ r, hv (fun i => hexval (zs[i]?.getD 0)) k = r := ⟨_, rfl⟩
      have hrb : 0 ≤ r ∧ r ≤ 4095 := by
        rw [← hr]
        exact hv_le _ k hlt (fun i hi => (HX.out i hi).bd)
      obtain ⟨hr1, hr2⟩ := hrb
      have HR : Hid _ := hr
      rw [hr]
      clear hr
      go_wp2_with fail
      refine (digit_any _ hz1 hz2 _).mono ?_
      rintro e w' ⟨rfl, rfl | ⟨d, rfl, hd⟩⟩
      · go_wp2
        go_ret
        exact ⟨rfl, hbel⟩
      · have hdb := hd.bd
        obtain ⟨hd1, hd2⟩ := hdb
        have HD : Hid (HexV (zs[k]?.getD 0) d) := hd
        clear hd
        go_wp2
        go_round
        case rel =>
          have e := HexV.eq HD.out
          refine ⟨k + 1, by omega, by go_num, ?_, ?_⟩
          · rw [hv, HR.out, ← e]
          · intro i hi
            by_cases hik : i < k
            · exact HX.out i hik
            · have : i = k := by omega
              subst this
              rw [← e]
              exact HD.out
        case measure => simp [intOf]; omega
    · have e : k = 4 := by omega
      subst e
      have hb4 := hv_bd4 hx
      have HU := zzunit_any w.heap.size len len (fun i => zs[i]?.getD 0) (fun i => hexval (zs[i]?.getD 0)) w1 h4 (Nat.le_refl _) (by omega) hx (fun i hi => hcl i (by omega))
      obtain ⟨r, hr⟩ : ∃ r, hv (fun i => hexval (zs[i]?.getD 0)) 4 = r := ⟨_, rfl⟩
      rw [hr] at hb4 HU
      rw [hr]
      clear hx hcl hr hz
      go_wp2_with (go_at_call 10; refine HU.mono ?_; rintro e w' ⟨rfl, rfl⟩)
      go_ret
      exact ⟨rfl, hbel⟩
end Go.Proofs.Qxb6000076a
