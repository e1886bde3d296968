import Derived.Test.Qxb6000076aRows
import Derived.WalkKit
import Derived.WalkSpells
import Derived.Laws.BitsLemmas
namespace Go.Proofs.Qxb6000076a
open Go.RowKit
set_option linter.unusedVariables false

/-- the byte c is a hexadecimal digit, of value d -/
def HexV (c d : Int) : Prop := (48 ≤ c ∧ c ≤ 57 ∧ d = c - 48) ∨ (65 ≤ c ∧ c ≤ 70 ∧ d = c - 55) ∨ (97 ≤ c ∧ c ≤ 102 ∧ d = c - 87)

/-- the number that the first k digits write -/
def hv (f : Nat → Int) : Nat → Int
  | 0 => 0
  | k + 1 => hv f k * 16 + f k

theorem HexV.bd {c d : Int} (h : HexV c d) : 0 ≤ d ∧ d ≤ 15 := by unfold HexV at h; omega

theorem hv_bd {c d : Nat → Int} (hx : ∀ i, i < 4 → HexV (c i) (d i)) (k : Nat) (hk : k < 4) : 0 ≤ hv d k ∧ hv d k ≤ 4095 := by
  have h0 := (hx 0 (by omega)).bd
  have h1 := (hx 1 (by omega)).bd
  have h2 := (hx 2 (by omega)).bd
  match k, hk with
  | 0, _ => simp [hv]
  | 1, _ => simp [hv]; omega
  | 2, _ => simp [hv]; omega
  | 3, _ => simp [hv]; omega

theorem hv_bd4 {c d : Nat → Int} (hx : ∀ i, i < 4 → HexV (c i) (d i)) : 0 ≤ hv d 4 ∧ hv d 4 ≤ 65535 := by
  have h := hv_bd hx 3 (by omega)
  have h3 := (hx 3 (by omega)).bd
  have e : hv d 4 = hv d 3 * 16 + d 3 := rfl
  omega

theorem join16 (r x : Int) (h0 : 0 ≤ r) (h1 : r ≤ 4095) (h2 : 0 ≤ x) (h3 : x ≤ 15) : bits .or .i32 (wrap32 (r * 16)) x = r * 16 + x := by
  have e : wrap32 (r * 16) = r * 16 := by unfold wrap32; omega
  rw [e]
  exact bits_join .i32 31 (by decide) wraps_i32 4 (r * 16) x (by omega) (by omega) (by omega) h2 (by omega) (by omega)

theorem step16 {d : Nat → Int} {r x : Int} (k : Nat) (hr : hv d k = r) (hx : d k = x) (hb : 0 ≤ r ∧ r ≤ 4095) (h2 : 0 ≤ x) (h3 : x ≤ 15) :
    Value.int IntKind.i32 (bits .or .i32 (wrap32 (r * 16)) x) = .int .i32 (hv d (k + 1)) := by
  rw [join16 r x hb.1 hb.2 h2 h3, hv, hr, hx]

set_option maxHeartbeats 400000 in
theorem unit_any (b len cap : Nat) (c d : Nat → Int) (w : World) (hlen : 4 ≤ len) (hcap : len ≤ cap) (hm : cap ≤ 9223372036854775807)
    (hx : ∀ i, i < 4 → HexV (c i) (d i)) (hc : ∀ i, i < 4 → w.cell? ⟨b, i, none⟩ = some (.int .u8 (c i))) :
    Calls Try.prog 18 #[.slice (some ⟨b, 0, none⟩) len cap] w fun e w' => e = .returned (.int .i32 (hv d 4)) ∧ w' = w := by
  go_enter Try.func18, Try.ntmps18
  go_wp2
  go_loop [3, 9] (fun r i => ∃ k : Nat, k ≤ 4 ∧ i = .int .i64 k ∧ r = .int .i32 (hv d k)) (fun _ i => 4 - (intOf i).toNat)
  case atStart => exact ⟨0, Nat.zero_le _, rfl, rfl⟩
  case round =>
    obtain ⟨k, hk, rfl, rfl⟩ := hrel
    by_cases hlt : k < 4
    · have hcx := hc k hlt
      have hxx := hx k hlt
      have HB : Hid _ := hv_bd hx k hlt
      clear hc hx
      obtain ⟨r, hr⟩ : ∃ r, hv d k = r := ⟨_, rfl⟩
      rw [hr] at HB
      have HR : Hid (hv d k = r) := hr
      rw [hr]
      clear hr
      rcases hxx with ⟨h1, h2, h3⟩ | ⟨h1, h2, h3⟩ | ⟨h1, h2, h3⟩
      all_goals
        have H3 : Hid _ := h3
        clear h3
        go_wp2
        go_round
        case rel => exact ⟨k + 1, by omega, by go_num, step16 k HR.out (by have := H3.out; omega) HB.out (by omega) (by omega)⟩
        case measure => simp [intOf]; omega
    · have e : k = 4 := by omega
      subst e
      go_wp2
      go_ret
      exact ⟨rfl, rfl⟩

set_option maxHeartbeats 400000 in
theorem zzunit_any (b len cap : Nat) (c d : Nat → Int) (w : World) (hlen : 4 ≤ len) (hcap : len ≤ cap) (hm : cap ≤ 9223372036854775807)
    (hx : ∀ i, i < 4 → HexV (c i) (d i)) (hc : ∀ i, i < 4 → w.cell? ⟨b, i, none⟩ = some (.int .u8 (c i))) :
    Calls Try.prog 10 #[.slice (some ⟨b, 0, none⟩) len cap] w fun e w' => e = .returned (.int .i32 (hv d 4)) ∧ w' = w := by
  have H := unit_any b len cap c d w hlen hcap hm hx hc
  clear hx hc
  go_enter Try.func10, Try.ntmps10
  go_wp2_with (go_at_call 18; refine H.mono ?_; rintro e w' ⟨rfl, rfl⟩)
  go_ret
  exact ⟨rfl, rfl⟩
end Go.Proofs.Qxb6000076a
