import Derived.Test.Qxb6000076aRows
import Derived.Test.Qxb6000076aScan
import Derived.WalkKit
import Derived.WalkSpells
namespace Go.Proofs.Qxb6000076a
open Go.RowKit
set_option linter.unusedVariables false

theorem ne_of_beqf {a b : Int} (h : (a == b) = false) : ¬ a = b := by simpa using h

set_option maxHeartbeats 1000000 in
theorem count_any (b len cap : Nat) (zs : List Int) (N : Int) (w : World) (hz : zs.length = len) (hm : len ≤ 1000000000) (hmc : len ≤ cap)
    (hend : Scan.run zs Scan.s0 = ⟨0, 0, N⟩) (hc : ∀ i, i < len → w.cell? ⟨b, i, none⟩ = some (.int .u8 (zs[i]?.getD 0))) :
    Calls Try.prog 21 #[.slice (some ⟨b, 0, none⟩) len cap] w fun e w' => e = .returned (.int .i64 N) ∧ w' = w := by
  have hend0 : Hid ((Scan.run zs Scan.s0).m = 0) := by rw [hend]; rfl
  have HE : Hid _ := hend
  have HZ : Hid (zs.length = len) := hz
  clear hend hz
  go_enter Try.func21, Try.ntmps21
  go_wp2
  go_loop [3, 4, 5] (fun n d i => ∃ (k : Nat) (dv nv : Int), k ≤ len ∧ i = .int .i64 k ∧ d = .int .i64 dv ∧ n = .int .i64 nv ∧ Scan.at_ zs k = ⟨0, dv, nv⟩) (fun _ _ i => len - (intOf i).toNat)
  case atStart => exact ⟨0, 0, 1, Nat.zero_le _, rfl, rfl, rfl, rfl⟩
  case round =>
    obtain ⟨k, dv, nv, hk, rfl, rfl, rfl, hst⟩ := hrel
    have HST : Hid _ := hst
    have hbd := Scan.at_bd zs k (by have := HZ.out; omega)
    rw [hst] at hbd
    obtain ⟨hb1, hb2, hb3, hb4⟩ := hbd
    clear hst
    simp only at hb1 hb2 hb3 hb4
    by_cases hlt : k < len
    · have hcx := hc k hlt
      have HC : Hid _ := hc
      clear hc
      obtain ⟨c, hcv⟩ : ∃ c, zs[k]?.getD 0 = c := ⟨_, rfl⟩
      rw [hcv] at hcx
      have HCV : Hid _ := hcv
      clear hcv
      by_cases h34 : c = 34
      · have hq : (c == 34) = true := by simpa using h34
        have H1 : Hid _ := Scan.nx_quote (by have := HZ.out; omega) HCV.out HST.out h34
        clear h34
        go_wp2
        go_loop [5] (fun i => ∃ j : Nat, k < j ∧ j ≤ len ∧ i = .int .i64 j ∧ Scan.at_ zs j = ⟨1, dv, nv⟩) (fun i => len - (intOf i).toNat)
        case atStart => exact ⟨k + 1, by omega, by omega, by go_num, H1.out⟩
        case round =>
          obtain ⟨j, hkj, hj, rfl, hstj⟩ := hrel
          have hjl : j < len := by have := Scan.not_end (by have := HZ.out; omega) hend0.out hstj (by omega); have := HZ.out; omega
          have HSJ : Hid _ := hstj
          clear hstj
          have hcj := HC.out j hjl
          obtain ⟨e, hev⟩ : ∃ e, zs[j]?.getD 0 = e := ⟨_, rfl⟩
          rw [hev] at hcj
          have HEV : Hid _ := hev
          clear hev
          by_cases he : e = 34
          · have hq' : (e != 34) = false := by simpa using he
            have H2 : Hid _ := Scan.nx_in_quote (by have := HZ.out; omega) HEV.out HSJ.out he
            clear he
            go_wp2
            go_round
            case rel => exact ⟨j + 1, dv, nv, by omega, by go_num, rfl, rfl, H2.out⟩
            case measure => simp [intOf]; omega
          · have hq' : (e != 34) = true := by simpa using he
            by_cases hs : e = 92
            · have hs' : (e == 92) = true := by simpa using hs
              have H2 := Scan.nx_in_slash (by have := HZ.out; omega) HEV.out HSJ.out hs
              have hj1 : j + 1 < len := by have := Scan.not_end (by have := HZ.out; omega) hend0.out H2 (by omega); have := HZ.out; omega
              have H3 : Hid _ := Scan.nx_slashed (by have := HZ.out; omega) H2
              clear he hs H2
              go_wp2
              go_round
              case rel => exact ⟨j + 1 + 1, by omega, by omega, by go_num, H3.out⟩
              case measure => simp [intOf]; omega
            · have hs' : (e == 92) = false := by simpa using hs
              have H3 : Hid _ := Scan.nx_in_other (by have := HZ.out; omega) HEV.out HSJ.out he hs
              clear he hs
              go_wp2
              go_round
              case rel => exact ⟨j + 1, by omega, by omega, by go_num, H3.out⟩
              case measure => simp [intOf]; omega
      · have hq : (c == 34) = false := by simpa using h34
        have HQ : Hid _ := h34
        have HL : Hid (k < zs.length) := by have := HZ.out; show k < zs.length; omega
        clear h34
        go_wp2
        all_goals
          go_round
          case rel => first
            | exact ⟨k + 1, dv + 1, nv, by omega, by go_num, rfl, rfl, Scan.nx_open HL.out HCV.out HST.out (.inl (eq_of_beq (by assumption : (c == 123) = true)))⟩
            | exact ⟨k + 1, dv + 1, nv, by omega, by go_num, rfl, rfl, Scan.nx_open HL.out HCV.out HST.out (.inr (eq_of_beq (by assumption : (c == 91) = true)))⟩
            | exact ⟨k + 1, dv - 1, nv, by omega, by go_num, rfl, rfl, Scan.nx_close HL.out HCV.out HST.out (.inl (eq_of_beq (by assumption : (c == 125) = true)))⟩
            | exact ⟨k + 1, dv - 1, nv, by omega, by go_num, rfl, rfl, Scan.nx_close HL.out HCV.out HST.out (.inr (eq_of_beq (by assumption : (c == 93) = true)))⟩
            | exact ⟨k + 1, dv, nv + 1, by omega, by go_num, rfl, rfl, Scan.nx_comma HL.out HCV.out HST.out (eq_of_beq (by assumption : (c == 44) = true)) (eq_of_beq (by assumption : (dv == 1) = true))⟩
            | exact ⟨k + 1, dv, nv, by omega, by go_num, rfl, rfl, Scan.nx_comma' HL.out HCV.out HST.out (eq_of_beq (by assumption : (c == 44) = true)) (ne_of_beqf (by assumption : (dv == 1) = false))⟩
            | exact ⟨k + 1, dv, nv, by omega, by go_num, rfl, rfl, Scan.nx_other HL.out HCV.out HST.out HQ.out (ne_of_beqf (by assumption : (c == 123) = false)) (ne_of_beqf (by assumption : (c == 91) = false)) (ne_of_beqf (by assumption : (c == 125) = false)) (ne_of_beqf (by assumption : (c == 93) = false)) (ne_of_beqf (by assumption : (c == 44) = false))⟩
          case measure => simp [intOf]; omega
    · have hE : nv = N := by
        have h1 := HST.out
        have e : k = zs.length := by have := HZ.out; omega
        unfold Scan.at_ at h1
        rw [e, List.take_length, HE.out] at h1
        exact (congrArg Scan.St.n h1).symm
      have HEQ : Hid _ := hE
      clear hE
      go_wp2
      go_ret
      exact ⟨by rw [← HEQ.out]; rfl, rfl⟩

set_option maxHeartbeats 400000 in
theorem zzcount_any (b len cap : Nat) (zs : List Int) (N : Int) (w : World) (hz : zs.length = len) (hm : len ≤ 1000000000) (hmc : len ≤ cap)
    (hend : Scan.run zs Scan.s0 = ⟨0, 0, N⟩) (hc : ∀ i, i < len → w.cell? ⟨b, i, none⟩ = some (.int .u8 (zs[i]?.getD 0))) :
    Calls Try.prog 14 #[.slice (some ⟨b, 0, none⟩) len cap] w fun e w' => e = .returned (.int .i64 N) ∧ w' = w := by
  have H := count_any b len cap zs N w hz hm hmc hend hc
  clear hz hend hc
  go_enter Try.func14, Try.ntmps14
  go_wp2_with (go_at_call 21; refine H.mono ?_; rintro e w' ⟨rfl, rfl⟩)
  go_ret
  exact ⟨rfl, rfl⟩
end Go.Proofs.Qxb6000076a
