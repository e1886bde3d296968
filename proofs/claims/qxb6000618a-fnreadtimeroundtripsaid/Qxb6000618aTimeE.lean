import Derived.Test.Qxb6000618aTimeD
namespace Go.Proofs.Qxb6000618a
open Go.RowKit
set_option linter.unusedVariables false

/-- nine digits at offset 9 -/
def Nine (T : ByteArray) (n : Int) : Prop := ∀ k, k < 9 → (bytes T)[9 + k]?.getD 0 = (nine n)[k]?.getD 0

theorem nine_dig (n : Int) (k : Nat) (hk : k < 9) : 48 ≤ (nine n)[k]?.getD 0 ∧ (nine n)[k]?.getD 0 ≤ 57 := by
  match k, hk with
  | 0, _ => simp [nine]; omega
  | 1, _ => simp [nine]; omega
  | 2, _ => simp [nine]; omega
  | 3, _ => simp [nine]; omega
  | 4, _ => simp [nine]; omega
  | 5, _ => simp [nine]; omega
  | 6, _ => simp [nine]; omega
  | 7, _ => simp [nine]; omega
  | 8, _ => simp [nine]; omega

theorem nine_val (n : Int) (h0 : 0 ≤ n) (h1 : n ≤ 999999999) : dval (fun k => (nine n)[k]?.getD 0) 9 = n := by
  simp [dval, nine]
  omega

theorem dval_congr {f g : Nat → Int} (k : Nat) (h : ∀ j, j < k → f j = g j) : dval f k = dval g k := by
  induction k with
  | zero => rfl
  | succ k ih => rw [dval, dval, ih (fun j hj => h j (by omega)), h k (by omega)]

theorem extract_bytes (T : ByteArray) (k : Nat) (h : 18 ≤ T.size) (hk : k < 9) : (bytes (T.extract 9 18 ++ ⟨#[]⟩))[0 + k]?.getD 0 = (bytes T)[9 + k]?.getD 0 := by
  have e : T.extract 9 18 ++ ⟨#[]⟩ = T.extract 9 18 := by
    apply ByteArray.ext
    rw [ByteArray.data_append]
    simp
  have hs : (T.extract 9 18).size = 9 := by rw [ByteArray.size_extract]; omega
  rw [e, Nat.zero_add, bytes_at _ k (by omega), bytes_at _ (9 + k) (by omega)]
  rw [ByteArray.getElem_extract]

theorem rd9 (T : ByteArray) (n : Int) (w : World) (h18 : 18 ≤ T.size) (h0 : 0 ≤ n) (h1 : n ≤ 999999999) (hd : Nine T n) :
    Calls Try.prog 31 #[.string (T.extract 9 18 ++ ⟨#[]⟩), .int .i64 0, .int .i64 9] w fun e w' => e = .returned (.int .i64 n) ∧ Below w.heap.size w w' := by
  have hs : (T.extract 9 18 ++ ⟨#[]⟩ : ByteArray).size = 9 := by
    rw [ByteArray.size_append, ByteArray.size_extract]
    show min 18 T.size - 9 + 0 = 9
    omega
  have hf : ∀ k, k < 9 → (bytes (T.extract 9 18 ++ ⟨#[]⟩))[0 + k]?.getD 0 = (nine n)[k]?.getD 0 := fun k hk => by rw [extract_bytes T k h18 hk, hd k hk]
  have H := rd_any (T.extract 9 18 ++ ⟨#[]⟩) 0 9 w (by omega) (by omega) (by omega) (fun k hk => by rw [hf k hk]; exact nine_dig n k hk)
  rw [dval_congr 9 hf, nine_val n h0 h1] at H
  exact H

set_option maxHeartbeats 2000000 in
theorem time2 (T : ByteArray) (h m s n : Int) (w : World) (hT : T.size ≤ 2097152) (h18 : 18 ≤ T.size) (hh : 0 ≤ h) (hh' : h ≤ 23) (hm : 0 ≤ m) (hm' : m ≤ 59) (hs : 0 ≤ s) (hs' : s ≤ 59) (hn : 0 ≤ n) (hn' : n ≤ 999999999)
    (d0 : Two T 0 h) (d1 : Two T 3 m) (d2 : Two T 6 s) (d9 : Nine T n) (c2 : ((T[2].toNat : Nat) : Int) = 58) (c5 : ((T[5].toNat : Nat) : Int) = 58) (c8 : ((T[8].toNat : Nat) : Int) = 46)
    (hne : ∀ h19 : 19 ≤ T.size, Run.dig ((T[18].toNat : Nat) : Int) = false) :
    Calls Try.prog 28 #[.string T] w fun e w' => e = .returned (.tuple #[.int .i64 h, .int .i64 m, .int .i64 s, .int .i64 n, .string (T.extract 18 T.size), .bool true]) ∧ Below w.heap.size w w' := by
  have R0 := fun wx => rd2 T 0 h wx hT (by omega) hh (by omega) d0
  have R1 := fun wx => rd2 T 3 m wx hT (by omega) hm (by omega) d1
  have R2 := fun wx => rd2 T 6 s wx hT (by omega) hs (by omega) d2
  have R9 := fun wx => rd9 T n wx h18 hn hn' d9
  have hsz : (T.extract 9 18).size = 9 := by rw [ByteArray.size_extract]; omega
  have HD9 : Hid _ := d9
  clear d0 d1 d2 d9
  have HNE : Hid _ := hne
  clear hne
  go_enter Try.func28, Try.ntmps28
  go_wp2_with fail
  refine (R0 _).mono ?_
  rintro e w1 ⟨rfl, b1⟩
  go_wp2_with fail
  refine (R1 _).mono ?_
  rintro e w2 ⟨rfl, b2⟩
  go_wp2_with fail
  refine (R2 _).mono ?_
  rintro e w3 ⟨rfl, b3⟩
  go_wp2_with fail
  go_loop [9] (fun t => ∃ j : Nat, 9 ≤ j ∧ j ≤ 18 ∧ t = .int .i64 j) (fun t => 18 - (intOf t).toNat)
  case atStart => exact ⟨9, by omega, by omega, rfl⟩
  case round =>
    clear R0 R1 R2
    obtain ⟨j, hj1, hj2, rfl⟩ := hrel
    by_cases hlt : j < 18
    · have hx := HD9.out (j - 9) (by omega)
      have hx2 := nine_dig n (j - 9) (by omega)
      rw [← hx, show 9 + (j - 9) = j by omega, bytes_at T j (by omega)] at hx2
      obtain ⟨x, ex⟩ : ∃ x, ((T[j].toNat : Nat) : Int) = x := ⟨_, rfl⟩
      rw [ex] at hx2
      have HD := fun wx => isd_any x wx
      rw [Run.dig_t hx2.1 hx2.2] at HD
      clear hx hx2 R9
      go_wp2_with (go_at_call 29; refine (HD _).mono ?_; rintro e w' ⟨rfl, rfl⟩)
      go_round
      case rel => exact ⟨j + 1, by omega, by omega, by go_num⟩
      case measure => simp [intOf]; omega
    · have e18 : j = 18 := by omega
      subst e18
      by_cases h19 : 19 ≤ T.size
      · have hx := HNE.out h19
        obtain ⟨x, ex⟩ : ∃ x, ((T[18].toNat : Nat) : Int) = x := ⟨_, rfl⟩
        rw [ex] at hx
        have HD := fun wx => isd_any x wx
        rw [hx] at HD
        clear hx
        go_wp2_with (first | (go_at_call 29; refine (HD _).mono ?_; rintro e w' ⟨rfl, rfl⟩) | (go_at_call 32; refine (rep0 _).mono ?_; rintro e w' ⟨rfl, rfl⟩))
        refine (R9 _).mono ?_
        rintro e w4 ⟨rfl, b4⟩
        have bel := ((b1.trans (b2.mono b1.size)).trans (b3.mono (Nat.le_trans b1.size b2.size))).trans (b4.mono (Nat.le_trans (Nat.le_trans b1.size b2.size) b3.size))
        go_wp2_with fail
        go_region
        go_wp2
        exact bodyPost_ret (v := .tuple #[.int .i64 h, .int .i64 m, .int .i64 s, .int .i64 n, .string (T.extract 18 T.size), .bool true]) (by simp [results, Try.results28, go_sem]) rfl ⟨rfl, bel.drew⟩
      · have t18 : decide ((18 : Int) < (T.size : Int)) = false := by simp; omega
        go_wp2_with (go_at_call 32; refine (rep0 _).mono ?_; rintro e w' ⟨rfl, rfl⟩)
        refine (R9 _).mono ?_
        rintro e w4 ⟨rfl, b4⟩
        have bel := ((b1.trans (b2.mono b1.size)).trans (b3.mono (Nat.le_trans b1.size b2.size))).trans (b4.mono (Nat.le_trans (Nat.le_trans b1.size b2.size) b3.size))
        go_wp2_with fail
        go_region
        go_wp2
        exact bodyPost_ret (v := .tuple #[.int .i64 h, .int .i64 m, .int .i64 s, .int .i64 n, .string (T.extract 18 T.size), .bool true]) (by simp [results, Try.results28, go_sem]) rfl ⟨rfl, bel.drew⟩

/-- ZZreadTime hands readTime's answer on -/
theorem zztime {T : ByteArray} {w : World} {a b c d : Int} {r : ByteArray} (H : Calls Try.prog 28 #[.string T] w fun e w' => e = .returned (.tuple #[.int .i64 a, .int .i64 b, .int .i64 c, .int .i64 d, .string r, .bool true]) ∧ Below w.heap.size w w') :
    Calls Try.prog 24 #[.string T] w fun e w' => e = .returned (.tuple #[.int .i64 a, .int .i64 b, .int .i64 c, .int .i64 d, .string r, .bool true]) ∧ Below w.heap.size w w' := by
  go_enter Try.func24, Try.ntmps24
  go_wp2_with (go_at_call 28; refine H.mono ?_; rintro e w' ⟨rfl, bel⟩)
  exact bodyPost_ret (v := .tuple #[.int .i64 a, .int .i64 b, .int .i64 c, .int .i64 d, .string r, .bool true]) (by simp [results, Try.results24, go_sem]) rfl ⟨rfl, bel⟩
end Go.Proofs.Qxb6000618a
