import Derived.Test.Qxb6000618aTimeB
import Derived.BigRegion
namespace Go.Proofs.Qxb6000618a
open Go.RowKit
set_option linter.unusedVariables false

/-- two digits at offset i -/
def Two (T : ByteArray) (i : Nat) (h : Int) : Prop := (bytes T)[i]?.getD 0 = 48 + h / 10 ∧ (bytes T)[i + 1]?.getD 0 = 48 + h % 10

theorem rd2 (T : ByteArray) (i : Nat) (h : Int) (w : World) (hT : T.size ≤ 2097152) (hin : i + 2 ≤ T.size) (h0 : 0 ≤ h) (h1 : h ≤ 99) (hd : Two T i h) :
    Calls Try.prog 31 #[.string T, .int .i64 i, .int .i64 2] w fun e w' => e = .returned (.int .i64 h) ∧ Below w.heap.size w w' := by
  have H := rd_any T i 2 w hT hin (by omega) (fun k hk => by
    match k, hk with
    | 0, _ => rw [Nat.add_zero, hd.1]; omega
    | 1, _ => rw [hd.2]; omega)
  have e : dval (fun k => (bytes T)[i + k]?.getD 0) 2 = h := by
    simp only [dval]
    rw [Nat.add_zero, hd.1, hd.2]
    omega
  rw [e] at H
  exact H

set_option maxHeartbeats 1000000 in
theorem time0 (T : ByteArray) (h m : Int) (w : World) (hT : T.size ≤ 2097152) (h5 : 5 ≤ T.size) (hh : 0 ≤ h) (hh' : h ≤ 23) (hm : 0 ≤ m) (hm' : m ≤ 59)
    (d0 : Two T 0 h) (d1 : Two T 3 m) (c2 : ((T[2].toNat : Nat) : Int) = 58) (hne : ∀ h8 : 8 ≤ T.size, ¬ ((T[5].toNat : Nat) : Int) = 58) :
    Calls Try.prog 28 #[.string T] w fun e w' => e = .returned (.tuple #[.int .i64 h, .int .i64 m, .int .i64 0, .int .i64 0, .string (T.extract 5 T.size), .bool true]) ∧ Below w.heap.size w w' := by
  have R0 := fun wx => rd2 T 0 h wx hT (by omega) hh (by omega) d0
  have R1 := fun wx => rd2 T 3 m wx hT (by omega) hm (by omega) d1
  clear d0 d1
  by_cases h8 : 8 ≤ T.size
  · have hx := hne h8
    obtain ⟨x, e5⟩ : ∃ x, ((T[5].toNat : Nat) : Int) = x := ⟨_, rfl⟩
    rw [e5] at hx
    have t5 : (x == 58) = false := by simpa using hx
    clear hne hx
    go_enter Try.func28, Try.ntmps28
    go_wp2_with fail
    refine (R0 _).mono ?_
    rintro e w1 ⟨rfl, b1⟩
    go_wp2_with fail
    refine (R1 _).mono ?_
    rintro e w2 ⟨rfl, b2⟩
    go_wp2_with fail
    go_region
    go_wp2
    exact bodyPost_ret (v := .tuple #[.int .i64 h, .int .i64 m, .int .i64 0, .int .i64 0, .string (T.extract 5 T.size), .bool true]) (by simp [results, Try.results28, go_sem]) rfl ⟨rfl, (b1.trans (b2.mono b1.size)).drew⟩
  · have t8 : decide ((8 : Int) ≤ (T.size : Int)) = false := by simp; omega
    clear hne
    go_enter Try.func28, Try.ntmps28
    go_wp2_with fail
    refine (R0 _).mono ?_
    rintro e w1 ⟨rfl, b1⟩
    go_wp2_with fail
    refine (R1 _).mono ?_
    rintro e w2 ⟨rfl, b2⟩
    go_wp2_with fail
    go_region
    go_wp2
    exact bodyPost_ret (v := .tuple #[.int .i64 h, .int .i64 m, .int .i64 0, .int .i64 0, .string (T.extract 5 T.size), .bool true]) (by simp [results, Try.results28, go_sem]) rfl ⟨rfl, (b1.trans (b2.mono b1.size)).drew⟩
end Go.Proofs.Qxb6000618a
