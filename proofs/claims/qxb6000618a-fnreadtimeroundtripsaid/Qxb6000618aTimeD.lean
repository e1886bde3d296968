import Derived.Test.Qxb6000618aTimeC
import Derived.WalkLawsBesides
namespace Go.Proofs.Qxb6000618a
open Go.RowKit
set_option linter.unusedVariables false

set_option maxHeartbeats 1000000 in
theorem time1 (T : ByteArray) (h m s : Int) (w : World) (hT : T.size ≤ 2097152) (h8 : 8 ≤ T.size) (hh : 0 ≤ h) (hh' : h ≤ 23) (hm : 0 ≤ m) (hm' : m ≤ 59) (hs : 0 ≤ s) (hs' : s ≤ 59)
    (d0 : Two T 0 h) (d1 : Two T 3 m) (d2 : Two T 6 s) (c2 : ((T[2].toNat : Nat) : Int) = 58) (c5 : ((T[5].toNat : Nat) : Int) = 58) (hne : ∀ h9 : 9 ≤ T.size, ¬ ((T[8].toNat : Nat) : Int) = 46) :
    Calls Try.prog 28 #[.string T] w fun e w' => e = .returned (.tuple #[.int .i64 h, .int .i64 m, .int .i64 s, .int .i64 0, .string (T.extract 8 T.size), .bool true]) ∧ Below w.heap.size w w' := by
  have R0 := fun wx => rd2 T 0 h wx hT (by omega) hh (by omega) d0
  have R1 := fun wx => rd2 T 3 m wx hT (by omega) hm (by omega) d1
  have R2 := fun wx => rd2 T 6 s wx hT (by omega) hs (by omega) d2
  clear d0 d1 d2
  by_cases h9 : 9 ≤ T.size
  · have hx := hne h9
    obtain ⟨x, e8⟩ : ∃ x, ((T[8].toNat : Nat) : Int) = x := ⟨_, rfl⟩
    rw [e8] at hx
    have t5 : (x == 46) = false := by simpa using hx
    clear hne hx
    go_enter Try.func28, Try.ntmps28
    go_wp2_with fail
    refine (R0 _).mono ?_
    rintro e w1 ⟨rfl, b1⟩
    go_wp2_with fail
    refine (R1 _).mono ?_
    rintro e w2 ⟨rfl, b2⟩
    go_wp2_with fail
    refine (R2 _).mono ?_
    rintro e w3 ⟨rfl, b3⟩
    go_wp2_with fail
    go_region
    go_wp2
    exact bodyPost_ret (v := .tuple #[.int .i64 h, .int .i64 m, .int .i64 s, .int .i64 0, .string (T.extract 8 T.size), .bool true]) (by simp [results, Try.results28, go_sem]) rfl ⟨rfl, ((b1.trans (b2.mono b1.size)).trans (b3.mono (Nat.le_trans b1.size b2.size))).drew⟩
  · have t8 : decide ((8 : Int) < (T.size : Int)) = false := by simp; omega
    clear hne
    go_enter Try.func28, Try.ntmps28
    go_wp2_with fail
    refine (R0 _).mono ?_
    rintro e w1 ⟨rfl, b1⟩
    go_wp2_with fail
    refine (R1 _).mono ?_
    rintro e w2 ⟨rfl, b2⟩
    go_wp2_with fail
    refine (R2 _).mono ?_
    rintro e w3 ⟨rfl, b3⟩
    go_wp2_with fail
    go_region
    go_wp2
    exact bodyPost_ret (v := .tuple #[.int .i64 h, .int .i64 m, .int .i64 s, .int .i64 0, .string (T.extract 8 T.size), .bool true]) (by simp [results, Try.results28, go_sem]) rfl ⟨rfl, ((b1.trans (b2.mono b1.size)).trans (b3.mono (Nat.le_trans b1.size b2.size))).drew⟩

set_option maxRecDepth 100000 in
theorem rep0 (w : World) : Calls Try.prog 32 #[.string ⟨#[48]⟩, .int .i64 0] w fun e w' => e = .returned (.string ⟨#[]⟩) ∧ w' = w := by
  go_enter Try.func32, Try.ntmps32
  go_wp2
  go_ret
  exact ⟨rfl, rfl⟩
end Go.Proofs.Qxb6000618a
