import Derived.Test.Qxb6000618aTimeF
namespace Go.Proofs.Qxb6000618a
open Go.RowKit
set_option linter.unusedVariables false

set_option maxHeartbeats 400000 in
theorem law_big (h m s n f : Int) (R : ByteArray) (w : World) (hR : R.size ≤ 9223372036854775807) (hb : 1048576 < R.size) :
    Calls Try.prog 8 #[.int .i64 h, .int .i64 m, .int .i64 s, .int .i64 n, .int .i64 f, .string R] w fun e w' => e = .returned (.bool true) ∧ Below w.heap.size w w' := by
  go_enter Try.func8, Try.ntmps8
  go_wp2
  go_ret
  exact ⟨rfl, Below.refl _ _⟩

set_option maxRecDepth 100000 in
set_option maxHeartbeats 1000000 in
theorem law_h0 (h m s n f : Int) (R : ByteArray) (w : World) (hR : R.size ≤ 1048576)  (hb : h < 0) :
    Calls Try.prog 8 #[.int .i64 h, .int .i64 m, .int .i64 s, .int .i64 n, .int .i64 f, .string R] w fun e w' => e = .returned (.bool true) ∧ Below w.heap.size w w' := by
  go_enter Try.func8, Try.ntmps8
  go_wp2
  go_ret
  exact ⟨rfl, Below.refl _ _⟩

set_option maxRecDepth 100000 in
set_option maxHeartbeats 1000000 in
theorem law_h1 (h m s n f : Int) (R : ByteArray) (w : World) (hR : R.size ≤ 1048576) (h0 : 0 ≤ h) (hb : 23 < h) :
    Calls Try.prog 8 #[.int .i64 h, .int .i64 m, .int .i64 s, .int .i64 n, .int .i64 f, .string R] w fun e w' => e = .returned (.bool true) ∧ Below w.heap.size w w' := by
  go_enter Try.func8, Try.ntmps8
  go_wp2
  go_ret
  exact ⟨rfl, Below.refl _ _⟩

set_option maxRecDepth 100000 in
set_option maxHeartbeats 1000000 in
theorem law_m0 (h m s n f : Int) (R : ByteArray) (w : World) (hR : R.size ≤ 1048576) (h0 : 0 ≤ h) (h1 : h ≤ 23) (hb : m < 0) :
    Calls Try.prog 8 #[.int .i64 h, .int .i64 m, .int .i64 s, .int .i64 n, .int .i64 f, .string R] w fun e w' => e = .returned (.bool true) ∧ Below w.heap.size w w' := by
  go_enter Try.func8, Try.ntmps8
  go_wp2
  go_ret
  exact ⟨rfl, Below.refl _ _⟩

set_option maxRecDepth 100000 in
set_option maxHeartbeats 1000000 in
theorem law_m1 (h m s n f : Int) (R : ByteArray) (w : World) (hR : R.size ≤ 1048576) (h0 : 0 ≤ h) (h1 : h ≤ 23) (m0 : 0 ≤ m) (hb : 59 < m) :
    Calls Try.prog 8 #[.int .i64 h, .int .i64 m, .int .i64 s, .int .i64 n, .int .i64 f, .string R] w fun e w' => e = .returned (.bool true) ∧ Below w.heap.size w w' := by
  go_enter Try.func8, Try.ntmps8
  go_wp2
  go_ret
  exact ⟨rfl, Below.refl _ _⟩

set_option maxRecDepth 100000 in
set_option maxHeartbeats 1000000 in
theorem law_s0 (h m s n f : Int) (R : ByteArray) (w : World) (hR : R.size ≤ 1048576) (h0 : 0 ≤ h) (h1 : h ≤ 23) (m0 : 0 ≤ m) (m1 : m ≤ 59) (hb : s < 0) :
    Calls Try.prog 8 #[.int .i64 h, .int .i64 m, .int .i64 s, .int .i64 n, .int .i64 f, .string R] w fun e w' => e = .returned (.bool true) ∧ Below w.heap.size w w' := by
  go_enter Try.func8, Try.ntmps8
  go_wp2
  go_ret
  exact ⟨rfl, Below.refl _ _⟩

set_option maxRecDepth 100000 in
set_option maxHeartbeats 1000000 in
theorem law_s1 (h m s n f : Int) (R : ByteArray) (w : World) (hR : R.size ≤ 1048576) (h0 : 0 ≤ h) (h1 : h ≤ 23) (m0 : 0 ≤ m) (m1 : m ≤ 59) (s0 : 0 ≤ s) (hb : 59 < s) :
    Calls Try.prog 8 #[.int .i64 h, .int .i64 m, .int .i64 s, .int .i64 n, .int .i64 f, .string R] w fun e w' => e = .returned (.bool true) ∧ Below w.heap.size w w' := by
  go_enter Try.func8, Try.ntmps8
  go_wp2
  go_ret
  exact ⟨rfl, Below.refl _ _⟩

set_option maxRecDepth 100000 in
set_option maxHeartbeats 1000000 in
theorem law_n0 (h m s n f : Int) (R : ByteArray) (w : World) (hR : R.size ≤ 1048576) (h0 : 0 ≤ h) (h1 : h ≤ 23) (m0 : 0 ≤ m) (m1 : m ≤ 59) (s0 : 0 ≤ s) (s1 : s ≤ 59) (hb : n < 0) :
    Calls Try.prog 8 #[.int .i64 h, .int .i64 m, .int .i64 s, .int .i64 n, .int .i64 f, .string R] w fun e w' => e = .returned (.bool true) ∧ Below w.heap.size w w' := by
  go_enter Try.func8, Try.ntmps8
  go_wp2
  go_ret
  exact ⟨rfl, Below.refl _ _⟩

set_option maxRecDepth 100000 in
set_option maxHeartbeats 1000000 in
theorem law_n1 (h m s n f : Int) (R : ByteArray) (w : World) (hR : R.size ≤ 1048576) (h0 : 0 ≤ h) (h1 : h ≤ 23) (m0 : 0 ≤ m) (m1 : m ≤ 59) (s0 : 0 ≤ s) (s1 : s ≤ 59) (n0 : 0 ≤ n) (hb : 999999999 < n) :
    Calls Try.prog 8 #[.int .i64 h, .int .i64 m, .int .i64 s, .int .i64 n, .int .i64 f, .string R] w fun e w' => e = .returned (.bool true) ∧ Below w.heap.size w w' := by
  go_enter Try.func8, Try.ntmps8
  go_wp2
  go_ret
  exact ⟨rfl, Below.refl _ _⟩

set_option maxRecDepth 100000 in
set_option maxHeartbeats 1000000 in
theorem law_f0 (h m s n f : Int) (R : ByteArray) (w : World) (hR : R.size ≤ 1048576) (h0 : 0 ≤ h) (h1 : h ≤ 23) (m0 : 0 ≤ m) (m1 : m ≤ 59) (s0 : 0 ≤ s) (s1 : s ≤ 59) (n0 : 0 ≤ n) (n1 : n ≤ 999999999) (hb : f < 0) :
    Calls Try.prog 8 #[.int .i64 h, .int .i64 m, .int .i64 s, .int .i64 n, .int .i64 f, .string R] w fun e w' => e = .returned (.bool true) ∧ Below w.heap.size w w' := by
  go_enter Try.func8, Try.ntmps8
  go_wp2
  go_ret
  exact ⟨rfl, Below.refl _ _⟩

set_option maxRecDepth 100000 in
set_option maxHeartbeats 1000000 in
theorem law_f1 (h m s n f : Int) (R : ByteArray) (w : World) (hR : R.size ≤ 1048576) (h0 : 0 ≤ h) (h1 : h ≤ 23) (m0 : 0 ≤ m) (m1 : m ≤ 59) (s0 : 0 ≤ s) (s1 : s ≤ 59) (n0 : 0 ≤ n) (n1 : n ≤ 999999999) (f0 : 0 ≤ f) (hb : 2 < f) :
    Calls Try.prog 8 #[.int .i64 h, .int .i64 m, .int .i64 s, .int .i64 n, .int .i64 f, .string R] w fun e w' => e = .returned (.bool true) ∧ Below w.heap.size w w' := by
  go_enter Try.func8, Try.ntmps8
  go_wp2
  go_ret
  exact ⟨rfl, Below.refl _ _⟩

/-- some number is out of its range: true -/
theorem law_out (h m s n f : Int) (R : ByteArray) (w : World) (hR : R.size ≤ 1048576) (hb : ¬ (0 ≤ h ∧ h ≤ 23 ∧ 0 ≤ m ∧ m ≤ 59 ∧ 0 ≤ s ∧ s ≤ 59 ∧ 0 ≤ n ∧ n ≤ 999999999 ∧ 0 ≤ f ∧ f ≤ 2)) :
    Calls Try.prog 8 #[.int .i64 h, .int .i64 m, .int .i64 s, .int .i64 n, .int .i64 f, .string R] w fun e w' => e = .returned (.bool true) ∧ Below w.heap.size w w' := by
  by_cases bh0 : h < 0
  · exact law_h0 h m s n f R w hR  bh0
  · have h0 : 0 ≤ h := by omega
    by_cases bh1 : 23 < h
    · exact law_h1 h m s n f R w hR h0 bh1
    · have h1 : h ≤ 23 := by omega
      by_cases bm0 : m < 0
      · exact law_m0 h m s n f R w hR h0 h1 bm0
      · have m0 : 0 ≤ m := by omega
        by_cases bm1 : 59 < m
        · exact law_m1 h m s n f R w hR h0 h1 m0 bm1
        · have m1 : m ≤ 59 := by omega
          by_cases bs0 : s < 0
          · exact law_s0 h m s n f R w hR h0 h1 m0 m1 bs0
          · have s0 : 0 ≤ s := by omega
            by_cases bs1 : 59 < s
            · exact law_s1 h m s n f R w hR h0 h1 m0 m1 s0 bs1
            · have s1 : s ≤ 59 := by omega
              by_cases bn0 : n < 0
              · exact law_n0 h m s n f R w hR h0 h1 m0 m1 s0 s1 bn0
              · have n0 : 0 ≤ n := by omega
                by_cases bn1 : 999999999 < n
                · exact law_n1 h m s n f R w hR h0 h1 m0 m1 s0 s1 n0 bn1
                · have n1 : n ≤ 999999999 := by omega
                  by_cases bf0 : f < 0
                  · exact law_f0 h m s n f R w hR h0 h1 m0 m1 s0 s1 n0 n1 bf0
                  · have f0 : 0 ≤ f := by omega
                    by_cases bf1 : 2 < f
                    · exact law_f1 h m s n f R w hR h0 h1 m0 m1 s0 s1 n0 n1 f0 bf1
                    · have f1 : f ≤ 2 := by omega
                      exact absurd ⟨h0, h1, m0, m1, s0, s1, n0, n1, f0, f1⟩ hb
end Go.Proofs.Qxb6000618a
