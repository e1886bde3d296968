/-
  THE PLAIN LAW of the run model: what the scan answers, said by the run of digits and underscores. It imports nothing of the dump.
-/
import Derived.Test.Qxb6000618aRun
namespace Go.Proofs.Qxb6000618a.Run
set_option linter.unusedVariables false

/-- the run at i: from i to j all bytes are digits or underscores, and at j it ends -/
structure IsRun (l : List Int) (i j : Nat) : Prop where
  le : i ≤ j
  len : j ≤ l.length
  all : ∀ m, i ≤ m → m < j → dig (l[m]?.getD 0) = true ∨ l[m]?.getD 0 = 95
  stop : j = l.length ∨ (dig (l[j]?.getD 0) = false ∧ ¬ l[j]?.getD 0 = 95)

/-- the number is good so far -/
def NoTwo (l : List Int) (i j k : Nat) : Prop := ∀ m, i ≤ m → m < k → m + 1 < j → ¬ (l[m]?.getD 0 = 95 ∧ l[m + 1]?.getD 0 = 95)

theorem run_empty {l : List Int} {i : Nat} (h : IsRun l i i) : at_ l i = -1 := by
  rcases h.stop with h1 | ⟨h1, _⟩
  · exact start_end (by omega)
  · by_cases hi : i < l.length
    · exact start_no hi rfl h1
    · exact start_end hi

theorem good_inv {l : List Int} {i j : Nat} (h : IsRun l i j) (hij : i < j) (h0 : dig (l[i]?.getD 0) = true) (h1 : dig (l[j - 1]?.getD 0) = true) (hn : NoTwo l i j j) :
    ∀ d k, i < k → k + d = j → Inv l i k := by
  have key : ∀ d, i + 1 + d ≤ j → Inv l i (i + 1 + d) := by
    intro d
    induction d with
    | zero => intro _; exact inv_start (by have := h.len; omega) rfl h0
    | succ d ih =>
      intro hd
      have hI := ih (by omega)
      have hk : i + 1 + d < l.length := by have := h.len; omega
      rcases h.all (i + 1 + d) (by omega) (by omega) with hx | hx
      · exact inv_digit hI hk rfl hx
      · have hne : i + 1 + d ≠ j - 1 := by
          intro e
          rw [e] at hx
          rw [hx] at h1
          exact absurd h1 (by decide)
        have hk1 : i + 1 + d + 1 < j := by omega
        rcases h.all (i + 1 + d + 1) (by omega) hk1 with hy | hy
        · exact inv_under hI (Nat.lt_of_lt_of_le hk1 h.len) rfl hx rfl hy
        · exact absurd ⟨hx, hy⟩ (hn (i + 1 + d) (by omega) (by omega) hk1)
  intro d k hik hkd
  have := key (k - i - 1) (by omega)
  rw [show i + 1 + (k - i - 1) = k by omega] at this
  exact this

theorem run_good {l : List Int} {i j : Nat} (h : IsRun l i j) (hij : i < j) (h0 : dig (l[i]?.getD 0) = true) (h1 : dig (l[j - 1]?.getD 0) = true) (hn : NoTwo l i j j) : at_ l i = j := by
  have hI := good_inv h hij h0 h1 hn 0 j hij rfl
  rcases h.stop with hs | ⟨hs1, hs2⟩
  · exact end_end hI (by omega)
  · by_cases hj : j < l.length
    · exact end_other hI hj rfl hs1 hs2
    · exact end_end hI hj

/-- from k on something is bad -/
def Bad (l : List Int) (j k : Nat) : Prop := (k + 1 ≤ j ∧ dig (l[j - 1]?.getD 0) = false) ∨ ∃ m, k ≤ m ∧ m + 1 < j ∧ l[m]?.getD 0 = 95 ∧ l[m + 1]?.getD 0 = 95

theorem run_bad {l : List Int} {i j : Nat} (h : IsRun l i j) (d : Nat) : ∀ k, i < k → k + d = j → Inv l i k → Bad l j k → at_ l i = -1 := by
  induction d with
  | zero =>
    intro k hik hkj hI hb
    rcases hb with ⟨hb, _⟩ | ⟨m, h1, h2, _⟩ <;> omega
  | succ d ih =>
    intro k hik hkj hI hb
    have hk : k < l.length := by have := h.len; omega
    rcases h.all k (by omega) (by omega) with hx | hx
    · refine ih (k + 1) (by omega) (by omega) (inv_digit hI hk rfl hx) ?_
      rcases hb with ⟨h1, h2⟩ | ⟨m, h1, h2, h3, h4⟩
      · have hne : k ≠ j - 1 := by
          intro e
          rw [e] at hx
          rw [hx] at h2
          cases h2
        exact .inl ⟨by omega, h2⟩
      · have hne : k ≠ m := by
          intro e
          rw [e, h3] at hx
          exact absurd hx (by decide)
        exact .inr ⟨m, by omega, h2, h3, h4⟩
    · by_cases hk1 : k + 1 < j
      · have hk1' : k + 1 < l.length := by have := h.len; omega
        rcases h.all (k + 1) (by omega) hk1 with hy | hy
        · refine ih (k + 1) (by omega) (by omega) (inv_under hI hk1' rfl hx rfl hy) ?_
          rcases hb with ⟨h1, h2⟩ | ⟨m, h1, h2, h3, h4⟩
          · exact .inl ⟨by omega, h2⟩
          · have hne : k ≠ m := by
              intro e
              rw [← e] at h4
              rw [h4] at hy
              exact absurd hy (by decide)
            exact .inr ⟨m, by omega, h2, h3, h4⟩
        · exact end_bad hI hk1' rfl hx rfl (by rw [hy]; decide)
      · have e : k + 1 = j := by omega
        rcases h.stop with hs | ⟨hs, _⟩
        · exact end_last hI hk (by omega) rfl hx
        · by_cases hj : j < l.length
          · exact end_bad hI (by omega) rfl hx (by rw [e]) hs
          · exact end_last hI hk (by omega) rfl hx

theorem run_first {l : List Int} {i j : Nat} (h : IsRun l i j) (hij : i < j) (h0 : dig (l[i]?.getD 0) = false) : at_ l i = -1 :=
  start_no (by have := h.len; omega) rfl h0

theorem run_last {l : List Int} {i j : Nat} (h : IsRun l i j) (hij : i < j) (h0 : dig (l[i]?.getD 0) = true) (h1 : dig (l[j - 1]?.getD 0) = false) : at_ l i = -1 := by
  have hI := inv_start (show i < l.length by have := h.len; omega) rfl h0
  have hne : i ≠ j - 1 := by
    intro e
    rw [e, h1] at h0
    cases h0
  exact run_bad h (j - (i + 1)) (i + 1) (by omega) (by omega) hI (.inl ⟨by omega, h1⟩)

theorem run_two {l : List Int} {i j k : Nat} (h : IsRun l i j) (h0 : dig (l[i]?.getD 0) = true) (hik : i ≤ k) (hk : k + 1 < j) (h1 : l[k]?.getD 0 = 95) (h2 : l[k + 1]?.getD 0 = 95) : at_ l i = -1 := by
  have hI := inv_start (show i < l.length by have := h.len; omega) rfl h0
  have hne : i ≠ k := by
    intro e
    rw [e, h1] at h0
    exact absurd h0 (by decide)
  exact run_bad h (j - (i + 1)) (i + 1) (by omega) (by omega) hI (.inr ⟨k, by omega, hk, h1, h2⟩)
end Go.Proofs.Qxb6000618a.Run
