/-
  THE PLAIN SIDE of countMembers: a scan over a list of bytes, with no Go in sight. It imports nothing of the dump.
-/
namespace Go.Proofs.Qxb6000076a.Scan
set_option linter.unusedVariables false

/-- where the scan stands: m: 0 outside every string, 1 inside one, 2 behind a backslash inside one; d: the depth; n: the count -/
structure St where
  m : Nat
  d : Int
  n : Int

def step (s : St) (c : Int) : St :=
  if s.m = 0 then
    if c = 34 then ⟨1, s.d, s.n⟩
    else if c = 123 ∨ c = 91 then ⟨0, s.d + 1, s.n⟩
    else if c = 125 ∨ c = 93 then ⟨0, s.d - 1, s.n⟩
    else if c = 44 ∧ s.d = 1 then ⟨0, s.d, s.n + 1⟩
    else s
  else if s.m = 1 then
    if c = 34 then ⟨0, s.d, s.n⟩ else if c = 92 then ⟨2, s.d, s.n⟩ else s
  else ⟨1, s.d, s.n⟩

def run (l : List Int) (s : St) : St := l.foldl step s

theorem run_append (l r : List Int) (s : St) : run (l ++ r) s = run r (run l s) := by simp [run, List.foldl_append]
theorem run_nil (s : St) : run [] s = s := rfl
theorem run_cons (c : Int) (l : List Int) (s : St) : run (c :: l) s = run l (step s c) := rfl

def s0 : St := ⟨0, 0, 1⟩

/-- the state behind the first k bytes -/
def at_ (zs : List Int) (k : Nat) : St := run (zs.take k) s0

theorem at_succ (zs : List Int) (k : Nat) (h : k < zs.length) : at_ zs (k + 1) = step (at_ zs k) (zs[k]?.getD 0) := by
  unfold at_
  rw [List.take_succ_eq_append_getElem h, run_append]
  simp [run, h]

theorem step_bd (s : St) (c : Int) (k : Int) (h1 : -k ≤ s.d) (h2 : s.d ≤ k) (h3 : 1 ≤ s.n) (h4 : s.n ≤ k + 1) (h0 : 0 ≤ k) :
    -(k + 1) ≤ (step s c).d ∧ (step s c).d ≤ k + 1 ∧ 1 ≤ (step s c).n ∧ (step s c).n ≤ k + 1 + 1 := by
  unfold step
  repeat' split
  all_goals first | omega | (simp only; omega)

theorem at_bd (zs : List Int) (k : Nat) (h : k ≤ zs.length) : -(k : Int) ≤ (at_ zs k).d ∧ (at_ zs k).d ≤ k ∧ 1 ≤ (at_ zs k).n ∧ (at_ zs k).n ≤ k + 1 := by
  induction k with
  | zero => simp [at_, run, s0]
  | succ k ih =>
    have h1 := ih (by omega)
    rw [at_succ zs k (by omega)]
    have := step_bd (at_ zs k) (zs[k]?.getD 0) k h1.1 h1.2.1 h1.2.2.1 h1.2.2.2 (by omega)
    omega

/-! ### what each byte does, as the walk asks it -/
theorem nx_quote {zs : List Int} {k : Nat} {d n c : Int} (hk : k < zs.length) (hc : zs[k]?.getD 0 = c) (h : at_ zs k = ⟨0, d, n⟩) (h1 : c = 34) : at_ zs (k + 1) = ⟨1, d, n⟩ := by
  rw [at_succ zs k hk, h, hc]; simp [step, h1]
theorem nx_open {zs : List Int} {k : Nat} {d n c : Int} (hk : k < zs.length) (hc : zs[k]?.getD 0 = c) (h : at_ zs k = ⟨0, d, n⟩) (h1 : c = 123 ∨ c = 91) : at_ zs (k + 1) = ⟨0, d + 1, n⟩ := by
  rw [at_succ zs k hk, h, hc]; rcases h1 with h1 | h1 <;> simp [step, h1]
theorem nx_close {zs : List Int} {k : Nat} {d n c : Int} (hk : k < zs.length) (hc : zs[k]?.getD 0 = c) (h : at_ zs k = ⟨0, d, n⟩) (h1 : c = 125 ∨ c = 93) : at_ zs (k + 1) = ⟨0, d - 1, n⟩ := by
  rw [at_succ zs k hk, h, hc]; rcases h1 with h1 | h1 <;> simp [step, h1]
theorem nx_comma {zs : List Int} {k : Nat} {d n c : Int} (hk : k < zs.length) (hc : zs[k]?.getD 0 = c) (h : at_ zs k = ⟨0, d, n⟩) (h1 : c = 44) (h2 : d = 1) : at_ zs (k + 1) = ⟨0, d, n + 1⟩ := by
  rw [at_succ zs k hk, h, hc]; simp [step, h1, h2]
theorem nx_comma' {zs : List Int} {k : Nat} {d n c : Int} (hk : k < zs.length) (hc : zs[k]?.getD 0 = c) (h : at_ zs k = ⟨0, d, n⟩) (h1 : c = 44) (h2 : ¬ d = 1) : at_ zs (k + 1) = ⟨0, d, n⟩ := by
  rw [at_succ zs k hk, h, hc]; simp [step, h1, h2]
theorem nx_other {zs : List Int} {k : Nat} {d n c : Int} (hk : k < zs.length) (hc : zs[k]?.getD 0 = c) (h : at_ zs k = ⟨0, d, n⟩) (h1 : ¬ c = 34) (h2 : ¬ c = 123) (h3 : ¬ c = 91) (h4 : ¬ c = 125) (h5 : ¬ c = 93) (h6 : ¬ c = 44) : at_ zs (k + 1) = ⟨0, d, n⟩ := by
  rw [at_succ zs k hk, h, hc]; simp [step, h1, h2, h3, h4, h5, h6]
theorem nx_in_quote {zs : List Int} {k : Nat} {d n c : Int} (hk : k < zs.length) (hc : zs[k]?.getD 0 = c) (h : at_ zs k = ⟨1, d, n⟩) (h1 : c = 34) : at_ zs (k + 1) = ⟨0, d, n⟩ := by
  rw [at_succ zs k hk, h, hc]; simp [step, h1]
theorem nx_in_other {zs : List Int} {k : Nat} {d n c : Int} (hk : k < zs.length) (hc : zs[k]?.getD 0 = c) (h : at_ zs k = ⟨1, d, n⟩) (h1 : ¬ c = 34) (h2 : ¬ c = 92) : at_ zs (k + 1) = ⟨1, d, n⟩ := by
  rw [at_succ zs k hk, h, hc]; simp [step, h1, h2]
theorem nx_in_slash {zs : List Int} {k : Nat} {d n c : Int} (hk : k < zs.length) (hc : zs[k]?.getD 0 = c) (h : at_ zs k = ⟨1, d, n⟩) (h2 : c = 92) : at_ zs (k + 1) = ⟨2, d, n⟩ := by
  rw [at_succ zs k hk, h, hc]; simp [step, h2]
theorem nx_slashed {zs : List Int} {k : Nat} {d n : Int} (hk : k < zs.length) (h : at_ zs k = ⟨2, d, n⟩) : at_ zs (k + 1) = ⟨1, d, n⟩ := by
  rw [at_succ zs k hk, h]; simp [step]

/-- a scan that ends outside every string stands at no end while it is inside one -/
theorem not_end {zs : List Int} {k m : Nat} {d n : Int} (hk : k ≤ zs.length) (he : (run zs s0).m = 0) (h : at_ zs k = ⟨m, d, n⟩) (hm : m ≠ 0) : k < zs.length := by
  rcases Nat.lt_or_ge k zs.length with h' | h'
  · exact h'
  · exfalso
    have e : k = zs.length := by omega
    subst e
    unfold at_ at h
    rw [List.take_length] at h
    rw [h] at he
    exact hm he

/-! ### the built object -/
def value : List Int := [123, 34, 107, 34, 58, 91, 49, 44, 50, 44, 123, 34, 120, 34, 58, 34, 44, 34, 125, 93, 44, 34, 115, 34, 58, 34, 97, 44, 92, 34, 98, 34, 44, 34, 116, 34, 58, 91, 91, 93, 44, 123, 125, 93, 44, 34, 117, 34, 58, 34, 92, 117, 48, 48, 50, 99, 34, 125]

theorem run_value (n : Int) : run value ⟨0, 1, n⟩ = ⟨0, 1, n⟩ := by
  simp [run, value, step]

/-- the lower-case digit of a nibble -/
def lowDig (k : Int) : Int := if k ≤ 9 then 48 + k else 87 + k

/-- one byte as appendEscaped writes it -/
def esc1 (c : Int) : List Int :=
  if c = 34 ∨ c = 92 then [92, c] else if c < 32 then [92, 117, 48, 48, lowDig (c / 16), lowDig (c % 16)] else [c]
def esc (l : List Int) : List Int := l.flatMap esc1

theorem esc1_len (c : Int) : (esc1 c).length ≤ 6 := by unfold esc1; split; simp; split <;> simp
theorem esc_len (l : List Int) : (esc l).length ≤ 6 * l.length := by
  induction l with
  | nil => simp [esc]
  | cons c l ih =>
    have := esc1_len c
    simp only [esc, List.flatMap_cons, List.length_append, List.length_cons] at *
    omega
theorem esc_snoc (l : List Int) (c : Int) : esc (l ++ [c]) = esc l ++ esc1 c := by simp [esc]

theorem run_esc1 (c d n : Int) (h0 : 0 ≤ c) : run (esc1 c) ⟨1, d, n⟩ = ⟨1, d, n⟩ := by
  unfold esc1
  split
  · simp [run, step]
  · rename_i h
    split
    · rename_i h32
      have a1 : ¬ lowDig (c / 16) = 34 := by unfold lowDig; split <;> omega
      have a2 : ¬ lowDig (c / 16) = 92 := by unfold lowDig; split <;> omega
      have a3 : ¬ lowDig (c % 16) = 34 := by unfold lowDig; split <;> omega
      have a4 : ¬ lowDig (c % 16) = 92 := by unfold lowDig; split <;> omega
      simp [run, step, a1, a2, a3, a4]
    · have h1 : ¬ c = 34 := fun e => h (.inl e)
      have h2 : ¬ c = 92 := fun e => h (.inr e)
      simp [run, step, h1, h2]
theorem run_esc (l : List Int) (d n : Int) (h0 : ∀ c ∈ l, 0 ≤ c) : run (esc l) ⟨1, d, n⟩ = ⟨1, d, n⟩ := by
  induction l with
  | nil => rfl
  | cons c l ih =>
    simp only [esc, List.flatMap_cons]
    rw [run_append, run_esc1 c d n (h0 c (by simp))]
    exact ih (fun x hx => h0 x (by simp [hx]))

/-- one member: k: its number -/
def piece (k : Nat) (s : List Int) : List Int := (if k = 0 then [] else [44, 32]) ++ [34] ++ esc s ++ [34, 58] ++ value
/-- what has been written behind the first k members -/
def obj (ss : List (List Int)) : Nat → List Int
  | 0 => [32, 123]
  | k + 1 => obj ss k ++ piece k (ss[k]?.getD [])
def whole (ss : List (List Int)) (k : Nat) : List Int := obj ss k ++ [125, 10]

theorem run_piece (k : Nat) (s : List Int) (n : Int) (h0 : ∀ c ∈ s, 0 ≤ c) : run (piece k s) ⟨0, 1, n⟩ = ⟨0, 1, if k = 0 then n else n + 1⟩ := by
  unfold piece
  rw [run_append, run_append, run_append, run_append]
  have e1 : run (if k = 0 then [] else [44, 32]) ⟨0, 1, n⟩ = ⟨0, 1, if k = 0 then n else n + 1⟩ := by
    split <;> simp [run, step]
  rw [e1]
  have e2 : ∀ m : Int, run [34] ⟨0, 1, m⟩ = ⟨1, 1, m⟩ := fun m => by simp [run, step]
  rw [e2, run_esc s 1 _ h0]
  have e3 : ∀ m : Int, run [34, 58] ⟨1, 1, m⟩ = ⟨0, 1, m⟩ := fun m => by simp [run, step]
  rw [e3, run_value]

theorem run_obj (ss : List (List Int)) (h0 : ∀ s ∈ ss, ∀ c ∈ s, 0 ≤ c) (k : Nat) (hk : k ≤ ss.length) : run (obj ss k) s0 = ⟨0, 1, if k = 0 then 1 else k⟩ := by
  induction k with
  | zero => simp [run, obj, step, s0]
  | succ k ih =>
    unfold obj
    rw [run_append, ih (by omega), run_piece]
    · by_cases h : k = 0
      · simp [h]
      · simp [h]
    · have hk' : k < ss.length := by omega
      simp only [List.getElem?_eq_getElem hk', Option.getD_some]
      exact h0 _ (List.getElem_mem _)

/-- THE PLAIN LAW: the scan of the built object ends outside every string and has counted its members -/
theorem run_whole (ss : List (List Int)) (h0 : ∀ s ∈ ss, ∀ c ∈ s, 0 ≤ c) (h : 0 < ss.length) : run (whole ss ss.length) s0 = ⟨0, 0, ss.length⟩ := by
  unfold whole
  rw [run_append, run_obj ss h0 ss.length (Nat.le_refl _)]
  rw [if_neg (by omega : ¬ ss.length = 0)]
  simp [run, step]

theorem piece_len (k : Nat) (s : List Int) : (piece k s).length ≤ 6 * s.length + 70 := by
  have := esc_len s
  unfold piece
  simp only [List.length_append]
  split <;> simp [value] <;> omega

/-- the bytes of the first k names -/
def sum (ss : List (List Int)) (k : Nat) : Nat := ((ss.take k).map List.length).sum
theorem sum_succ (ss : List (List Int)) (k : Nat) (h : k < ss.length) : sum ss (k + 1) = sum ss k + (ss[k]?.getD []).length := by
  unfold sum
  rw [List.take_succ_eq_append_getElem h, List.map_append, List.sum_append]
  simp only [List.map_cons, List.map_nil, List.sum_cons, List.sum_nil, Nat.add_zero, List.getElem?_eq_getElem h, Option.getD_some]
theorem sum_mono (ss : List (List Int)) (k l : Nat) (h : k ≤ l) : sum ss k ≤ sum ss l := by
  unfold sum
  obtain ⟨m, rfl⟩ := Nat.exists_eq_add_of_le h
  rw [List.take_add, List.map_append, List.sum_append]
  omega
theorem obj_len (ss : List (List Int)) (k : Nat) (hk : k ≤ ss.length) : (obj ss k).length ≤ 2 + 6 * sum ss k + 70 * k := by
  induction k with
  | zero => simp [obj]
  | succ k ih =>
    have h1 := ih (by omega)
    have h2 := piece_len k (ss[k]?.getD [])
    rw [sum_succ ss k (by omega)]
    unfold obj
    simp only [List.length_append]
    omega
end Go.Proofs.Qxb6000076a.Scan
