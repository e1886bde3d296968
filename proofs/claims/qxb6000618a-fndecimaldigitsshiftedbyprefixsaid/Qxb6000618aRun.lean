/-
  THE PLAIN SIDE of decimalDigits and of the run model: lists of bytes, with no Go in sight. It imports nothing of the dump.
-/
namespace Go.Proofs.Qxb6000618a.Run
set_option linter.unusedVariables false

def dig (c : Int) : Bool := decide (48 ≤ c ∧ c ≤ 57)
theorem dig_t {c : Int} (h1 : 48 ≤ c) (h2 : c ≤ 57) : dig c = true := by simp [dig]; omega
theorem dig_f {c : Int} (h : c < 48 ∨ 57 < c) : dig c = false := by simp [dig]; omega

/-- how many bytes go on a number behind a digit; none: an underscore stands where it must not -/
def tl : List Int → Option Nat
  | [] => some 0
  | c :: r => if dig c then (tl r).map (· + 1) else if c = 95 then (if dig (r.headD 0) then (tl r).map (· + 1) else none) else some 0
theorem tl_cons (c : Int) (r : List Int) : tl (c :: r) = if dig c then (tl r).map (· + 1) else if c = 95 then (if dig (r.headD 0) then (tl r).map (· + 1) else none) else some 0 := rfl

/-- how many bytes a number takes at the head of the list -/
def dd : List Int → Option Nat
  | [] => none
  | c :: r => if dig c then (tl r).map (· + 1) else none

/-- the answer as Go gives it: an offset, or -1 -/
def ans (i : Nat) : Option Nat → Int
  | none => -1
  | some k => (i : Int) + k

/-- the answer at offset i -/
def at_ (l : List Int) (i : Nat) : Int := ans i (dd (l.drop i))

/-! ### as the walk asks it -/
/-- what is known at offset k of a scan that began at offset i -/
def Inv (l : List Int) (i k : Nat) : Prop := i < k ∧ dd (l.drop i) = (tl (l.drop k)).map (· + (k - i))

theorem map_map_add (o : Option Nat) (a b : Nat) : (o.map (· + a)).map (· + b) = o.map (· + (a + b)) := by
  cases o <;> simp; omega

theorem inv_start {l : List Int} {i : Nat} {c : Int} (hi : i < l.length) (hc : l[i]?.getD 0 = c) (hd : dig c = true) : Inv l i (i + 1) := by
  refine ⟨by omega, ?_⟩
  rw [List.drop_eq_getElem_cons hi]
  simp only [List.getElem?_eq_getElem hi, Option.getD_some] at hc
  rw [hc, dd, if_pos hd, show i + 1 - i = 1 by omega]

theorem start_no {l : List Int} {i : Nat} {c : Int} (hi : i < l.length) (hc : l[i]?.getD 0 = c) (hd : dig c = false) : at_ l i = -1 := by
  unfold at_
  rw [List.drop_eq_getElem_cons hi]
  simp only [List.getElem?_eq_getElem hi, Option.getD_some] at hc
  rw [hc, dd, if_neg (by rw [hd]; simp)]
  rfl

theorem start_end {l : List Int} {i : Nat} (hi : ¬ i < l.length) : at_ l i = -1 := by
  unfold at_
  rw [List.drop_eq_nil_of_le (by omega)]
  rfl

theorem inv_digit {l : List Int} {i k : Nat} {c : Int} (h : Inv l i k) (hk : k < l.length) (hc : l[k]?.getD 0 = c) (hd : dig c = true) : Inv l i (k + 1) := by
  refine ⟨by have := h.1; omega, ?_⟩
  simp only [List.getElem?_eq_getElem hk, Option.getD_some] at hc
  rw [h.2, List.drop_eq_getElem_cons hk, hc, tl_cons, if_pos hd, map_map_add, show 1 + (k - i) = k + 1 - i by have := h.1; omega]

theorem inv_under {l : List Int} {i k : Nat} {c d : Int} (h : Inv l i k) (hk : k + 1 < l.length) (hc : l[k]?.getD 0 = c) (h95 : c = 95) (hd : l[k + 1]?.getD 0 = d) (hdd : dig d = true) : Inv l i (k + 1) := by
  refine ⟨by have := h.1; omega, ?_⟩
  have hk' : k < l.length := by omega
  simp only [List.getElem?_eq_getElem hk', List.getElem?_eq_getElem hk, Option.getD_some] at hc hd
  have hnd : ¬ dig c = true := by rw [h95]; decide
  rw [h.2, List.drop_eq_getElem_cons hk', List.drop_eq_getElem_cons hk, hc, hd, tl_cons, if_neg hnd, if_pos h95, List.headD_cons]
  rw [if_pos hdd, map_map_add, show 1 + (k - i) = k + 1 - i by have := h.1; omega]

theorem end_bad {l : List Int} {i k : Nat} {c d : Int} (h : Inv l i k) (hk : k + 1 < l.length) (hc : l[k]?.getD 0 = c) (h95 : c = 95) (hd : l[k + 1]?.getD 0 = d) (hdd : dig d = false) : at_ l i = -1 := by
  have hk' : k < l.length := by omega
  simp only [List.getElem?_eq_getElem hk', List.getElem?_eq_getElem hk, Option.getD_some] at hc hd
  have hnd : ¬ dig c = true := by rw [h95]; decide
  unfold at_
  rw [h.2, List.drop_eq_getElem_cons hk', List.drop_eq_getElem_cons hk, hc, hd, tl_cons, if_neg hnd, if_pos h95, List.headD_cons]
  simp [hdd, ans]

theorem end_last {l : List Int} {i k : Nat} {c : Int} (h : Inv l i k) (hk : k < l.length) (hl : ¬ k + 1 < l.length) (hc : l[k]?.getD 0 = c) (h95 : c = 95) : at_ l i = -1 := by
  simp only [List.getElem?_eq_getElem hk, Option.getD_some] at hc
  have hnd : ¬ dig c = true := by rw [h95]; decide
  unfold at_
  rw [h.2, List.drop_eq_getElem_cons hk, List.drop_eq_nil_of_le (by omega), hc, tl_cons, if_neg hnd, if_pos h95]
  simp [ans, dig]

theorem end_other {l : List Int} {i k : Nat} {c : Int} (h : Inv l i k) (hk : k < l.length) (hc : l[k]?.getD 0 = c) (hd : dig c = false) (h95 : ¬ c = 95) : at_ l i = k := by
  simp only [List.getElem?_eq_getElem hk, Option.getD_some] at hc
  unfold at_
  rw [h.2, List.drop_eq_getElem_cons hk, hc, tl_cons, if_neg (by rw [hd]; simp), if_neg h95]
  simp [ans]
  have := h.1
  omega

theorem end_end {l : List Int} {i k : Nat} (h : Inv l i k) (hk : ¬ k < l.length) : at_ l i = k := by
  unfold at_
  rw [h.2, List.drop_eq_nil_of_le (by omega), tl]
  simp [ans]
  have := h.1
  omega

/-! ### bounds -/
theorem tl_le (l : List Int) (k : Nat) (h : tl l = some k) : k ≤ l.length := by
  induction l generalizing k with
  | nil => simp [tl] at h; omega
  | cons c r ih =>
    rw [tl_cons] at h
    have step : ∀ m, (tl r).map (· + 1) = some m → m ≤ (c :: r).length := by
      intro m hm
      obtain ⟨x, hx, rfl⟩ := Option.map_eq_some_iff.1 hm
      have := ih x hx
      simp only [List.length_cons]; omega
    split at h
    · exact step k h
    · split at h
      · split at h
        · exact step k h
        · cases h
      · simp at h; omega
theorem dd_le (l : List Int) (k : Nat) (h : dd l = some k) : k ≤ l.length := by
  cases l with
  | nil => simp [dd] at h
  | cons c r =>
    rw [dd] at h
    split at h
    · obtain ⟨x, hx, rfl⟩ := Option.map_eq_some_iff.1 h
      have := tl_le r x hx
      simp only [List.length_cons]; omega
    · cases h
theorem at_bd (l : List Int) (i : Nat) (hi : i ≤ l.length) : -1 ≤ at_ l i ∧ at_ l i ≤ l.length := by
  unfold at_
  cases h : dd (l.drop i) with
  | none => simp [ans]
  | some k =>
    have := dd_le _ k h
    rw [List.length_drop] at this
    simp only [ans]
    omega

/-- THE PLAIN LAW of the shift: what stands ahead of the text shifts the answer -/
theorem shift (p l : List Int) (i : Nat) : at_ (p ++ l) (i + p.length) = if at_ l i < 0 then -1 else at_ l i + p.length := by
  unfold at_
  rw [Nat.add_comm, List.drop_append]
  rw [List.drop_eq_nil_of_le (by omega), List.nil_append, show p.length + i - p.length = i by omega]
  cases dd (l.drop i) with
  | none => simp [ans]
  | some k =>
    have : ¬ (ans i (some k) < 0) := by simp only [ans]; omega
    rw [if_neg this]
    simp only [ans]
    omega
end Go.Proofs.Qxb6000618a.Run
