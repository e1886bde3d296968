import Derived.Test.Qxb6000618aTimeE
namespace Go.Proofs.Qxb6000618a
open Go.RowKit
set_option linter.unusedVariables false

theorem bytes_append' (a b : ByteArray) : bytes (a ++ b) = bytes a ++ bytes b := by
  simp [bytes, ByteArray.data_append]
theorem bytes_nums (xs : List Int) (h : ∀ x ∈ xs, 0 ≤ x ∧ x ≤ 255) : bytes (strOfNums xs) = xs := by
  unfold bytes
  rw [strOfNums_data, List.map_map]
  conv => rhs; rw [← List.map_id xs]
  refine List.map_congr_left fun x hx => ?_
  have := h x hx
  simp
  omega
theorem size_one (c : UInt8) : (⟨#[c]⟩ : ByteArray).size = 1 := rfl
theorem bytes_one (c : UInt8) : bytes ⟨#[c]⟩ = [(c.toNat : Int)] := by simp [bytes]

/-- the rest behind a head of p bytes -/
theorem extract_tail (A R : ByteArray) (p : Nat) (hp : A.size = p) : (A ++ R).extract p (A ++ R).size = R := by
  subst hp
  rw [ByteArray.size_append, ByteArray.extract_append_eq_right rfl rfl]

theorem at_of_bytes {T : ByteArray} {k : Nat} {l : List Int} (hT : bytes T = l) (h : k < T.size) : ((T[k].toNat : Nat) : Int) = l[k]?.getD 0 := by
  rw [← hT, bytes_at T k h]

theorem rt0 (P C Q R : ByteArray) (h m : Int) (w : World) (hh : 0 ≤ h) (hh' : h ≤ 23) (hm : 0 ≤ m) (hm' : m ≤ 59) (hR : R.size ≤ 1048576)
    (hC : bytes C = [58]) (hP : bytes P = [48 + h / 10, 48 + h % 10]) (hQ : bytes Q = [48 + m / 10, 48 + m % 10]) (hne : ∀ h0 : 0 < R.size, ¬ ((R[0].toNat : Nat) : Int) = 58) :
    Calls Try.prog 24 #[.string (P ++ C ++ Q ++ R)] w fun e w' => e = .returned (.tuple #[.int .i64 h, .int .i64 m, .int .i64 0, .int .i64 0, .string R, .bool true]) ∧ Below w.heap.size w w' := by
  have sP : P.size = 2 := by rw [← bytes_length, hP]; rfl
  have sC : C.size = 1 := by rw [← bytes_length, hC]; rfl
  have sQ : Q.size = 2 := by rw [← bytes_length, hQ]; rfl
  have sA : (P ++ C ++ Q).size = 5 := by rw [ByteArray.size_append, ByteArray.size_append, sP, sQ, sC]
  have hT : bytes (P ++ C ++ Q ++ R) = (48 + h / 10) :: (48 + h % 10) :: 58 :: (48 + m / 10) :: (48 + m % 10) :: bytes R := by
    rw [bytes_append', bytes_append', bytes_append', hP, hQ, hC]; rfl
  have sT : (P ++ C ++ Q ++ R).size = 5 + R.size := by rw [ByteArray.size_append, sA]
  have e := extract_tail (P ++ C ++ Q) R 5 sA
  have H := time0 (P ++ C ++ Q ++ R) h m w (by omega) (by omega) hh hh' hm hm' (by unfold Two; rw [hT]; exact ⟨rfl, rfl⟩) (by unfold Two; rw [hT]; exact ⟨rfl, rfl⟩)
    (by rw [at_of_bytes hT]; rfl) (fun h8 => by
      rw [at_of_bytes hT]
      have hr := hne (by omega)
      rw [← bytes_at R 0 (by omega)] at hr
      exact hr)
  rw [e] at H
  exact zztime H

theorem rt1 (P C Q D S R : ByteArray) (h m s : Int) (w : World) (hh : 0 ≤ h) (hh' : h ≤ 23) (hm : 0 ≤ m) (hm' : m ≤ 59) (hs : 0 ≤ s) (hs' : s ≤ 59) (hR : R.size ≤ 1048576)
    (hC : bytes C = [58]) (hD : bytes D = [58]) (hP : bytes P = [48 + h / 10, 48 + h % 10]) (hQ : bytes Q = [48 + m / 10, 48 + m % 10]) (hS : bytes S = [48 + s / 10, 48 + s % 10]) (hne : ∀ h0 : 0 < R.size, ¬ ((R[0].toNat : Nat) : Int) = 46) :
    Calls Try.prog 24 #[.string (P ++ C ++ Q ++ D ++ S ++ R)] w fun e w' => e = .returned (.tuple #[.int .i64 h, .int .i64 m, .int .i64 s, .int .i64 0, .string R, .bool true]) ∧ Below w.heap.size w w' := by
  have sP : P.size = 2 := by rw [← bytes_length, hP]; rfl
  have sC : C.size = 1 := by rw [← bytes_length, hC]; rfl
  have sD : D.size = 1 := by rw [← bytes_length, hD]; rfl
  have sQ : Q.size = 2 := by rw [← bytes_length, hQ]; rfl
  have sS : S.size = 2 := by rw [← bytes_length, hS]; rfl
  have sA : (P ++ C ++ Q ++ D ++ S).size = 8 := by rw [ByteArray.size_append, ByteArray.size_append, ByteArray.size_append, ByteArray.size_append, sP, sQ, sS, sC, sD]
  have hT : bytes (P ++ C ++ Q ++ D ++ S ++ R) = (48 + h / 10) :: (48 + h % 10) :: 58 :: (48 + m / 10) :: (48 + m % 10) :: 58 :: (48 + s / 10) :: (48 + s % 10) :: bytes R := by
    simp only [bytes_append', hP, hQ, hS, hC, hD]; rfl
  have sT : (P ++ C ++ Q ++ D ++ S ++ R).size = 8 + R.size := by rw [ByteArray.size_append, sA]
  have e := extract_tail (P ++ C ++ Q ++ D ++ S) R 8 sA
  have H := time1 (P ++ C ++ Q ++ D ++ S ++ R) h m s w (by omega) (by omega) hh hh' hm hm' hs hs' (by unfold Two; rw [hT]; exact ⟨rfl, rfl⟩) (by unfold Two; rw [hT]; exact ⟨rfl, rfl⟩) (by unfold Two; rw [hT]; exact ⟨rfl, rfl⟩)
    (by rw [at_of_bytes hT]; rfl) (by rw [at_of_bytes hT]; rfl) (fun h9 => by
      rw [at_of_bytes hT]
      have hr := hne (by omega)
      rw [← bytes_at R 0 (by omega)] at hr
      exact hr)
  rw [e] at H
  exact zztime H

theorem rt2 (P C Q D S E N R : ByteArray) (h m s n : Int) (w : World) (hh : 0 ≤ h) (hh' : h ≤ 23) (hm : 0 ≤ m) (hm' : m ≤ 59) (hs : 0 ≤ s) (hs' : s ≤ 59) (hn : 0 ≤ n) (hn' : n ≤ 999999999) (hR : R.size ≤ 1048576)
    (hC : bytes C = [58]) (hD : bytes D = [58]) (hE : bytes E = [46]) (hP : bytes P = [48 + h / 10, 48 + h % 10]) (hQ : bytes Q = [48 + m / 10, 48 + m % 10]) (hS : bytes S = [48 + s / 10, 48 + s % 10]) (hN : bytes N = nine n) (hne : ∀ h0 : 0 < R.size, Run.dig ((R[0].toNat : Nat) : Int) = false) :
    Calls Try.prog 24 #[.string (P ++ C ++ Q ++ D ++ S ++ E ++ N ++ R)] w fun e w' => e = .returned (.tuple #[.int .i64 h, .int .i64 m, .int .i64 s, .int .i64 n, .string R, .bool true]) ∧ Below w.heap.size w w' := by
  have sP : P.size = 2 := by rw [← bytes_length, hP]; rfl
  have sC : C.size = 1 := by rw [← bytes_length, hC]; rfl
  have sD : D.size = 1 := by rw [← bytes_length, hD]; rfl
  have sE : E.size = 1 := by rw [← bytes_length, hE]; rfl
  have sQ : Q.size = 2 := by rw [← bytes_length, hQ]; rfl
  have sS : S.size = 2 := by rw [← bytes_length, hS]; rfl
  have sN : N.size = 9 := by rw [← bytes_length, hN]; rfl
  have sA : (P ++ C ++ Q ++ D ++ S ++ E ++ N).size = 18 := by rw [ByteArray.size_append, ByteArray.size_append, ByteArray.size_append, ByteArray.size_append, ByteArray.size_append, ByteArray.size_append, sP, sQ, sS, sN, sC, sD, sE]
  have hT : bytes (P ++ C ++ Q ++ D ++ S ++ E ++ N ++ R) = (48 + h / 10) :: (48 + h % 10) :: 58 :: (48 + m / 10) :: (48 + m % 10) :: 58 :: (48 + s / 10) :: (48 + s % 10) :: 46 :: (nine n ++ bytes R) := by
    simp only [bytes_append', hP, hQ, hS, hN, hC, hD, hE]; rfl
  have sT : (P ++ C ++ Q ++ D ++ S ++ E ++ N ++ R).size = 18 + R.size := by rw [ByteArray.size_append, sA]
  have e := extract_tail (P ++ C ++ Q ++ D ++ S ++ E ++ N) R 18 sA
  have H := time2 (P ++ C ++ Q ++ D ++ S ++ E ++ N ++ R) h m s n w (by omega) (by omega) hh hh' hm hm' hs hs' hn hn' (by unfold Two; rw [hT]; exact ⟨rfl, rfl⟩) (by unfold Two; rw [hT]; exact ⟨rfl, rfl⟩) (by unfold Two; rw [hT]; exact ⟨rfl, rfl⟩)
    (by
      unfold Nine
      rw [hT]
      intro k hk
      match k, hk with
      | 0, _ => rfl
      | 1, _ => rfl
      | 2, _ => rfl
      | 3, _ => rfl
      | 4, _ => rfl
      | 5, _ => rfl
      | 6, _ => rfl
      | 7, _ => rfl
      | 8, _ => rfl)
    (by rw [at_of_bytes hT]; rfl) (by rw [at_of_bytes hT]; rfl) (by rw [at_of_bytes hT]; rfl) (fun h19 => by
      rw [at_of_bytes hT]
      have hr := hne (by omega)
      rw [← bytes_at R 0 (by omega)] at hr
      exact hr)
  rw [e] at H
  exact zztime H
end Go.Proofs.Qxb6000618a
