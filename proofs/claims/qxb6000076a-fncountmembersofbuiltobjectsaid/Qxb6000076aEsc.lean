import Derived.Test.Qxb6000076aDigit
import Derived.Test.Qxb6000076aScan
import Derived.Deep.RegionHeld3
import Derived.Deep.AppendLies
import Derived.Deep.DrawnRows
import Derived.Lib.AppendStr
import Derived.Laws.BitsLemmas
namespace Go.Proofs.Qxb6000076a
open Go.RowKit
set_option linter.unusedVariables false
attribute [local go_sem ↓] Go.wp_at_zero Go.wp_at_succ

theorem Try.info5' : (Try.prog.info? 5).map (fun i => (i.zero, i.size, i.bytes)) = some (some (.int .u8 0), 1, 1) := by kernel_rfl

/-- the slice value v owns, from block B on, the bytes L -/
def Owns (w : World) (B : Nat) (v : Value) (L : List Int) : Prop := w.ownsRow B 5 1 v L.length (L.map (Value.int .u8))

theorem Owns.more {w : World} {B : Nat} {v : Value} {L M : List Int} {m : Nat} {news : List Value} (h : w.ownsRow B 5 1 v (L.length + m) (L.map (Value.int .u8) ++ news)) (hn : news = M.map (Value.int .u8)) (hm : m = M.length) : Owns w B v (L ++ M) := by
  subst hn hm
  unfold Owns
  rw [List.length_append, List.map_append]
  exact h

/-- a string's bytes, as numbers -/
def bytes (s : ByteArray) : List Int := s.data.toList.map fun b => (b.toNat : Int)
theorem bytes_length (s : ByteArray) : (bytes s).length = s.size := by
  rw [bytes, List.length_map, Array.length_toList]; rfl
theorem bytes_take (s : ByteArray) (k : Nat) (h : k < s.size) : (bytes s).take (k + 1) = (bytes s).take k ++ [((s[k].toNat : Nat) : Int)] := by
  rw [List.take_succ_eq_append_getElem (by rw [bytes_length]; exact h)]
  simp [bytes]
  rfl
theorem bytes_nonneg (s : ByteArray) : ∀ c ∈ bytes s, 0 ≤ c := by
  intro c hc
  simp only [bytes, List.mem_map] at hc
  obtain ⟨b, _, rfl⟩ := hc
  omega

theorem esc_step {s : ByteArray} {k : Nat} (h : k < s.size) {c : Int} (hc : ((s[k].toNat : Nat) : Int) = c) (xs : List Int) :
    (xs ++ Scan.esc ((bytes s).take k)) ++ Scan.esc1 c = xs ++ Scan.esc ((bytes s).take (k + 1)) := by
  rw [bytes_take s k h, Scan.esc_snoc, hc, List.append_assoc]

theorem lowDig_eq (k : Nat) (h : k < 16) : ((((⟨#[48, 49, 50, 51, 52, 53, 54, 55, 56, 57, 97, 98, 99, 100, 101, 102]⟩ : ByteArray)[k]'h).toNat : Nat) : Int) = Scan.lowDig k := by
  have H : ∀ j : Fin 16, ((((⟨#[48, 49, 50, 51, 52, 53, 54, 55, 56, 57, 97, 98, 99, 100, 101, 102]⟩ : ByteArray)[j.val]'j.isLt).toNat : Nat) : Int) = Scan.lowDig j.val := by
    unfold Scan.lowDig; decide
  exact H ⟨k, h⟩

theorem esc1_q {c : Int} (h : c = 34 ∨ c = 92) : Scan.esc1 c = [92, c] := by simp [Scan.esc1, h]
theorem esc1_u {c : Int} (h : ¬ (c = 34 ∨ c = 92)) (h2 : c < 32) : Scan.esc1 c = [92, 117, 48, 48, Scan.lowDig (c / 16), Scan.lowDig (c % 16)] := by simp [Scan.esc1, h, h2]
theorem esc1_p {c : Int} (h : ¬ (c = 34 ∨ c = 92)) (h2 : ¬ c < 32) : Scan.esc1 c = [c] := by simp [Scan.esc1, h, h2]

set_option maxHeartbeats 1000000 in
theorem esc_any (B : Nat) (v : Value) (xs : List Int) (s : ByteArray) (w : World) (hB : B ≤ w.heap.size) (hown : Owns w B v xs) (hs : xs.length + 6 * s.size ≤ 1000000000) :
    Calls Try.prog 17 #[v, .string s] w fun e w' => ∃ v', e = .returned v' ∧ Owns w' B v' (xs ++ Scan.esc (bytes s)) ∧ Below B w w' := by
  obtain ⟨i5, hi, hz0, hz1, hz2⟩ := info_parts Try.info5'
  go_enter Try.func17, Try.ntmps17
  go_wp2
  go_loopw [0, 5] (fun d i wr => ∃ k : Nat, k ≤ s.size ∧ i = .int .i64 k ∧ Owns wr B d (xs ++ Scan.esc ((bytes s).take k)) ∧ Below B w wr) (fun _ i _ => s.size - (intOf i).toNat)
  case atStart => exact ⟨0, Nat.zero_le _, rfl, by simpa [Scan.esc] using hown, Below.refl _ _⟩
  case round =>
    clear hown
    obtain ⟨k, hk, rfl, hown, hbel⟩ := hrel
    by_cases hlt : k < s.size
    · obtain ⟨L, hL⟩ : ∃ L, xs ++ Scan.esc ((bytes s).take k) = L := ⟨_, rfl⟩
      have hLl : L.length ≤ xs.length + 6 * k := by
        rw [← hL, List.length_append]
        have := Scan.esc_len ((bytes s).take k)
        rw [List.length_take] at this
        omega
      obtain ⟨c, hc⟩ : ∃ c, ((s[k].toNat : Nat) : Int) = c := ⟨_, rfl⟩
      have hstep := esc_step hlt hc xs
      rw [hL] at hown hstep
      have HS : Hid _ := hstep
      clear hL hstep
      have hc0 : 0 ≤ c := by omega
      have hc1 : c ≤ 255 := by have := s[k].toNat_lt; omega
      have hown' : wr.ownsRow B 5 1 u0 L.length (L.map (Value.int .u8)) := hown
      have hBr : B ≤ wr.heap.size := Nat.le_trans hB hbel.size
      have hrow : ∀ kk, u0.ownBlock = some kk → B ≤ kk := fun kk h => (hown'.lt kk h).1
      clear hown
      by_cases hq : c = 34 ∨ c = 92
      · have HE : Hid _ := esc1_q hq
        rcases hq with hq | hq
        · have t1 : (c == 34) = true := by simpa using hq
          clear hq
          go_wp2_with (at_builtin; refine wpList_append_own _ rfl (.tmp 27) (.tmp 29) 22 rfl B 5 i5 (.int .u8 0) 1 1 Try.underlying22 hi hz0 hz1 hz2 rfl (by decide) u0 _ _ rfl (hown'.alloc _) ⟨wr.heap.size, 0, none⟩ 2 2 [.int .u8 92, .int .u8 c] rfl rfl (World.news_of_block (cs := #[.int .u8 92, .int .u8 c]) (t := 5) (fr := (0, 0)) (heap_alloc_new wr _)) (by simp [Value.oneCell']) (by unfold maxLen; omega) (by omega) (by simp; omega) ?_; intro v' w1 hown1 hgrow1 _)
          go_roundw
          case rel => exact ⟨k + 1, by omega, by go_num, by rw [← HS.out]; exact Owns.more hown1 (by rw [HE.out]; rfl) (by rw [HE.out]; rfl), (hbel.alloc hBr _).grown hgrow1 (by simp; omega) hrow⟩
          case measure => simp [intOf]; omega
        · have t1 : (c == 34) = false := by simp [hq]
          have t2 : (c == 92) = true := by simpa using hq
          clear hq
          go_wp2_with (at_builtin; refine wpList_append_own _ rfl (.tmp 27) (.tmp 29) 22 rfl B 5 i5 (.int .u8 0) 1 1 Try.underlying22 hi hz0 hz1 hz2 rfl (by decide) u0 _ _ rfl (hown'.alloc _) ⟨wr.heap.size, 0, none⟩ 2 2 [.int .u8 92, .int .u8 c] rfl rfl (World.news_of_block (cs := #[.int .u8 92, .int .u8 c]) (t := 5) (fr := (0, 0)) (heap_alloc_new wr _)) (by simp [Value.oneCell']) (by unfold maxLen; omega) (by omega) (by simp; omega) ?_; intro v' w1 hown1 hgrow1 _)
          go_roundw
          case rel => exact ⟨k + 1, by omega, by go_num, by rw [← HS.out]; exact Owns.more hown1 (by rw [HE.out]; rfl) (by rw [HE.out]; rfl), (hbel.alloc hBr _).grown hgrow1 (by simp; omega) hrow⟩
          case measure => simp [intOf]; omega
      · have t1 : (c == 34) = false := by simp; exact fun e => hq (.inl e)
        have t2 : (c == 92) = false := by simp; exact fun e => hq (.inr e)
        by_cases h32 : c < 32
        · have HE : Hid _ := esc1_u hq h32
          clear hq
          obtain ⟨n1, hn1⟩ : ∃ n : Nat, c / 16 = (n : Int) := ⟨(c / 16).toNat, by omega⟩
          obtain ⟨n0, hn0⟩ : ∃ n : Nat, c % 16 = (n : Int) := ⟨(c % 16).toNat, by omega⟩
          have b0 : bits .and .u8 c 15 = (n0 : Int) := by rw [u8_and15 c hc0 (by omega), hn0]
          rw [hn1, hn0] at HE
          have l1 : n1 < 16 := by omega
          have l0 : n0 < 16 := by omega
          have p1 : (0 : Int) ≤ (n1 : Int) := Int.natCast_nonneg _
          have p0 : (0 : Int) ≤ (n0 : Int) := Int.natCast_nonneg _
          have q1 : (n1 : Int) < 16 := by omega
          have q0 : (n0 : Int) < 16 := by omega
          have d1 := lowDig_eq n1 l1
          have d0 := lowDig_eq n0 l0
          clear hn0
          go_wp2_with fail
          go_region_held3 (fun _ => True) (trivial) ((refine step_append_lies _ (by rfl) (.tmp 34) (.tmp 41) 22 (by rfl) B 5 i5 (.int .u8 0) 1 1 Try.underlying22 hi hz0 hz1 hz2 rfl (by decide) u0 _ _ (by rfl) ((hown'.alloc _).drew) ⟨wr.heap.size, 0, none⟩ 6 6 [.int .u8 92, .int .u8 117, .int .u8 48, .int .u8 48, .int .u8 (Scan.lowDig n1), .int .u8 (Scan.lowDig n0)] (by rfl) (by rfl) (World.news_of_block (cs := #[.int .u8 92, .int .u8 117, .int .u8 48, .int .u8 48, .int .u8 (Scan.lowDig n1), .int .u8 (Scan.lowDig n0)]) (t := 5) (fr := (0, 0)) (heap_alloc_new wr _)) (by simp [Value.oneCell']) (by omega) (by unfold maxLen; omega) (by omega) (by simp; omega) (wr.heap.size + 1) (by simp) ?_; intro g cap w1 hown1 hgrow1 hat hlt1))
          all_goals
            go_wp2
            go_roundw
            case rel => exact ⟨k + 1, by omega, by go_num, by rw [← HS.out]; exact Owns.more hown1 (by rw [HE.out]; rfl) (by rw [HE.out]; rfl), (hbel.alloc hBr _).drew.grown hgrow1 (by simp; omega) hrow⟩
            case measure => simp [intOf]; omega
        · have HE : Hid _ := esc1_p hq h32
          clear hq
          go_wp2_with (at_builtin; refine wpList_append_own _ rfl (.tmp 16) (.tmp 18) 22 rfl B 5 i5 (.int .u8 0) 1 1 Try.underlying22 hi hz0 hz1 hz2 rfl (by decide) u0 _ _ rfl (hown'.alloc _) ⟨wr.heap.size, 0, none⟩ 1 1 [.int .u8 c] rfl rfl (World.news_of_block (cs := #[.int .u8 c]) (t := 5) (fr := (0, 0)) (heap_alloc_new wr _)) (by simp [Value.oneCell']) (by unfold maxLen; omega) (by omega) (by simp; omega) ?_; intro v' w1 hown1 hgrow1 _)
          go_roundw
          case rel => exact ⟨k + 1, by omega, by go_num, by rw [← HS.out]; exact Owns.more hown1 (by rw [HE.out]; rfl) (by rw [HE.out]; rfl), (hbel.alloc hBr _).grown hgrow1 (by simp; omega) hrow⟩
          case measure => simp [intOf]; omega
    · go_wp2
      go_ret
      have e : (bytes s).take k = bytes s := List.take_of_length_le (by rw [bytes_length]; omega)
      exact ⟨u0, rfl, by rw [← e]; exact hown, hbel⟩
end Go.Proofs.Qxb6000076a
