import Derived.Test.Qxb6000076aRows
import Derived.WalkKit
import Derived.WalkSpells
namespace Go.Proofs.Qxb6000076a
open Go.RowKit
set_option linter.unusedVariables false

theorem Try.info5 : (Try.prog.info? 5).map (fun i => (i.zero, i.size, i.bytes)) = some (some (.int .u8 0), 1, 1) := by kernel_rfl

/-- the row of bytes that has been copied so far: the first k of zs, then zeros -/
def part (zs : List Int) (len k : Nat) : List Value := ((zs.take k).map (Value.int .u8)) ++ List.replicate (len - k) (.int .u8 0)

theorem part_zero (zs : List Int) (len : Nat) : part zs len 0 = List.replicate len (.int .u8 0) := by simp [part]

theorem part_full (zs : List Int) (len : Nat) (h : len ≤ zs.length) : part zs len len = (zs.take len).map (Value.int .u8) := by simp [part]

theorem part_set (zs : List Int) (len k : Nat) (hk : k < len) (hz : len ≤ zs.length) : (part zs len k).set k (.int .u8 (zs[k]?.getD 0)) = part zs len (k + 1) := by
  apply List.ext_getElem?
  intro j
  have h1 : (List.map (Value.int IntKind.u8) (List.take k zs)).length = k := by simp; omega
  have h2 : (List.map (Value.int IntKind.u8) (List.take (k + 1) zs)).length = k + 1 := by simp; omega
  have hkz : k < zs.length := by omega
  simp only [part, List.getElem?_set, List.getElem?_append, List.length_append, List.length_replicate, h1, h2, List.getElem?_replicate, List.getElem?_map, List.getElem?_take]
  by_cases e : k = j
  · subst e
    simp [hkz]
    omega
  · by_cases h : j < k
    · simp [e, h, show j < k + 1 by omega]
    · simp [e, h, show ¬ j < k + 1 by omega, show (j - k < len - k) = (j - (k+1) < len - (k+1)) by simp; omega]

set_option maxHeartbeats 400000 in
theorem clone_nil (w : World) :
    Calls Try.prog 8 #[.slice none 0 0] w fun e w' => e = .returned (.slice none 0 0) ∧ w' = w := by
  have hnil := fun wx => Lib.run_eql_slice_nil (P := Try.prog) wx 22 5 none 0 0 0 0 Try.underlying22
  go_enter Try.func8, Try.ntmps8
  go_wp2
  go_ret
  exact ⟨rfl, rfl⟩

set_option maxHeartbeats 400000 in
theorem clone_any (b off len cap : Nat) (zs : List Int) (w : World) (hlen : len ≤ zs.length) (hm : len ≤ 1048576)
    (hb : b < w.heap.size) (hc : ∀ i, i < len → w.cell? ⟨b, off + i, none⟩ = some (.int .u8 (zs[i]?.getD 0))) :
    Calls Try.prog 8 #[.slice (some ⟨b, off, none⟩) len cap] w fun e w' => e = .returned (.slice (some ⟨w.heap.size, 0, none⟩) len len) ∧
      w'.ownsRow w.heap.size 5 1 (.slice (some ⟨w.heap.size, 0, none⟩) len len) len ((zs.take len).map (Value.int .u8)) ∧ Below w.heap.size w w' := by
  obtain ⟨i5, hi, hz0, hz1, hz2⟩ := info_parts Try.info5
  have hnil := fun wx => Lib.run_eql_slice_nil (P := Try.prog) wx 22 5 (some ⟨b, off, none⟩) len cap 0 0 Try.underlying22
  go_enter Try.func8, Try.ntmps8
  go_wp2_with (at_make; refine wpList_make_full _ rfl _ _ 22 rfl w.heap.size 5 i5 (.int .u8 0) 1 Try.underlying22 hi hz0 hz1 _ _ _ _ len rfl rfl rfl rfl (by rw [hz2]; omega) (by unfold maxLen; omega) (Nat.le_refl _) ?_)
  intro w1 hown hgrow
  have hown0 : w1.ownsRow w.heap.size 5 1 (.slice (some ⟨w.heap.size, 0, none⟩) len len) len (part zs len 0) := by
    rw [part_zero]
    rw [← toList_madeCells_one]; exact hown
  have hbel : Below w.heap.size w w1 := (Below.refl _ _).grown hgrow (Nat.le_refl _) (by intro k h; cases h)
  clear hown hgrow
  go_wp2_with fail
  go_loopw [4] (fun i wr => ∃ k : Nat, k ≤ len ∧ i = .int .i64 k ∧ wr.ownsRow w.heap.size 5 1 (.slice (some ⟨w.heap.size, 0, none⟩) len len) len (part zs len k) ∧ Below w.heap.size w wr) (fun i _ => len - (intOf i).toNat)
  case atStart => exact ⟨0, Nat.zero_le _, rfl, hown0, hbel⟩
  case round =>
    clear hown0 hbel
    obtain ⟨k, hk, rfl, hown, hbel⟩ := hrel
    by_cases hlt : k < len
    · have hcx : wr.cell? ⟨b, off + k, none⟩ = some (.int .u8 (zs[k]?.getD 0)) := (hbel.cell (by exact hb)).trans (hc k hlt)
      have hpl : (part zs len k).length = len := by simp [part]; omega
      have hd : ∃ v, wr.cell? ⟨w.heap.size, k, none⟩ = some v := by
        rw [hown.cellAt k (by omega)]
        exact ⟨_, List.getElem?_eq_getElem (by omega)⟩
      obtain ⟨v0, hd⟩ := hd
      have hfr := hown.frozenAt k
      have R := hown.stored k (.int .u8 (zs[k]?.getD 0))
      rw [part_set zs len k hlt hlen] at R
      have HR : Hid (_ ∧ _) := R
      clear R hown
      go_wp2
      go_roundw
      case rel => exact ⟨k + 1, by omega, by go_num, HR.out.1, hbel.setCell (by simp) _⟩
      case measure => simp [intOf]; omega
    · have e : k = len := by omega
      subst e
      go_wp2
      go_ret
      exact ⟨rfl, by rw [← part_full zs k hlen]; exact hown, hbel⟩
end Go.Proofs.Qxb6000076a
