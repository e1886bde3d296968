import Derived.Test.Qxb6000076aEsc
namespace Go.Proofs.Qxb6000076a
open Go.RowKit
set_option linter.unusedVariables false

theorem Try.info9 : (Try.prog.info? 9).map (fun i => (i.zero, i.size, i.bytes)) = some (some (.string ByteArray.empty), 1, 16) := by kernel_rfl

/-- the k-th name -/
def nm (ss : List ByteArray) (k : Nat) : ByteArray := ss[k]?.getD ByteArray.empty
/-- the cells of a slice of strings that came in -/
def NamesAt (w : World) (b off len : Nat) (ss : List ByteArray) : Prop := ∀ i, i < len → w.cell? ⟨b, off + i, none⟩ = some (.string (nm ss i))

def BoolPost (ss : List ByteArray) (len : Nat) (w : World) (e : Ending) (w' : World) : Prop := w' = w ∧ ∃ bo : Bool, e = .returned (.bool bo) ∧ (bo = true → ∀ i, i < len → (nm ss i).size ≤ 1048576)

set_option maxHeartbeats 1000000 in
theorem zzbytes_any (b off len cap : Nat) (ss : List ByteArray) (w : World) (hm : len ≤ 9223372036854775807) (hsz : ∀ i : Nat, (nm ss i).size ≤ 9223372036854775807) (hc : NamesAt w b off len ss) :
    Calls Try.prog 15 #[.slice (some ⟨b, off, none⟩) len cap] w (BoolPost ss len w) := by
  by_cases hbig : 1048576 < len
  · go_enter Try.func15, Try.ntmps15
    go_wp2
    go_ret
    exact ⟨rfl, false, rfl, by intro h; cases h⟩
  · go_enter Try.func15, Try.ntmps15
    go_wp2
    go_loop [3, 4] (fun z i => ∃ (k : Nat) (zv : Int), k ≤ len ∧ i = .int .i64 k ∧ z = .int .i64 zv ∧ 0 ≤ zv ∧ zv ≤ 1048576 ∧ ∀ i, i < k → (nm ss i).size ≤ 1048576) (fun _ i => len - (intOf i).toNat)
    case atStart => exact ⟨0, len, Nat.zero_le _, rfl, rfl, by omega, by omega, by intro i h; omega⟩
    case round =>
      obtain ⟨k, zv, hk, rfl, rfl, hz0, hz1, hall⟩ := hrel
      have HALL : Hid _ := hall
      clear hall
      by_cases hlt : k < len
      · have hcx := hc k hlt
        have hs := hsz k
        clear hc hsz
        obtain ⟨sk, hsk⟩ : ∃ sk, nm ss k = sk := ⟨_, rfl⟩
        rw [hsk] at hcx hs
        have HSK : Hid _ := hsk
        clear hsk
        by_cases h1 : 1048576 < sk.size
        · go_wp2
          go_ret
          exact ⟨rfl, false, rfl, by intro h; cases h⟩
        · by_cases h2 : 1048576 < zv + sk.size
          · go_wp2
            go_ret
            exact ⟨rfl, false, rfl, by intro h; cases h⟩
          · go_wp2
            go_round
            case rel =>
              refine ⟨k + 1, zv + sk.size, by omega, by go_num, rfl, by omega, by omega, ?_⟩
              intro i hi
              by_cases hik : i < k
              · exact HALL.out i hik
              · have e : i = k := by omega
                rw [e, HSK.out]
                omega
            case measure => simp [intOf]; omega
      · go_wp2
        go_ret
        have e : k = len := by omega
        exact ⟨rfl, true, rfl, fun _ => by rw [← e]; exact HALL.out⟩

/-- the strings that have been copied so far -/
def partS (ss : List ByteArray) (len k : Nat) : List Value := ((ss.take k).map Value.string) ++ List.replicate (len - k) (.string ByteArray.empty)
theorem partS_zero (ss : List ByteArray) (len : Nat) : partS ss len 0 = List.replicate len (.string ByteArray.empty) := by simp [partS]
theorem partS_full (ss : List ByteArray) (len : Nat) : partS ss len len = (ss.take len).map Value.string := by simp [partS]
theorem partS_set (ss : List ByteArray) (len k : Nat) (hk : k < len) (hz : len ≤ ss.length) : (partS ss len k).set k (.string (nm ss k)) = partS ss len (k + 1) := by
  apply List.ext_getElem?
  intro j
  have h1 : (List.map Value.string (List.take k ss)).length = k := by simp; omega
  have h2 : (List.map Value.string (List.take (k + 1) ss)).length = k + 1 := by simp; omega
  have hkz : k < ss.length := by omega
  simp only [partS, nm, List.getElem?_set, List.getElem?_append, List.length_append, List.length_replicate, h1, h2, List.getElem?_replicate, List.getElem?_map, List.getElem?_take]
  by_cases e : k = j
  · subst e
    simp [hkz]
    omega
  · by_cases h : j < k
    · simp [e, h, show j < k + 1 by omega]
    · simp [e, h, show ¬ j < k + 1 by omega, show (j - k < len - k) = (j - (k+1) < len - (k+1)) by simp; omega]

set_option maxHeartbeats 1000000 in
theorem cloneS_any (b off len cap : Nat) (ss : List ByteArray) (w : World) (hlen : len ≤ ss.length) (hm : len ≤ 65536) (hb : b < w.heap.size) (hc : NamesAt w b off len ss) :
    Calls Try.prog 16 #[.slice (some ⟨b, off, none⟩) len cap] w fun e w' => e = .returned (.slice (some ⟨w.heap.size, 0, none⟩) len len) ∧
      NamesAt w' w.heap.size 0 len ss ∧ Below w.heap.size w w' ∧ w.heap.size < w'.heap.size := by
  obtain ⟨i9, hi, hz0, hz1, hz2⟩ := info_parts Try.info9
  have hnil := fun wx => Lib.run_eql_slice_nil (P := Try.prog) wx 33 9 (some ⟨b, off, none⟩) len cap 0 0 Try.underlying33
  go_enter Try.func16, Try.ntmps16
  go_wp2_with (at_make; refine wpList_make_full _ rfl _ _ 33 rfl w.heap.size 9 i9 (.string ByteArray.empty) 1 Try.underlying33 hi hz0 hz1 _ _ _ _ len rfl rfl rfl rfl (by rw [hz2]; omega) (by unfold maxLen; omega) (Nat.le_refl _) ?_)
  intro w1 hown hgrow
  have hown0 : w1.ownsRow w.heap.size 9 1 (.slice (some ⟨w.heap.size, 0, none⟩) len len) len (partS ss len 0) := by
    rw [partS_zero]
    rw [← toList_madeCells_one]; exact hown
  have hbel : Below w.heap.size w w1 := (Below.refl _ _).grown hgrow (Nat.le_refl _) (by intro k h; cases h)
  clear hown hgrow
  go_wp2_with fail
  go_loopw [4] (fun i wr => ∃ k : Nat, k ≤ len ∧ i = .int .i64 k ∧ wr.ownsRow w.heap.size 9 1 (.slice (some ⟨w.heap.size, 0, none⟩) len len) len (partS ss len k) ∧ Below w.heap.size w wr) (fun i _ => len - (intOf i).toNat)
  case atStart => exact ⟨0, Nat.zero_le _, rfl, hown0, hbel⟩
  case round =>
    clear hown0 hbel
    obtain ⟨k, hk, rfl, hown, hbel⟩ := hrel
    by_cases hlt : k < len
    · have hcx : wr.cell? ⟨b, off + k, none⟩ = some (.string (nm ss k)) := (hbel.cell (by exact hb)).trans (hc k hlt)
      have hpl : (partS ss len k).length = len := by simp [partS]; omega
      have hd : ∃ v, wr.cell? ⟨w.heap.size, k, none⟩ = some v := by
        rw [hown.cellAt k (by omega)]
        exact ⟨_, List.getElem?_eq_getElem (by omega)⟩
      obtain ⟨v0, hd⟩ := hd
      have hfr := hown.frozenAt k
      have R := hown.stored k (.string (nm ss k))
      rw [partS_set ss len k hlt hlen] at R
      have HR : Hid (_ ∧ _) := R
      clear R hown
      go_wp2
      go_roundw
      case rel => exact ⟨k + 1, by omega, by go_num, HR.out.1, hbel.setCell (by simp) _⟩
      case measure => simp [intOf]; omega
    · have e : k = len := by omega
      subst e
      go_wp2
      go_ret
      refine ⟨rfl, ?_, hbel, (hown.lt w.heap.size rfl).2⟩
      intro i hi
      rw [Nat.zero_add, hown.cellAt i (by omega), partS_full]
      simp [nm, hi, show i < ss.length by omega]
end Go.Proofs.Qxb6000076a
