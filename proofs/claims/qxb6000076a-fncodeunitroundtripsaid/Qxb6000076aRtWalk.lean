import Derived.Test.Qxb6000076aClone
import Derived.Test.Qxb6000076aDigit
import Derived.OpenShut
import Derived.BigRegion
import Derived.Deep.AppendLies
import Derived.Laws.AppendOwnNone
import Derived.Laws.BitsAllLaws
namespace Go.Proofs.Qxb6000076a
open Go.RowKit
set_option linter.unusedVariables false

/-- what the copy of a slice of bytes is: nil, or a new row of its own -/
def Copied (w : World) (ao : Option Addr) (len : Nat) (zs : List Int) (w' : World) : Prop :=
  (ao = none ∧ len = 0) ∨ (ao = some ⟨w.heap.size, 0, none⟩ ∧ w'.ownsRow w.heap.size 5 1 (.slice (some ⟨w.heap.size, 0, none⟩) len len) len ((zs.take len).map (Value.int .u8)))

set_option maxHeartbeats 400000 in
theorem clone_empty (x : Addr) (cap : Nat) (w : World) :
    Calls Try.prog 8 #[.slice (some x) 0 cap] w fun e w' => e = .returned (.slice (some ⟨w.heap.size, 0, none⟩) 0 0) ∧
      w'.ownsRow w.heap.size 5 1 (.slice (some ⟨w.heap.size, 0, none⟩) 0 0) 0 [] ∧ Below w.heap.size w w' := by
  obtain ⟨i5, hi, hz0, hz1, hz2⟩ := info_parts Try.info5
  have hnil := fun wx => Lib.run_eql_slice_nil (P := Try.prog) wx 22 5 (some x) 0 cap 0 0 Try.underlying22
  go_enter Try.func8, Try.ntmps8
  go_wp2_with (at_make; refine wpList_make_full _ rfl _ _ 22 rfl w.heap.size 5 i5 (.int .u8 0) 1 Try.underlying22 hi hz0 hz1 _ _ _ _ 0 rfl rfl rfl rfl (by omega) (by unfold maxLen; omega) (Nat.le_refl _) ?_)
  intro w1 hown hgrow
  have hbel : Below w.heap.size w w1 := (Below.refl _ _).grown hgrow (Nat.le_refl _) (by intro k h; cases h)
  have hown' : w1.ownsRow w.heap.size 5 1 (.slice (some ⟨w.heap.size, 0, none⟩) 0 0) 0 [] := by
    have e : (madeCells #[Value.int IntKind.u8 0] 0).toList = [] := by rw [toList_madeCells_one]; rfl
    rw [← e]; exact hown
  clear hown hgrow
  go_wp2_with fail
  refine wp_loop_rounds 1 ?_
  rw [rounds_succ]
  go_wp2
  go_ret
  exact ⟨rfl, hown', hbel⟩

theorem clone_all (a : Option Addr) (len cap : Nat) (zs : List Int) (w : World) (hlen : len ≤ zs.length) (hm : len ≤ 1048576)
    (h : (a = none ∧ len = 0 ∧ cap = 0) ∨ ∃ x, a = some x ∧ ∀ i, i < zs.length → w.cell? (x.add i) = some (.int .u8 (zs.getD i 0))) :
    Calls Try.prog 8 #[.slice a len cap] w fun e w' => ∃ ao, e = .returned (.slice ao len len) ∧ Copied w ao len zs w' ∧ Below w.heap.size w w' := by
  rcases h with ⟨rfl, rfl, rfl⟩ | ⟨x, rfl, hc⟩
  · refine (clone_nil w).mono ?_
    rintro e w' ⟨rfl, rfl⟩
    exact ⟨none, rfl, .inl ⟨rfl, rfl⟩, Below.refl _ _⟩
  · by_cases h0 : len = 0
    · subst h0
      refine (clone_empty x cap w).mono ?_
      rintro e w' ⟨rfl, h1, h2⟩
      exact ⟨_, rfl, .inr ⟨rfl, by simpa using h1⟩, h2⟩
    · obtain ⟨b, off, rfl, hc2⟩ := ints_at hc (by omega)
      have hc' : ∀ i, i < len → w.cell? ⟨b, off + i, none⟩ = some (.int .u8 (zs[i]?.getD 0)) := fun i hi => by
        have := hc2 i (by omega)
        simpa [List.getD] using this
      refine (clone_any b off len cap zs w hlen hm (World.block_lt_of_cell? w _ (hc' 0 (by omega))) hc').mono ?_
      rintro e w' ⟨rfl, h1, h2⟩
      exact ⟨_, rfl, .inr ⟨rfl, h1⟩, h2⟩

theorem wraps_u16 (n : Int) (h₀ : 0 ≤ n) (h₁ : n < 2 ^ 16) : IntKind.u16.wrap n = n := by rw [IntKind.wrap_u16]; omega
theorem and15 (x : Int) (h0 : 0 ≤ x) (h1 : x ≤ 65535) : bits .and .u16 x 15 = (((x % 16).toNat : Nat) : Int) := by
  have h := bits_mask .u16 16 (by decide) wraps_u16 4 (by decide) x h0 (by omega)
  have e : ((2 : Int) ^ 4 - 1) = 15 := by decide
  rw [e] at h
  rw [h]
  omega

/-- the four nibbles of a 16-bit number -/
theorem nibbles (u : Int) (h0 : 0 ≤ u) (h1 : u ≤ 65535) : ∃ n3 n2 n1 n0 : Nat, n3 < 16 ∧ n2 < 16 ∧ n1 < 16 ∧ n0 < 16 ∧ u = n3 * 4096 + n2 * 256 + n1 * 16 + n0 ∧
    bits .and .u16 (u / 4096) 15 = (n3 : Int) ∧ bits .and .u16 (u / 256) 15 = (n2 : Int) ∧ bits .and .u16 (u / 16) 15 = (n1 : Int) ∧ bits .and .u16 u 15 = (n0 : Int) :=
  ⟨(u / 4096 % 16).toNat, (u / 256 % 16).toNat, (u / 16 % 16).toNat, (u % 16).toNat, by omega, by omega, by omega, by omega, by omega,
    and15 _ (by omega) (by omega), and15 _ (by omega) (by omega), and15 _ (by omega) (by omega), and15 _ (by omega) (by omega)⟩

/-- a row that has room for four: its first four cells are there and may be written; what is owned behind the four stores -/
theorem room4 (w2 : World) (B len : Nat) (hown : w2.ownsRow B 5 1 (.slice (some ⟨B, 0, none⟩) 0 (4 + len)) 0 []) :
    (∃ v3 v2 v1 v0, w2.cell? ⟨B, 0, none⟩ = some v3 ∧ w2.cell? ⟨B, 1, none⟩ = some v2 ∧ w2.cell? ⟨B, 2, none⟩ = some v1 ∧ w2.cell? ⟨B, 3, none⟩ = some v0) ∧ (∀ j, w2.frozen? ⟨B, j, none⟩ = false) ∧
    ∀ x3 x2 x1 x0, ((((w2.setCell ⟨B, 0, none⟩ x3).setCell ⟨B, 1, none⟩ x2).setCell ⟨B, 2, none⟩ x1).setCell ⟨B, 3, none⟩ x0).ownsRow B 5 1 (.slice (some ⟨B, 0, none⟩) 4 (4 + len)) 4 [x3, x2, x1, x0] ∧
      w2.grownBy ((((w2.setCell ⟨B, 0, none⟩ x3).setCell ⟨B, 1, none⟩ x2).setCell ⟨B, 2, none⟩ x1).setCell ⟨B, 3, none⟩ x0) (some B) := by
  rcases hown.2 with ⟨h', _⟩ | ⟨g', cap', cur, h', hb, hg, hnc, hcm, hcs, htake⟩
  · simp at h'
  · simp only [Value.slice.injEq, Option.some.injEq, Addr.mk.injEq, and_true, true_and] at h'
    obtain ⟨rfl, rfl⟩ := h'
    have hs : cur.size = 4 + len := by omega
    refine ⟨⟨cur[0], cur[1], cur[2], cur[3], ?_, ?_, ?_, ?_⟩, fun j => frozen_of_row w2 B j cur 5 hg, ?_⟩
    · rw [cell_of_row w2 B 0 cur 5 (0, 0) hg]; simp
    · rw [cell_of_row w2 B 1 cur 5 (0, 0) hg]; simp
    · rw [cell_of_row w2 B 2 cur 5 (0, 0) hg]; simp
    · rw [cell_of_row w2 B 3 cur 5 (0, 0) hg]; simp
    · intro x3 x2 x1 x0
      have g1 := heap_setCell_same w2 B 0 cur 5 x3 hg
      have g2 := heap_setCell_same _ B 1 _ 5 x2 g1
      have g3 := heap_setCell_same _ B 2 _ 5 x1 g2
      have g4 := heap_setCell_same _ B 3 _ 5 x0 g3
      refine ⟨⟨rfl, .inr ⟨B, 4 + len, _, rfl, hb, g4, by omega, hcm, by simpa using hcs, ?_⟩⟩, ⟨rfl, rfl, rfl, by simp, fun k _ hk => ?_⟩⟩
      · apply List.ext_getElem?
        intro j
        simp only [Array.toList_setIfInBounds, List.getElem?_take, List.getElem?_set, List.length_set, Array.length_toList, hs]
        match j with
        | 0 => simp
        | 1 => simp; omega
        | 2 => simp; omega
        | 3 => simp; omega
        | j + 4 => simp; omega
      · have hk' : k ≠ B := fun e => hk (by rw [e])
        rw [heap_setCell_other _ ⟨B, 3, none⟩ k _ hk', heap_setCell_other _ ⟨B, 2, none⟩ k _ hk', heap_setCell_other _ ⟨B, 1, none⟩ k _ hk', heap_setCell_other _ ⟨B, 0, none⟩ k _ hk']

/-- the four digits, as functions of their place -/
def at4 (x3 x2 x1 x0 : Int) (i : Nat) : Int := [x3, x2, x1, x0].getD i 0
theorem at4_hex {c3 c2 c1 c0 d3 d2 d1 d0 : Int} (h : HexV c3 d3 ∧ HexV c2 d2 ∧ HexV c1 d1 ∧ HexV c0 d0) : ∀ i, i < 4 → HexV (at4 c3 c2 c1 c0 i) (at4 d3 d2 d1 d0 i) := by
  intro i hi
  match i, hi with
  | 0, _ => exact h.1
  | 1, _ => exact h.2.1
  | 2, _ => exact h.2.2.1
  | 3, _ => exact h.2.2.2
theorem at4_hv (d3 d2 d1 d0 : Int) : hv (at4 d3 d2 d1 d0) 4 = d3 * 4096 + d2 * 256 + d1 * 16 + d0 := by
  simp [hv, at4]; omega
/-- codeUnit on a row that begins with the four digits -/
theorem unit_row (w : World) (base B n cap : Nat) (c3 c2 c1 c0 : Int) (n3 n2 n1 n0 : Nat) (u : Int) (rest : List Value) (hs : u = n3 * 4096 + n2 * 256 + n1 * 16 + n0)
    (hx : HexV c3 n3 ∧ HexV c2 n2 ∧ HexV c1 n1 ∧ HexV c0 n0) (hn : 4 ≤ n) (hcap : n ≤ cap) (hm : cap ≤ 9223372036854775807)
    (hown : w.ownsRow base 5 1 (.slice (some ⟨B, 0, none⟩) n cap) n ([.int .u8 c3, .int .u8 c2, .int .u8 c1, .int .u8 c0] ++ rest)) :
    Calls Try.prog 10 #[.slice (some ⟨B, 0, none⟩) n cap] w fun e w' => e = .returned (.int .i32 u) ∧ w' = w := by
  have h := zzunit_any B n cap (at4 c3 c2 c1 c0) (at4 n3 n2 n1 n0) w hn hcap hm (at4_hex hx) (fun i hi => by
    rw [hown.cellAt i (by omega)]
    match i, hi with
    | 0, _ => rfl
    | 1, _ => rfl
    | 2, _ => rfl
    | 3, _ => rfl)
  rw [at4_hv, ← hs] at h
  exact h

set_option maxHeartbeats 1000000 in
theorem rt_low (u : Int) (a : Option Addr) (len cap : Nat) (zs : List Int) (w : World) (hu0 : 0 ≤ u) (hu1 : u ≤ 65535) (hlen : len ≤ zs.length) (hm : len ≤ 1048576)
    (h : (a = none ∧ len = 0 ∧ cap = 0) ∨ ∃ x, a = some x ∧ ∀ i, i < zs.length → w.cell? (x.add i) = some (.int .u8 (zs.getD i 0))) :
    Calls Try.prog 4 #[.int .u16 u, .bool false, .slice a len cap] w fun e w' => e = .returned (.bool true) ∧ Below w.heap.size w w' := by
  obtain ⟨i5, hi, hz0, hz1, hz2⟩ := info_parts Try.info5
  obtain ⟨n3, n2, n1, n0, l3, l2, l1, l0, hsum, b3, b2, b1, b0⟩ := nibbles u hu0 hu1
  have HS : Hid _ := hsum
  clear hsum
  have HC := clone_all a len cap zs w hlen hm h
  clear h
  go_enter Try.func4, Try.ntmps4
  go_wp2_with (first | (go_at_call 8; refine HC.mono ?_; rintro e w1 ⟨ao, rfl, hcp, hbel⟩) | (go_at_call 11; go_in) | (at_make; refine wpList_make_own _ rfl _ _ 22 rfl w1.heap.size 5 i5 (.int .u8 0) 1 Try.underlying22 hi hz0 hz1 _ _ _ (4 + len) rfl rfl (by omega) (by rw [hz2]; omega) (by unfold maxLen; omega) (Nat.le_refl _) ?_; intro w2 hown hgrow))
  have HCP : Hid (Copied w ao len zs w1) := hcp
  clear hcp HC
  have x3 := low_hex n3 l3
  have x2 := low_hex n2 l2
  have x1 := low_hex n1 l1
  have x0 := low_hex n0 l0
  obtain ⟨c3, e3⟩ : ∃ c : Int, ((((⟨#[48, 49, 50, 51, 52, 53, 54, 55, 56, 57, 97, 98, 99, 100, 101, 102]⟩ : ByteArray)[n3]'l3).toNat : Nat) : Int) = c := ⟨_, rfl⟩
  obtain ⟨c2, e2⟩ : ∃ c : Int, ((((⟨#[48, 49, 50, 51, 52, 53, 54, 55, 56, 57, 97, 98, 99, 100, 101, 102]⟩ : ByteArray)[n2]'l2).toNat : Nat) : Int) = c := ⟨_, rfl⟩
  obtain ⟨c1, e1⟩ : ∃ c : Int, ((((⟨#[48, 49, 50, 51, 52, 53, 54, 55, 56, 57, 97, 98, 99, 100, 101, 102]⟩ : ByteArray)[n1]'l1).toNat : Nat) : Int) = c := ⟨_, rfl⟩
  obtain ⟨c0, e0⟩ : ∃ c : Int, ((((⟨#[48, 49, 50, 51, 52, 53, 54, 55, 56, 57, 97, 98, 99, 100, 101, 102]⟩ : ByteArray)[n0]'l0).toNat : Nat) : Int) = c := ⟨_, rfl⟩
  rw [e3] at x3; rw [e2] at x2; rw [e1] at x1; rw [e0] at x0
  have HX : Hid (HexV c3 n3 ∧ HexV c2 n2 ∧ HexV c1 n1 ∧ HexV c0 n0) := ⟨x3, x2, x1, x0⟩
  clear x3 x2 x1 x0
  have p3 : (0 : Int) ≤ (n3 : Int) := Int.natCast_nonneg _
  have p2 : (0 : Int) ≤ (n2 : Int) := Int.natCast_nonneg _
  have p1 : (0 : Int) ≤ (n1 : Int) := Int.natCast_nonneg _
  have p0 : (0 : Int) ≤ (n0 : Int) := Int.natCast_nonneg _
  have q3 : (n3 : Int) < 16 := by omega
  have q2 : (n2 : Int) < 16 := by omega
  have q1 : (n1 : Int) < 16 := by omega
  have q0 : (n0 : Int) < 16 := by omega
  have hB := (hown.lt w1.heap.size rfl).2
  obtain ⟨⟨v3, v2, v1, v0, r3, r2, r1, r0⟩, hfz, hst⟩ := room4 w2 w1.heap.size len hown
  have HOWN : Hid _ := hst
  clear hown hst
  have HGR : Hid _ := hgrow
  have HBL : Hid _ := hbel
  go_region
  have hown3 := ((HOWN.out (.int .u8 c3) (.int .u8 c2) (.int .u8 c1) (.int .u8 c0)).1.alloc (.cells #[.int .u8 c3, .int .u8 c2, .int .u8 c1, .int .u8 c0] 5)).drew
  have hgr3 := (HOWN.out (.int .u8 c3) (.int .u8 c2) (.int .u8 c1) (.int .u8 c0)).2
  have hwb : w.heap.size ≤ w1.heap.size := hbel.size
  have hbel3 := (((hbel.grown hgrow hwb (by intro k h; cases h)).grown hgr3 (by have := hgrow.size; omega) (by intro k h; cases h; exact hwb)).alloc (by have := hgrow.size; have := hgr3.size; omega) (.cells #[.int .u8 c3, .int .u8 c2, .int .u8 c1, .int .u8 c0] 5)).drew
  clear r3 r2 r1 r0 hfz b3 b2 b1 b0 e3 e2 e1 e0 p3 p2 p1 p0 q3 q2 q1 q0
  rcases HCP.out with ⟨rfl, rfl⟩ | ⟨rfl, hown1⟩
  · clear hgr3 hgrow
    go_wp2_with (first | (at_builtin; refine wpList_append_own_none rfl (.tmp 46) (.tmp 47) 22 rfl w1.heap.size 5 i5 1 Try.underlying22 hi _ 4 _ rfl hown3 rfl ?_) | (go_at_call 10; refine (unit_row _ w1.heap.size w1.heap.size 4 4 c3 c2 c1 c0 n3 n2 n1 n0 u [] HS.out HX.out (by omega) (by omega) (by omega) hown3).mono ?_; rintro e w' ⟨rfl, rfl⟩))
    go_ret
    exact ⟨rfl, hbel3⟩
  · have hlt := (hown1.lt w.heap.size rfl).2
    have hown1' := (((hown1.kept hgrow (.inr (by simp [Value.ownBlock]))).kept hgr3 (.inr (by simp [Value.ownBlock]; omega))).alloc (.cells #[.int .u8 c3, .int .u8 c2, .int .u8 c1, .int .u8 c0] 5)).drew
    have hnews := hown1'.cells (g := w.heap.size) rfl
    have hsz3 : w1.heap.size < (((((w2.setCell ⟨w1.heap.size, 0, none⟩ (.int .u8 c3)).setCell ⟨w1.heap.size, 1, none⟩ (.int .u8 c2)).setCell ⟨w1.heap.size, 2, none⟩ (.int .u8 c1)).setCell ⟨w1.heap.size, 3, none⟩ (.int .u8 c0)).alloc (.cells #[.int .u8 c3, .int .u8 c2, .int .u8 c1, .int .u8 c0] 5)).drew.heap.size := (hown3.lt w1.heap.size rfl).2
    have HN : Hid _ := hnews
    have HB3 : Hid _ := hbel3
    have HZ3 : Hid _ := hsz3
    have HO3 : Hid _ := hown3
    clear hgr3 hgrow hown1 hown1' hnews hbel3 hsz3 hown3
    go_wp2_with (first | (at_builtin; refine wpList_append_fits _ rfl (.tmp 46) (.tmp 47) 22 rfl w1.heap.size 5 i5 1 Try.underlying22 hi hz1 w1.heap.size 4 (4 + len) _ rfl HO3.out ⟨w.heap.size, 0, none⟩ len len ((zs.take len).map (Value.int .u8)) rfl (by simp; omega) HN.out (ints_oneCell _ _) (by omega) ?_; intro w4 hown4 hgrow4) | (go_at_call 10; refine (unit_row _ w1.heap.size w1.heap.size (4 + len) (4 + len) c3 c2 c1 c0 n3 n2 n1 n0 u _ HS.out HX.out (by omega) (by omega) (by omega) hown4).mono ?_; rintro e w' ⟨rfl, rfl⟩))
    go_ret
    exact ⟨rfl, HB3.out.grown hgrow4 (Nat.le_of_lt (Nat.lt_of_le_of_lt hwb HZ3.out)) (by intro k h; cases h; exact hwb)⟩
set_option maxHeartbeats 1000000 in
theorem rt_up (u : Int) (a : Option Addr) (len cap : Nat) (zs : List Int) (w : World) (hu0 : 0 ≤ u) (hu1 : u ≤ 65535) (hlen : len ≤ zs.length) (hm : len ≤ 1048576)
    (h : (a = none ∧ len = 0 ∧ cap = 0) ∨ ∃ x, a = some x ∧ ∀ i, i < zs.length → w.cell? (x.add i) = some (.int .u8 (zs.getD i 0))) :
    Calls Try.prog 4 #[.int .u16 u, .bool true, .slice a len cap] w fun e w' => e = .returned (.bool true) ∧ Below w.heap.size w w' := by
  obtain ⟨i5, hi, hz0, hz1, hz2⟩ := info_parts Try.info5
  obtain ⟨n3, n2, n1, n0, l3, l2, l1, l0, hsum, b3, b2, b1, b0⟩ := nibbles u hu0 hu1
  have HS : Hid _ := hsum
  clear hsum
  have HC := clone_all a len cap zs w hlen hm h
  clear h
  go_enter Try.func4, Try.ntmps4
  go_wp2_with (first | (go_at_call 8; refine HC.mono ?_; rintro e w1 ⟨ao, rfl, hcp, hbel⟩) | (go_at_call 11; go_in) | (at_make; refine wpList_make_own _ rfl _ _ 22 rfl w1.heap.size 5 i5 (.int .u8 0) 1 Try.underlying22 hi hz0 hz1 _ _ _ (4 + len) rfl rfl (by omega) (by rw [hz2]; omega) (by unfold maxLen; omega) (Nat.le_refl _) ?_; intro w2 hown hgrow))
  have HCP : Hid (Copied w ao len zs w1) := hcp
  clear hcp HC
  have x3 := up_hex n3 l3
  have x2 := up_hex n2 l2
  have x1 := up_hex n1 l1
  have x0 := up_hex n0 l0
  obtain ⟨c3, e3⟩ : ∃ c : Int, ((((⟨#[48, 49, 50, 51, 52, 53, 54, 55, 56, 57, 65, 66, 67, 68, 69, 70]⟩ : ByteArray)[n3]'l3).toNat : Nat) : Int) = c := ⟨_, rfl⟩
  obtain ⟨c2, e2⟩ : ∃ c : Int, ((((⟨#[48, 49, 50, 51, 52, 53, 54, 55, 56, 57, 65, 66, 67, 68, 69, 70]⟩ : ByteArray)[n2]'l2).toNat : Nat) : Int) = c := ⟨_, rfl⟩
  obtain ⟨c1, e1⟩ : ∃ c : Int, ((((⟨#[48, 49, 50, 51, 52, 53, 54, 55, 56, 57, 65, 66, 67, 68, 69, 70]⟩ : ByteArray)[n1]'l1).toNat : Nat) : Int) = c := ⟨_, rfl⟩
  obtain ⟨c0, e0⟩ : ∃ c : Int, ((((⟨#[48, 49, 50, 51, 52, 53, 54, 55, 56, 57, 65, 66, 67, 68, 69, 70]⟩ : ByteArray)[n0]'l0).toNat : Nat) : Int) = c := ⟨_, rfl⟩
  rw [e3] at x3; rw [e2] at x2; rw [e1] at x1; rw [e0] at x0
  have HX : Hid (HexV c3 n3 ∧ HexV c2 n2 ∧ HexV c1 n1 ∧ HexV c0 n0) := ⟨x3, x2, x1, x0⟩
  clear x3 x2 x1 x0
  have p3 : (0 : Int) ≤ (n3 : Int) := Int.natCast_nonneg _
  have p2 : (0 : Int) ≤ (n2 : Int) := Int.natCast_nonneg _
  have p1 : (0 : Int) ≤ (n1 : Int) := Int.natCast_nonneg _
  have p0 : (0 : Int) ≤ (n0 : Int) := Int.natCast_nonneg _
  have q3 : (n3 : Int) < 16 := by omega
  have q2 : (n2 : Int) < 16 := by omega
  have q1 : (n1 : Int) < 16 := by omega
  have q0 : (n0 : Int) < 16 := by omega
  have hB := (hown.lt w1.heap.size rfl).2
  obtain ⟨⟨v3, v2, v1, v0, r3, r2, r1, r0⟩, hfz, hst⟩ := room4 w2 w1.heap.size len hown
  have HOWN : Hid _ := hst
  clear hown hst
  have HGR : Hid _ := hgrow
  have HBL : Hid _ := hbel
  go_region
  have hown3 := ((HOWN.out (.int .u8 c3) (.int .u8 c2) (.int .u8 c1) (.int .u8 c0)).1.alloc (.cells #[.int .u8 c3, .int .u8 c2, .int .u8 c1, .int .u8 c0] 5)).drew
  have hgr3 := (HOWN.out (.int .u8 c3) (.int .u8 c2) (.int .u8 c1) (.int .u8 c0)).2
  have hwb : w.heap.size ≤ w1.heap.size := hbel.size
  have hbel3 := (((hbel.grown hgrow hwb (by intro k h; cases h)).grown hgr3 (by have := hgrow.size; omega) (by intro k h; cases h; exact hwb)).alloc (by have := hgrow.size; have := hgr3.size; omega) (.cells #[.int .u8 c3, .int .u8 c2, .int .u8 c1, .int .u8 c0] 5)).drew
  clear r3 r2 r1 r0 hfz b3 b2 b1 b0 e3 e2 e1 e0 p3 p2 p1 p0 q3 q2 q1 q0
  rcases HCP.out with ⟨rfl, rfl⟩ | ⟨rfl, hown1⟩
  · clear hgr3 hgrow
    go_wp2_with (first | (at_builtin; refine wpList_append_own_none rfl (.tmp 46) (.tmp 47) 22 rfl w1.heap.size 5 i5 1 Try.underlying22 hi _ 4 _ rfl hown3 rfl ?_) | (go_at_call 10; refine (unit_row _ w1.heap.size w1.heap.size 4 4 c3 c2 c1 c0 n3 n2 n1 n0 u [] HS.out HX.out (by omega) (by omega) (by omega) hown3).mono ?_; rintro e w' ⟨rfl, rfl⟩))
    go_ret
    exact ⟨rfl, hbel3⟩
  · have hlt := (hown1.lt w.heap.size rfl).2
    have hown1' := (((hown1.kept hgrow (.inr (by simp [Value.ownBlock]))).kept hgr3 (.inr (by simp [Value.ownBlock]; omega))).alloc (.cells #[.int .u8 c3, .int .u8 c2, .int .u8 c1, .int .u8 c0] 5)).drew
    have hnews := hown1'.cells (g := w.heap.size) rfl
    have hsz3 : w1.heap.size < (((((w2.setCell ⟨w1.heap.size, 0, none⟩ (.int .u8 c3)).setCell ⟨w1.heap.size, 1, none⟩ (.int .u8 c2)).setCell ⟨w1.heap.size, 2, none⟩ (.int .u8 c1)).setCell ⟨w1.heap.size, 3, none⟩ (.int .u8 c0)).alloc (.cells #[.int .u8 c3, .int .u8 c2, .int .u8 c1, .int .u8 c0] 5)).drew.heap.size := (hown3.lt w1.heap.size rfl).2
    have HN : Hid _ := hnews
    have HB3 : Hid _ := hbel3
    have HZ3 : Hid _ := hsz3
    have HO3 : Hid _ := hown3
    clear hgr3 hgrow hown1 hown1' hnews hbel3 hsz3 hown3
    go_wp2_with (first | (at_builtin; refine wpList_append_fits _ rfl (.tmp 46) (.tmp 47) 22 rfl w1.heap.size 5 i5 1 Try.underlying22 hi hz1 w1.heap.size 4 (4 + len) _ rfl HO3.out ⟨w.heap.size, 0, none⟩ len len ((zs.take len).map (Value.int .u8)) rfl (by simp; omega) HN.out (ints_oneCell _ _) (by omega) ?_; intro w4 hown4 hgrow4) | (go_at_call 10; refine (unit_row _ w1.heap.size w1.heap.size (4 + len) (4 + len) c3 c2 c1 c0 n3 n2 n1 n0 u _ HS.out HX.out (by omega) (by omega) (by omega) hown4).mono ?_; rintro e w' ⟨rfl, rfl⟩))
    go_ret
    exact ⟨rfl, HB3.out.grown hgrow4 (Nat.le_of_lt (Nat.lt_of_le_of_lt hwb HZ3.out)) (by intro k h; cases h; exact hwb)⟩

/-- too long: nothing is looked at -/
theorem rt_out (u : Int) (up : Bool) (a : Option Addr) (len cap : Nat) (w : World) (hm : len ≤ 9223372036854775807) (h : 1048576 < len) :
    Calls Try.prog 4 #[.int .u16 u, .bool up, .slice a len cap] w fun e w' => e = .returned (.bool true) ∧ Below w.heap.size w w' := by
  go_enter Try.func4, Try.ntmps4
  go_wp2
  go_ret
  exact ⟨rfl, Below.refl _ _⟩
end Go.Proofs.Qxb6000076a
