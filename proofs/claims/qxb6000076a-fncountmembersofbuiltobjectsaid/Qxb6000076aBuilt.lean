import Derived.Test.Qxb6000076aNames
import Derived.Test.Qxb6000076aCount
namespace Go.Proofs.Qxb6000076a
open Go.RowKit
set_option linter.unusedVariables false

/-- 'append(dst, a, b, ..)', dst a row of bytes of the call's own: the new bytes lie in a block of their own first -/
theorem app_lit (W : World) {ops : Array Oper} {rest : List Oper} {o : Oper} {a : Act} {Q : Exit → Act → World → Prop} (hgd : o.guard = none) (s x : Operand)
    (ho : o.op = .call { callee := .builtin .append, args := #[s, x], argTypes := #[22, 22] }) (B : Nat) (v : Value) (L M : List Int) (cs : Array Value) (hcs : cs = (M.map (Value.int .u8)).toArray)
    (hs : a.eval s = v) (hown : Owns W B v L) (hx : a.eval x = .slice (some ⟨W.heap.size, 0, none⟩) M.length M.length) (hb : L.length + M.length ≤ 1000000000) (hB : B ≤ W.heap.size)
    (hK : ∀ v' w', Owns w' B v' (L ++ M) → Below B W w' → wpList Try.prog ops Q rest (a.put o.dst v') w') : wpList Try.prog ops Q (o :: rest) a (W.alloc (.cells cs 5)) := by
  obtain ⟨i5, hi, hz0, hz1, hz2⟩ := info_parts Try.info5'
  subst hcs
  have hown' : W.ownsRow B 5 1 v L.length (L.map (Value.int .u8)) := hown
  refine wpList_append_own _ hgd s x 22 ho B 5 i5 (.int .u8 0) 1 1 Try.underlying22 hi hz0 hz1 hz2 rfl (by decide) v _ _ hs (hown'.alloc _) ⟨W.heap.size, 0, none⟩ M.length M.length (M.map (Value.int .u8)) hx (by simp)
    (by have := World.news_of_block (heap_alloc_new W (.cells (M.map (Value.int .u8)).toArray 5)); simpa using this) (ints_oneCell _ _) (by unfold maxLen; omega) (by omega) (by simp; omega) ?_
  intro v' w1 hown1 hgrow1 _
  exact hK v' w1 (Owns.more hown1 rfl rfl) (((Below.refl _ _).alloc hB _).grown hgrow1 (by simp; omega) (fun kk h => (hown'.lt kk h).1))

/-- 'append(dst, s...)', s a string -/
theorem app_str (W : World) {ops : Array Oper} {rest : List Oper} {o : Oper} {a : Act} {Q : Exit → Act → World → Prop} (hgd : o.guard = none) (s x : Operand)
    (ho : o.op = .call { callee := .builtin .append, args := #[s, x], argTypes := #[22, 9] }) (B : Nat) (v : Value) (L M : List Int) (t : ByteArray) (ht : Lib.strCells t = M.map (Value.int .u8)) (hm : t.size = M.length)
    (hs : a.eval s = v) (hown : Owns W B v L) (hx : a.eval x = .string t) (hb : L.length + M.length ≤ 1000000000) (hB : B ≤ W.heap.size)
    (hK : ∀ v' w', Owns w' B v' (L ++ M) → Below B W w' → wpList Try.prog ops Q rest (a.put o.dst v') w') : wpList Try.prog ops Q (o :: rest) a W := by
  obtain ⟨i5, hi, hz0, hz1, hz2⟩ := info_parts Try.info5'
  have hown' : W.ownsRow B 5 1 v L.length (L.map (Value.int .u8)) := hown
  refine Lib.wpList_append_own_string _ hgd s x 22 9 ho B 5 i5 Try.underlying22 Try.underlying9 hi hz0 hz1 hz2 v _ _ hs hown' t hx (by unfold maxLen; omega) (by omega) hB ?_
  intro v' w1 hown1 hgrow1 _
  exact hK v' w1 (Owns.more hown1 ht hm) ((Below.refl _ _).grown hgrow1 hB (fun kk h => (hown'.lt kk h).1))

/-- a row of bytes that is not empty, as a slice value and its cells -/
theorem owns_form {w : World} {B : Nat} {v : Value} {L : List Int} (n : Nat) (hL : L.length = n) (h : Owns w B v L) (hl : 0 < n) :
    ∃ g cap, v = .slice (some ⟨g, 0, none⟩) n cap ∧ n ≤ cap ∧ ∀ i, i < n → w.cell? ⟨g, i, none⟩ = some (.int .u8 (L[i]?.getD 0)) := by
  subst hL
  have h' : w.ownsRow B 5 1 v L.length (L.map (Value.int .u8)) := h
  rcases h'.2 with ⟨_, h0⟩ | ⟨g, cap, cur, rfl, _, _, hn, _⟩
  · omega
  · refine ⟨g, cap, rfl, hn, fun i hi => ?_⟩
    rw [h'.cellAt i (by omega)]
    simp [hi]

/-- the names' bytes -/
def lists (ss : List ByteArray) (len : Nat) : List (List Int) := (ss.take len).map bytes
theorem lists_length (ss : List ByteArray) (len : Nat) (h : len ≤ ss.length) : (lists ss len).length = len := by simp [lists]; omega
theorem lists_at (ss : List ByteArray) (len k : Nat) (h : len ≤ ss.length) (hk : k < len) : (lists ss len)[k]?.getD [] = bytes (nm ss k) := by
  simp [lists, nm, hk, show k < ss.length by omega]
theorem lists_nonneg (ss : List ByteArray) (len : Nat) : ∀ s ∈ lists ss len, ∀ c ∈ s, 0 ≤ c := by
  intro s hs c hc
  simp only [lists, List.mem_map] at hs
  obtain ⟨t, _, rfl⟩ := hs
  exact bytes_nonneg t c hc
theorem sum_lists (ss : List ByteArray) (len k : Nat) (h : len ≤ ss.length) (hk : k < len) : Scan.sum (lists ss len) (k + 1) = Scan.sum (lists ss len) k + (nm ss k).size := by
  rw [Scan.sum_succ _ _ (by rw [lists_length ss len h]; exact hk), lists_at ss len k h hk, bytes_length]

/-- no name: true -/
theorem built_none (a : Option Addr) (cap : Nat) (w : World) : Calls Try.prog 6 #[.slice a 0 cap] w fun e w' => e = .returned (.bool true) ∧ Below w.heap.size w w' := by
  have hz : Calls Try.prog 15 #[.slice a 0 cap] w fun e w' => e = .returned (.bool true) ∧ w' = w := by
    go_enter Try.func15, Try.ntmps15
    go_wp2
    refine wp_loop_rounds 1 ?_
    rw [rounds_succ]
    go_wp2
    go_ret
    exact ⟨rfl, rfl⟩
  go_enter Try.func6, Try.ntmps6
  go_wp2_with (go_at_call 15; refine hz.mono ?_; rintro e w' ⟨rfl, rfl⟩)
  refine wp_loop_rounds 1 ?_
  rw [rounds_succ]
  go_wp2
  go_ret
  exact ⟨rfl, Below.refl _ _⟩

theorem cells_value : Lib.strCells (⟨#[123, 34, 107, 34, 58, 91, 49, 44, 50, 44, 123, 34, 120, 34, 58, 34, 44, 34, 125, 93, 44, 34, 115, 34, 58, 34, 97, 44, 92, 34, 98, 34, 44, 34, 116, 34, 58, 91, 91, 93, 44, 123, 125, 93, 44, 34, 117, 34, 58, 34, 92, 117, 48, 48, 50, 99, 34, 125]⟩ : ByteArray) = Scan.value.map (Value.int .u8) := by
  simp [Lib.strCells, Scan.value]

/-- one member written, of the first: no comma -/
theorem obj_first {ls : List (List Int)} {L s : List Int} {k : Nat} (hL : Scan.obj ls k = L) (hs : ls[k]?.getD [] = s) (hk : k = 0) : (((L ++ [34]) ++ Scan.esc s) ++ [34, 58]) ++ Scan.value = Scan.obj ls (k + 1) := by
  rw [Scan.obj, hL, hs, Scan.piece, if_pos hk]; simp
/-- one member written, behind others -/
theorem obj_next {ls : List (List Int)} {L s : List Int} {k : Nat} (hL : Scan.obj ls k = L) (hs : ls[k]?.getD [] = s) (hk : 0 < k) : ((((L ++ [44, 32]) ++ [34]) ++ Scan.esc s) ++ [34, 58]) ++ Scan.value = Scan.obj ls (k + 1) := by
  rw [Scan.obj, hL, hs, Scan.piece, if_neg (by omega)]; simp
/-- the length of what has been written, and of the name that comes next -/
theorem obj_bd (ss : List ByteArray) (len k : Nat) (hlen : len ≤ ss.length) (hk : k < len) (hl : len ≤ 65536) (hs : Scan.sum (lists ss len) len ≤ 1048576) :
    (Scan.obj (lists ss len) k).length + 6 * (nm ss k).size ≤ 100000000 := by
  have h1 := Scan.obj_len (lists ss len) k (by rw [lists_length ss len hlen]; omega)
  have h2 := sum_lists ss len k hlen hk
  have h3 : Scan.sum (lists ss len) (k + 1) ≤ Scan.sum (lists ss len) len := Scan.sum_mono _ _ _ (by omega)
  omega

set_option maxHeartbeats 2000000 in
theorem built_any (b off len cap : Nat) (ss : List ByteArray) (w : World) (h1 : 1 ≤ len) (hm : len ≤ 9223372036854775807) (hlen : len ≤ ss.length) (hb : b < w.heap.size)
    (hsz : ∀ i : Nat, (nm ss i).size ≤ 9223372036854775807) (hc : NamesAt w b off len ss) :
    Calls Try.prog 6 #[.slice (some ⟨b, off, none⟩) len cap] w fun e w' => e = .returned (.bool true) ∧ Below w.heap.size w w' := by
  have HZ := zzbytes_any b off len cap ss w hm hsz hc
  by_cases hbig : 65536 < len
  · clear hc hsz
    go_enter Try.func6, Try.ntmps6
    go_wp2_with (go_at_call 15; refine HZ.mono ?_; rintro e w' ⟨hw, bo, rfl, hsm⟩; obtain rfl := hw.symm; cases bo)
    all_goals
      go_ret
      exact ⟨rfl, Below.refl _ _⟩
  · have hl : ((len : Int) == 0) = false := by simp; omega
    obtain ⟨i5, hi, hz0, hz1, hz2⟩ := info_parts Try.info5'
    have HCL := cloneS_any b off len cap ss w hlen (by omega) hb hc
    go_enter Try.func6, Try.ntmps6
    go_wp2_with (go_at_call 15; refine HZ.mono ?_; rintro e w' ⟨hw, bo, rfl, hsm⟩; obtain rfl := hw.symm; cases bo)
    · go_ret
      exact ⟨rfl, Below.refl _ _⟩
    · clear HZ
      have hsm' := hsm (by trivial)
      clear hsm hsz
      go_loop [3, 4] (fun t i => ∃ k : Nat, k ≤ len ∧ i = .int .i64 k ∧ t = .int .i64 (16 * len + Scan.sum (lists ss len) k : Nat) ∧ 16 * len + Scan.sum (lists ss len) k ≤ 1048576) (fun _ i => len - (intOf i).toNat)
      case atStart => exact ⟨0, Nat.zero_le _, rfl, by simp [Scan.sum], by simp [Scan.sum]; omega⟩
      case round =>
        obtain ⟨k, hk, rfl, rfl, hts⟩ := hrel
        have hsum := sum_lists ss len k hlen
        obtain ⟨t, ht⟩ : ∃ t, Scan.sum (lists ss len) k = t := ⟨_, rfl⟩
        rw [ht] at hts hsum
        rw [ht]
        have HT : Hid _ := ht
        clear ht
        by_cases hlt : k < len
        · have hcx := hc k hlt
          have hs := hsm' k hlt
          have HSUM : Hid _ := hsum hlt
          clear hc hsm' hsum
          obtain ⟨sk, hsk⟩ : ∃ sk, nm ss k = sk := ⟨_, rfl⟩
          rw [hsk] at hcx hs HSUM
          clear hsk
          by_cases hov : 1048576 < 16 * len + t + sk.size
          · go_wp2_with fail
            go_ret
            exact ⟨rfl, Below.refl _ _⟩
          · go_wp2_with fail
            go_round
            case rel =>
              have := HSUM.out
              exact ⟨k + 1, by omega, by go_num, by rw [this]; go_num, by omega⟩
            case measure => simp [intOf]; omega
        · have hke : k = len := by omega
          have hts' : Scan.sum (lists ss len) len ≤ 1048576 := by have h := HT.out; rw [hke] at h; omega
          clear hsum hsm' hc hke
          go_wp2_with (first | (go_at_call 16; refine HCL.mono ?_; rintro e w1 ⟨rfl, hcn, hbel1, hsz1⟩) | (at_make; refine wpList_make_own _ rfl _ _ 22 rfl w1.heap.size 5 i5 (.int .u8 0) 1 Try.underlying22 hi hz0 hz1 _ _ _ 64 rfl rfl rfl (by rw [hz2]; omega) (by unfold maxLen; omega) (Nat.le_refl _) ?_; intro w2 hown2 hgrow2) | (at_builtin; refine app_lit w2 rfl (.tmp 39) (.tmp 40) rfl w1.heap.size _ [] [32, 123] _ rfl rfl hown2 rfl (by simp) hgrow2.size ?_; intro v3 w3 own3 bel3))
          have own3' : Owns w3 w1.heap.size v3 (Scan.obj (lists ss len) 0) := own3
          have hB2 : w1.heap.size ≤ w2.heap.size := hgrow2.size
          have bel3' : Below w1.heap.size w1 w3 := ((Below.refl _ _).grown hgrow2 (Nat.le_refl _) (by intro k h; cases h)).trans bel3
          clear own3 bel3 hown2 hgrow2 HCL HT
          go_loopw [5, 6] (fun d i wr => ∃ j : Nat, j ≤ len ∧ i = .int .i64 j ∧ Owns wr w1.heap.size d (Scan.obj (lists ss len) j) ∧ Below w1.heap.size w1 wr) (fun _ i _ => len - (intOf i).toNat)
          case atStart => exact ⟨0, Nat.zero_le _, rfl, own3', bel3'⟩
          case round =>
            clear own3' bel3'
            obtain ⟨j, hj, rfl, own, bel⟩ := hrel
            have hBr : w1.heap.size ≤ wr.heap.size := bel.size
            by_cases hjl : j < len
            · have hcx : wr.cell? ⟨w.heap.size, j, none⟩ = some (.string (nm ss j)) := by
                have := (bel.cell (p := ⟨w.heap.size, j, none⟩) hsz1).trans (by simpa using hcn j hjl)
                exact this
              have hob := obj_bd ss len j hlen hjl (by omega) hts'
              have hls := lists_at ss len j hlen hjl
              obtain ⟨sk, hsk⟩ : ∃ sk, nm ss j = sk := ⟨_, rfl⟩
              rw [hsk] at hcx hob hls
              have HLS : Hid _ := hls
              clear hsk hls hcn hts'
              by_cases hj0 : j = 0
              · obtain ⟨L, hL⟩ : ∃ L, Scan.obj (lists ss len) j = L := ⟨_, rfl⟩
                rw [hL] at own hob
                have HN : Hid _ := obj_first hL HLS.out hj0
                have hj0' : j < 1 := by omega
                clear hL hj0
                go_wp2_with (first | (at_builtin; refine app_lit wr rfl (.tmp 53) (.tmp 54) rfl w1.heap.size _ L [34] _ rfl rfl own rfl (by simp; omega) hBr ?_; intro v4 w4 own4 bel4; have hc4 : w4.cell? ⟨w.heap.size, j, none⟩ = some (.string sk) := (bel4.cell (p := ⟨w.heap.size, j, none⟩) hsz1).trans hcx) | (go_at_call 17; refine (esc_any w1.heap.size v4 (L ++ [34]) sk w4 (Nat.le_trans hBr bel4.size) own4 (by simp; omega)).mono ?_; rintro e w5 ⟨v5, rfl, own5, bel5⟩; have hB5 := Nat.le_trans (Nat.le_trans hBr bel4.size) bel5.size) | (at_builtin; refine app_lit w5 rfl (.tmp 62) (.tmp 63) rfl w1.heap.size _ _ [34, 58] _ rfl rfl own5 rfl (by have := Scan.esc_len (bytes sk); rw [bytes_length] at this; simp; omega) hB5 ?_; intro v6 w6 own6 bel6) | (at_builtin; refine app_str w6 rfl (.tmp 65) _ rfl w1.heap.size _ _ Scan.value _ cells_value rfl rfl own6 rfl (by have := Scan.esc_len (bytes sk); rw [bytes_length] at this; simp [Scan.value]; omega) (Nat.le_trans hB5 bel6.size) ?_; intro v7 w7 own7 bel7))
                go_roundw
                case rel => exact ⟨j + 1, by omega, by go_num, by rw [← HN.out]; exact own7, (((bel.trans bel4).trans bel5).trans bel6).trans bel7⟩
                case measure => simp [intOf]; omega
              · obtain ⟨L, hL⟩ : ∃ L, Scan.obj (lists ss len) j = L := ⟨_, rfl⟩
                rw [hL] at own hob
                have HN : Hid _ := obj_next hL HLS.out (by omega)
                have hj0' : 0 < j := by omega
                clear hL hj0
                go_wp2_with (first | (at_builtin; refine app_lit wr rfl (.tmp 50) (.tmp 51) rfl w1.heap.size _ L [44, 32] _ rfl rfl own rfl (by simp; omega) hBr ?_; intro v8 w8 own8 bel8; have hB8 := Nat.le_trans hBr bel8.size; have hc8 : w8.cell? ⟨w.heap.size, j, none⟩ = some (.string sk) := (bel8.cell (p := ⟨w.heap.size, j, none⟩) hsz1).trans hcx) | (at_builtin; refine app_lit w8 rfl (.tmp 53) (.tmp 54) rfl w1.heap.size _ (L ++ [44, 32]) [34] _ rfl rfl own8 rfl (by simp; omega) hB8 ?_; intro v4 w4 own4 bel4; have hc4 : w4.cell? ⟨w.heap.size, j, none⟩ = some (.string sk) := (bel4.cell (p := ⟨w.heap.size, j, none⟩) hsz1).trans hc8) | (go_at_call 17; refine (esc_any w1.heap.size v4 (L ++ [44, 32] ++ [34]) sk w4 (Nat.le_trans hB8 bel4.size) own4 (by simp; omega)).mono ?_; rintro e w5 ⟨v5, rfl, own5, bel5⟩; have hB5 := Nat.le_trans (Nat.le_trans hB8 bel4.size) bel5.size) | (at_builtin; refine app_lit w5 rfl (.tmp 62) (.tmp 63) rfl w1.heap.size _ _ [34, 58] _ rfl rfl own5 rfl (by have := Scan.esc_len (bytes sk); rw [bytes_length] at this; simp; omega) hB5 ?_; intro v6 w6 own6 bel6) | (at_builtin; refine app_str w6 rfl (.tmp 65) _ rfl w1.heap.size _ _ Scan.value _ cells_value rfl rfl own6 rfl (by have := Scan.esc_len (bytes sk); rw [bytes_length] at this; simp [Scan.value]; omega) (Nat.le_trans hB5 bel6.size) ?_; intro v7 w7 own7 bel7))
                go_roundw
                case rel => exact ⟨j + 1, by omega, by go_num, by rw [← HN.out]; exact own7, ((((bel.trans bel8).trans bel4).trans bel5).trans bel6).trans bel7⟩
                case measure => simp [intOf]; omega
            · have hje : j = len := by omega
              have hob : (Scan.obj (lists ss len) len).length ≤ 100000000 := by
                have := Scan.obj_len (lists ss len) len (by rw [lists_length ss len hlen]; omega)
                omega
              rw [hje] at own
              have HW : Hid _ := Scan.run_whole (lists ss len) (lists_nonneg ss len) (by rw [lists_length ss len hlen]; omega)
              rw [lists_length ss len hlen] at HW
              obtain ⟨L, hL⟩ : ∃ L, Scan.obj (lists ss len) len = L := ⟨_, rfl⟩
              have HW' : Hid (Scan.run (L ++ [125, 10]) Scan.s0 = ⟨0, 0, len⟩) := by rw [← hL]; exact HW
              rw [hL] at own hob
              clear hL HW hje hcn
              go_wp2_with (first | (at_builtin; refine app_lit wr rfl (.tmp 67) (.tmp 68) rfl w1.heap.size _ L [125, 10] _ rfl rfl own rfl (by simp; omega) hBr ?_; intro v9 w9 own9 bel9; obtain ⟨g9, cap9, rfl, hcap9, hcells9⟩ := owns_form (L.length + 2) (by simp) own9 (by omega)) | (go_at_call 14; refine (zzcount_any g9 (L.length + 2) cap9 (L ++ [125, 10]) len w9 (by simp) (by omega) hcap9 HW'.out hcells9).mono ?_; rintro e w' ⟨rfl, rfl⟩))
              go_ret
              exact ⟨rfl, hbel1.trans ((bel.trans bel9).mono (Nat.le_of_lt hsz1))⟩
end Go.Proofs.Qxb6000076a
