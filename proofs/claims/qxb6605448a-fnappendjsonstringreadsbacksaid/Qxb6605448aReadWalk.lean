import Derived.Test.Qxb6605448aRead
namespace Go.Proofs.Qxb6605448a
open Go.ChangeShapes Go.WideShapes Go.ChangeAt Go.RowKit
set_option linter.unusedVariables false

set_option maxRecDepth 100000 in
set_option maxHeartbeats 4000000 in
theorem read_any (g off N capq : Nat) (sl : List Int) (w : World) (hq : ∀ i z, (lit sl)[i]? = some z → w.cell? ⟨g, off + i, none⟩ = some (.int .u8 z)) (hN : (escL sl).length = N) (hsl : ∀ c ∈ sl, 0 ≤ c ∧ c ≤ 255) (hb : sl.length ≤ 1048576) :
    Calls Try.prog 15 #[.slice (some ⟨g, off, none⟩) (N + 2) capq] w fun e w' => ∃ g' cap', e = .returned (.tuple #[.slice (some ⟨g', 0, none⟩) sl.length cap', .bool true]) ∧ Buf w' 5 w.heap.size g' sl.length cap' sl ∧ Below w.heap.size w w' := by
  obtain ⟨i0, hi, hz0, hz1, hz2⟩ := info_parts info5
  have hNb : N ≤ 6291456 := by have := escL_len sl; omega
  have HQ : Hid (∀ i z, (lit sl)[i]? = some z → w.cell? ⟨g, off + i, none⟩ = some (.int .u8 z)) := hq
  have HN : Hid ((escL sl).length = N) := hN
  have HS : Hid (∀ c ∈ sl, 0 ≤ c ∧ c ≤ 255) := hsl
  have q0 : w.cell? ⟨g, off, none⟩ = some (.int .u8 34) := hq 0 34 rfl
  have q1 : w.cell? ⟨g, off + (N + 1), none⟩ = some (.int .u8 34) := hq (N + 1) 34 (by rw [← hN]; exact lit_last sl)
  have hgl : g < w.heap.size := block_lt_of_cell q0
  clear hq hN hsl
  go_enter Try.func15, Try.ntmps15
  go_wp2_with (at_make; refine wpList_make_cap5 _ rfl _ _ rfl i0 hi hz0 hz1 hz2 _ (N + 2) rfl rfl (by omega) (by omega) ?_; intro w1 hBu hb1)
  have HR : Hid (RRel w w1 g off w.heap.size (N + 2) sl 0) := ⟨fun i z hz => (hb1.cell (p := ⟨g, off + i, none⟩) hgl).trans (HQ.out i z hz), by simpa using hBu, hb1⟩
  clear hBu hb1 q0 q1
  go_loopw [5, 6] (fun v i wr => ∃ (k j g' cap' : Nat), k ≤ sl.length ∧ i = .int .i64 j ∧ Hid (j = 1 + (escL (sl.take k)).length) ∧ j ≤ N + 1 ∧ v = .slice (some ⟨g', 0, none⟩) k cap' ∧ Hid (RRel w wr g off g' cap' sl k)) (fun _ i _ => N + 2 - (intOf i).toNat)
  case atStart => exact ⟨0, 1, _, _, Nat.zero_le _, rfl, rfl, by omega, rfl, HR⟩
  case round =>
    obtain ⟨k, j, g', cp, hk, rfl, hj, hjN, rfl, hR⟩ := hrel
    clear HR
    have hsz := hR.out.bel.size
    have HB : Hid (Buf wr 5 w.heap.size g' k cp (sl.take k)) := hR.out.buf
    by_cases hlt : k < sl.length
    · obtain ⟨c, hc⟩ : ∃ c, sl[k]? = some c := ⟨sl[k], by simp⟩
      obtain ⟨c0, c1⟩ := HS.out c (List.mem_of_getElem? hc)
      have hcell : ∀ t z, (esc c)[t]? = some z → wr.cell? ⟨g, off + (j + t), none⟩ = some (.int .u8 z) := fun t z hz => hR.out.src (j + t) z (by rw [hj.out]; exact lit_at sl k t c z hc hz)
      obtain ⟨m1, m2⟩ := lit_room sl k c hc
      have hroom : j + (esc c).length ≤ N + 1 := by rw [hj.out]; have := HN.out; omega
      have HJ : Hid (j + (esc c).length = 1 + (escL (sl.take (k + 1))).length) := by unfold Hid; rw [m2, hj.out]; omega
      have HC : Hid (sl[k]? = some c) := hc
      have HCell : Hid (∀ t z, (esc c)[t]? = some z → wr.cell? ⟨g, off + (j + t), none⟩ = some (.int .u8 z)) := hcell
      clear m1 m2 hc hcell hj
      have hlen6 := esc_len c
      by_cases h34 : c = 34
      · subst h34
        have e0 : wr.cell? ⟨g, off + j, none⟩ = some (.int .u8 92) := HCell.out 0 92 rfl
        have e1 : wr.cell? ⟨g, off + (j + 1), none⟩ = some (.int .u8 34) := HCell.out 1 34 rfl
        have hr2 : j + 2 ≤ N + 1 := hroom
        have HJ2 : Hid (j + 2 = 1 + (escL (sl.take (k + 1))).length) := HJ
        clear hroom hlen6 HJ HCell
        go_wp2_with (at_builtin; refine wpList_append_buf _ rfl (.tmp 69) (.tmp 71) 22 22 rfl 5 i0 (.int .u8 0) Try.underlying22 hi hz0 hz1 hz2 rfl w.heap.size g' k cp (sl.take k) rfl (by exact HB.out.alloc _) _ rfl 1 [34] (by exact src_built _ [34] _) (by omega) (by simp; omega) ?_; intro g1 cap1 w1 hB1 hg1)
        have HRn : Hid (RRel w w1 g off g1 cap1 sl (k + 1)) := hR.out.next HC.out hgl hB1 (grown_ofAlloc hg1)
        clear hB1 hg1
        go_wp2
        go_roundw
        case rel => exact ⟨k + 1, j + 2, g1, cap1, by omega, by go_num, HJ2, by omega, rfl, HRn⟩
        case measure => simp [intOf]; omega
      by_cases h92 : c = 92
      · subst h92
        have e0 : wr.cell? ⟨g, off + j, none⟩ = some (.int .u8 92) := HCell.out 0 92 rfl
        have e1 : wr.cell? ⟨g, off + (j + 1), none⟩ = some (.int .u8 92) := HCell.out 1 92 rfl
        have hr2 : j + 2 ≤ N + 1 := hroom
        have HJ2 : Hid (j + 2 = 1 + (escL (sl.take (k + 1))).length) := HJ
        clear hroom hlen6 HJ HCell
        go_wp2_with (at_builtin; refine wpList_append_buf _ rfl (.tmp 69) (.tmp 71) 22 22 rfl 5 i0 (.int .u8 0) Try.underlying22 hi hz0 hz1 hz2 rfl w.heap.size g' k cp (sl.take k) rfl (by exact HB.out.alloc _) _ rfl 1 [92] (by exact src_built _ [92] _) (by omega) (by simp; omega) ?_; intro g1 cap1 w1 hB1 hg1)
        have HRn : Hid (RRel w w1 g off g1 cap1 sl (k + 1)) := hR.out.next HC.out hgl hB1 (grown_ofAlloc hg1)
        clear hB1 hg1
        go_wp2
        go_roundw
        case rel => exact ⟨k + 1, j + 2, g1, cap1, by omega, by go_num, HJ2, by omega, rfl, HRn⟩
        case measure => simp [intOf]; omega
      by_cases h10 : c = 10
      · subst h10
        have e0 : wr.cell? ⟨g, off + j, none⟩ = some (.int .u8 92) := HCell.out 0 92 rfl
        have e1 : wr.cell? ⟨g, off + (j + 1), none⟩ = some (.int .u8 110) := HCell.out 1 110 rfl
        have hr2 : j + 2 ≤ N + 1 := hroom
        have HJ2 : Hid (j + 2 = 1 + (escL (sl.take (k + 1))).length) := HJ
        clear hroom hlen6 HJ HCell
        go_wp2_with (at_builtin; refine wpList_append_buf _ rfl (.tmp 85) (.tmp 86) 22 22 rfl 5 i0 (.int .u8 0) Try.underlying22 hi hz0 hz1 hz2 rfl w.heap.size g' k cp (sl.take k) rfl (by exact HB.out.alloc _) _ rfl 1 [10] (by exact src_built _ [10] _) (by omega) (by simp; omega) ?_; intro g1 cap1 w1 hB1 hg1)
        have HRn : Hid (RRel w w1 g off g1 cap1 sl (k + 1)) := hR.out.next HC.out hgl hB1 (grown_ofAlloc hg1)
        clear hB1 hg1
        go_wp2
        go_roundw
        case rel => exact ⟨k + 1, j + 2, g1, cap1, by omega, by go_num, HJ2, by omega, rfl, HRn⟩
        case measure => simp [intOf]; omega
      by_cases h13 : c = 13
      · subst h13
        have e0 : wr.cell? ⟨g, off + j, none⟩ = some (.int .u8 92) := HCell.out 0 92 rfl
        have e1 : wr.cell? ⟨g, off + (j + 1), none⟩ = some (.int .u8 114) := HCell.out 1 114 rfl
        have hr2 : j + 2 ≤ N + 1 := hroom
        have HJ2 : Hid (j + 2 = 1 + (escL (sl.take (k + 1))).length) := HJ
        clear hroom hlen6 HJ HCell
        go_wp2_with (at_builtin; refine wpList_append_buf _ rfl (.tmp 90) (.tmp 91) 22 22 rfl 5 i0 (.int .u8 0) Try.underlying22 hi hz0 hz1 hz2 rfl w.heap.size g' k cp (sl.take k) rfl (by exact HB.out.alloc _) _ rfl 1 [13] (by exact src_built _ [13] _) (by omega) (by simp; omega) ?_; intro g1 cap1 w1 hB1 hg1)
        have HRn : Hid (RRel w w1 g off g1 cap1 sl (k + 1)) := hR.out.next HC.out hgl hB1 (grown_ofAlloc hg1)
        clear hB1 hg1
        go_wp2
        go_roundw
        case rel => exact ⟨k + 1, j + 2, g1, cap1, by omega, by go_num, HJ2, by omega, rfl, HRn⟩
        case measure => simp [intOf]; omega
      by_cases h9 : c = 9
      · subst h9
        have e0 : wr.cell? ⟨g, off + j, none⟩ = some (.int .u8 92) := HCell.out 0 92 rfl
        have e1 : wr.cell? ⟨g, off + (j + 1), none⟩ = some (.int .u8 116) := HCell.out 1 116 rfl
        have hr2 : j + 2 ≤ N + 1 := hroom
        have HJ2 : Hid (j + 2 = 1 + (escL (sl.take (k + 1))).length) := HJ
        clear hroom hlen6 HJ HCell
        go_wp2_with (at_builtin; refine wpList_append_buf _ rfl (.tmp 95) (.tmp 96) 22 22 rfl 5 i0 (.int .u8 0) Try.underlying22 hi hz0 hz1 hz2 rfl w.heap.size g' k cp (sl.take k) rfl (by exact HB.out.alloc _) _ rfl 1 [9] (by exact src_built _ [9] _) (by omega) (by simp; omega) ?_; intro g1 cap1 w1 hB1 hg1)
        have HRn : Hid (RRel w w1 g off g1 cap1 sl (k + 1)) := hR.out.next HC.out hgl hB1 (grown_ofAlloc hg1)
        clear hB1 hg1
        go_wp2
        go_roundw
        case rel => exact ⟨k + 1, j + 2, g1, cap1, by omega, by go_num, HJ2, by omega, rfl, HRn⟩
        case measure => simp [intOf]; omega
      by_cases h32 : c < 32
      · have E : esc c = [92, 117, 48, 48, hexD (c / 16), hexD (c % 16)] := by unfold esc; rw [if_neg h34, if_neg h92, if_neg h10, if_neg h13, if_neg h9, if_pos h32]
        have e0 : wr.cell? ⟨g, off + j, none⟩ = some (.int .u8 92) := HCell.out 0 92 (by rw [E]; rfl)
        have e1 : wr.cell? ⟨g, off + (j + 1), none⟩ = some (.int .u8 117) := HCell.out 1 117 (by rw [E]; rfl)
        have hlen : (esc c).length = 6 := by rw [E]; rfl
        have hr6 : j + 6 ≤ N + 1 := by omega
        have HJ6 : Hid (j + 6 = 1 + (escL (sl.take (k + 1))).length) := by have := HJ.out; rw [hlen] at this; exact this
        have HD : Hid (∀ t : Nat, 2 ≤ t → t < 6 → wr.cell? ⟨g, off + (j + t), none⟩ = some (.int .u8 (hexD (dAt c t)))) := fun t h2 h6 => HCell.out t _ (esc_ctl_at c t h2 h6 E)
        have hd1 : decide ((j : Int) < (N : Int) + 2 - 1) = true := by simp; omega
        have hd2 : decide ((N : Int) + 2 - 1 ≤ (j : Int) + 1) = false := by simp; omega
        have hd3 : decide ((N : Int) + 2 - 1 ≤ (j : Int) + 5) = false := by simp; omega
        clear E hlen hroom hlen6 HJ HCell h34 h92
        go_wp2
        go_loopw [9, 10] (fun v kk wr2 => ∃ t : Nat, 2 ≤ t ∧ t ≤ 6 ∧ kk = .int .i64 t ∧ v = .int .i64 (vTo c t) ∧ wr2 = wr) (fun _ kk _ => 6 - (intOf kk).toNat)
        case atStart => exact ⟨2, by omega, by omega, rfl, rfl, rfl⟩
        case round =>
          obtain ⟨t, t2, t6, rfl, rfl, rfl⟩ := hrel
          obtain ⟨v0, v1⟩ := vTo_bd c t c0 h32
          by_cases hlt6 : t < 6
          · obtain ⟨u0, u1⟩ := dAt_bd c t c0 h32
            have e2 := HD.out t t2 hlt6
            have HV : Hid (vTo c t * 16 + dAt c t = vTo c (t + 1)) := vTo_succ c t t2 hlt6
            generalize vTo c t = vt at *
            generalize dAt c t = dt at *
            go_wp2_with (go_at_call 27; refine (hexval_any _ _ u0 u1).mono ?_; rintro e w2 ⟨rfl, rfl⟩)
            go_roundw
            case rel => exact ⟨t + 1, by omega, by omega, by go_num, by rw [← HV.out], trivial⟩
            case measure => simp [intOf]; omega
          · obtain rfl : t = 6 := by omega
            have hv6 : vTo c 6 = c := by simp [vTo]
            rw [hv6]
            go_wp2_with fail
            refine (rune_any w.heap.size g' k cp (sl.take k) c _ HB.out c0 (by omega) (by omega) hsz).mono ?_
            rintro e w1 ⟨g1, cap1, rfl, hB1, hg1⟩
            have HRn : Hid (RRel w w1 g off g1 cap1 sl (k + 1)) := hR.out.next HC.out hgl hB1 hg1
            clear hB1 hg1
            go_wp2
            go_roundw
            case rel => exact ⟨k + 1, j + 6, g1, cap1, by omega, by go_num, HJ6, by omega, rfl, HRn⟩
            case measure => simp [intOf]; omega
      · have E : esc c = [c] := esc_of_plain (by omega) h34 h92
        have e0 : wr.cell? ⟨g, off + j, none⟩ = some (.int .u8 c) := HCell.out 0 c (by rw [E]; rfl)
        have hlen : (esc c).length = 1 := by rw [E]; rfl
        have hr1 : j + 1 ≤ N + 1 := by omega
        have HJ1 : Hid (j + 1 = 1 + (escL (sl.take (k + 1))).length) := by have := HJ.out; rw [hlen] at this; exact this
        clear E hlen hroom hlen6 HJ HCell
        go_wp2_with (at_builtin; refine wpList_append_buf _ rfl (.tmp 48) (.tmp 50) 22 22 rfl 5 i0 (.int .u8 0) Try.underlying22 hi hz0 hz1 hz2 rfl w.heap.size g' k cp (sl.take k) rfl (by exact HB.out.alloc _) _ rfl 1 [c] (by exact src_built _ [c] _) (by omega) (by simp; omega) ?_; intro g1 cap1 w1 hB1 hg1)
        have HRn : Hid (RRel w w1 g off g1 cap1 sl (k + 1)) := hR.out.next HC.out hgl hB1 (grown_ofAlloc hg1)
        clear hB1 hg1
        go_wp2
        go_roundw
        case rel => exact ⟨k + 1, j + 1, g1, cap1, by omega, by go_num, HJ1, by omega, rfl, HRn⟩
        case measure => simp [intOf]; omega
    · obtain rfl : k = sl.length := by omega
      have hjl : j = N + 1 := by have := hj.out; rw [List.take_of_length_le (Nat.le_refl _), HN.out] at this; omega
      subst hjl
      have hB := hR.out.buf
      rw [List.take_of_length_le (Nat.le_refl _)] at hB
      have HBF : Hid (Buf wr 5 w.heap.size g' sl.length cp sl) := hB
      clear hB
      go_wp2
      go_ret2
      exact ⟨g', cp, rfl, HBF.out, hR.out.bel⟩
end Go.Proofs.Qxb6605448a
