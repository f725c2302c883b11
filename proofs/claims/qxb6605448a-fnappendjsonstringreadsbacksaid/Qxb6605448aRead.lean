import Derived.Test.Qxb6605448aLaw3
namespace Go.Proofs.Qxb6605448a
open Go.ChangeShapes Go.WideShapes Go.ChangeAt Go.RowKit
set_option linter.unusedVariables false

theorem ret_i64 {a b : Int} (h : a = b) : Ending.returned (.int .i64 a) = .returned (.int .i64 b) := by rw [h]

set_option maxHeartbeats 400000 in
theorem hexval_lo (d : Int) (w : World) (h0 : 0 ≤ d) (h1 : d < 10) :
    Calls Try.prog 27 #[.int .u8 (48 + d)] w fun e w' => e = .returned (.int .i64 d) ∧ w' = w := by
  go_enter Try.func27, Try.ntmps27
  go_wp2
  go_ret
  exact ⟨ret_i64 (by omega), rfl⟩
set_option maxHeartbeats 400000 in
theorem hexval_hi (d : Int) (w : World) (h0 : 10 ≤ d) (h1 : d < 16) :
    Calls Try.prog 27 #[.int .u8 (97 + (d - 10))] w fun e w' => e = .returned (.int .i64 d) ∧ w' = w := by
  go_enter Try.func27, Try.ntmps27
  go_wp2
  go_ret
  exact ⟨ret_i64 (by omega), rfl⟩
theorem hexval_any (d : Int) (w : World) (h0 : 0 ≤ d) (h1 : d < 16) :
    Calls Try.prog 27 #[.int .u8 (hexD d)] w fun e w' => e = .returned (.int .i64 d) ∧ w' = w := by
  unfold hexD
  by_cases h : d < 10
  · rw [if_pos h]; exact hexval_lo d w h0 h
  · rw [if_neg h]; exact hexval_hi d w (by omega) h1

set_option maxHeartbeats 400000 in
theorem rune_any (base g n cap : Nat) (xs : List Int) (v : Int) (w : World) (hB : Buf w 5 base g n cap xs) (h0 : 0 ≤ v) (h1 : v < 128) (hn : n ≤ 16777216) (hbase : base ≤ w.heap.size) :
    Calls Try.prog 28 #[.slice (some ⟨g, 0, none⟩) n cap, .int .i64 v] w fun e w' => ∃ g' cap', e = .returned (.slice (some ⟨g', 0, none⟩) (n + 1) cap') ∧ Buf w' 5 base g' (n + 1) cap' (xs ++ [v]) ∧ w.grownBy w' (some g) := by
  obtain ⟨i0, hi, hz0, hz1, hz2⟩ := info_parts info5
  have HB : Hid (Buf w 5 base g n cap xs) := hB
  clear hB
  go_enter Try.func28, Try.ntmps28
  go_wp2_with (at_builtin; refine wpList_append_buf _ rfl (.tmp 7) (.tmp 10) 22 22 rfl 5 i0 (.int .u8 0) Try.underlying22 hi hz0 hz1 hz2 rfl base g n cap xs rfl (HB.out.alloc _) _ rfl 1 [v] (by exact src_built _ [v] _) (by omega) (by simp; omega) ?_; intro g' cap' w1 hB1 hg1)
  go_ret
  exact ⟨g', cap', rfl, hB1, grown_ofAlloc hg1⟩

/-- The literal that is read. -/
def lit (sl : List Int) : List Int := 34 :: (escL sl ++ [34])
theorem lit_length (sl : List Int) : (lit sl).length = (escL sl).length + 2 := by simp [lit]
theorem lit_head (sl : List Int) : (lit sl)[0]? = some 34 := rfl
theorem lit_last (sl : List Int) : (lit sl)[(escL sl).length + 1]? = some 34 := by simp [lit]
theorem lit_at (sl : List Int) (k t : Nat) (c z : Int) (hc : sl[k]? = some c) (hz : (esc c)[t]? = some z) : (lit sl)[1 + (escL (sl.take k)).length + t]? = some z := by
  obtain ⟨hk, hck⟩ := List.getElem?_eq_some_iff.1 hc
  have e : sl = sl.take k ++ c :: sl.drop (k + 1) := by
    rw [← hck, List.getElem_cons_drop, List.take_append_drop]
  have e2 : escL sl = escL (sl.take k) ++ (esc c ++ escL (sl.drop (k + 1))) := by
    conv => lhs; rw [e]
    rw [escL_append]; simp [escL]
  have ht := (List.getElem?_eq_some_iff.1 hz).1
  unfold lit
  rw [show 1 + (escL (sl.take k)).length + t = ((escL (sl.take k)).length + t) + 1 from by omega, List.getElem?_cons_succ, e2]
  rw [List.append_assoc, List.getElem?_append_right (by omega), show (escL (sl.take k)).length + t - (escL (sl.take k)).length = t from by omega]
  rw [List.append_assoc, List.getElem?_append_left ht]
  exact hz
theorem lit_room (sl : List Int) (k : Nat) (c : Int) (hc : sl[k]? = some c) : (escL (sl.take k)).length + (esc c).length ≤ (escL sl).length ∧ (escL (sl.take (k + 1))).length = (escL (sl.take k)).length + (esc c).length := by
  have h1 : escL (sl.take (k + 1)) = escL (sl.take k) ++ esc c := by rw [take_snoc hc, escL_snoc]
  have h2 : escL sl = escL (sl.take (k + 1)) ++ escL (sl.drop (k + 1)) := by rw [← escL_append, List.take_append_drop]
  constructor
  · rw [h2, h1]; simp
  · rw [h1]; simp

def vTo (c : Int) (t : Nat) : Int := if t ≤ 4 then 0 else if t = 5 then c / 16 else c
def dAt (c : Int) (t : Nat) : Int := if t ≤ 3 then 0 else if t = 4 then c / 16 else c % 16
theorem vTo_succ (c : Int) (t : Nat) (h2 : 2 ≤ t) (h6 : t < 6) : vTo c t * 16 + dAt c t = vTo c (t + 1) := by
  unfold vTo dAt
  rcases (show t = 2 ∨ t = 3 ∨ t = 4 ∨ t = 5 from by omega) with rfl | rfl | rfl | rfl <;> simp <;> omega
theorem vTo_bd (c : Int) (t : Nat) (h0 : 0 ≤ c) (h1 : c < 32) : 0 ≤ vTo c t ∧ vTo c t < 32 := by
  unfold vTo; split
  · omega
  · split <;> omega
theorem dAt_bd (c : Int) (t : Nat) (h0 : 0 ≤ c) (h1 : c < 32) : 0 ≤ dAt c t ∧ dAt c t < 16 := by
  unfold dAt; split
  · omega
  · split <;> omega
theorem esc_ctl_at (c : Int) (t : Nat) (h2 : 2 ≤ t) (h6 : t < 6) (he : esc c = [92, 117, 48, 48, hexD (c / 16), hexD (c % 16)]) : (esc c)[t]? = some (hexD (dAt c t)) := by
  rw [he]
  rcases (show t = 2 ∨ t = 3 ∨ t = 4 ∨ t = 5 from by omega) with rfl | rfl | rfl | rfl <;> simp [dAt, hexD]

/-- What the reader's loop keeps. -/
structure RRel (w wr : World) (g off g' cap' : Nat) (sl : List Int) (k : Nat) : Prop where
  src : ∀ i z, (lit sl)[i]? = some z → wr.cell? ⟨g, off + i, none⟩ = some (.int .u8 z)
  buf : Buf wr 5 w.heap.size g' k cap' (sl.take k)
  bel : Below w.heap.size w wr
theorem RRel.next {w wr w1 : World} {g off g' cap' g1 cap1 : Nat} {sl : List Int} {k : Nat} {c : Int} (h : RRel w wr g off g' cap' sl k) (hc : sl[k]? = some c) (hg : g < w.heap.size) (hB : Buf w1 5 w.heap.size g1 (k + 1) cap1 (sl.take k ++ [c])) (hgr : wr.grownBy w1 (some g')) :
    RRel w w1 g off g1 cap1 sl (k + 1) := by
  have hb := grownBy_below hgr h.buf.base h.bel.size
  refine ⟨fun i z hz => ?_, by rw [take_snoc hc]; exact hB, h.bel.trans hb⟩
  exact (hb.cell (p := ⟨g, off + i, none⟩) hg).trans (h.src i z hz)

end Go.Proofs.Qxb6605448a
