import Derived.Test.Qxb6605448aClone
import Derived.Test.Qxb6605448aCame
import Derived.Test.Qxb6605448aBuf
import Derived.BigQuiet
import Derived.Deep.QuietTactic
namespace Go.Proofs.Qxb6605448a
open Go.ChangeShapes Go.WideShapes Go.ChangeAt Go.RowKit
set_option linter.unusedVariables false

def hexD (d : Int) : Int := if d < 10 then 48 + d else 97 + (d - 10)
/-- What one byte becomes in a JSON string. -/
def esc (c : Int) : List Int :=
  if c = 34 then [92, 34] else if c = 92 then [92, 92] else if c = 10 then [92, 110] else if c = 13 then [92, 114] else if c = 9 then [92, 116]
  else if c < 32 then [92, 117, 48, 48, hexD (c / 16), hexD (c % 16)] else [c]
def escL (l : List Int) : List Int := l.flatMap esc
theorem escL_snoc (l : List Int) (c : Int) : escL (l ++ [c]) = escL l ++ esc c := by simp [escL]
theorem escL_append (l m : List Int) : escL (l ++ m) = escL l ++ escL m := by simp [escL]
theorem esc_len (c : Int) : 1 ≤ (esc c).length ∧ (esc c).length ≤ 6 := by
  unfold esc
  repeat' split
  all_goals simp
theorem escL_len (l : List Int) : (escL l).length ≤ 6 * l.length := by
  induction l with
  | nil => simp [escL]
  | cons c l ih =>
    have := (esc_len c).2
    have e : escL (c :: l) = esc c ++ escL l := by simp [escL]
    rw [e, List.length_append, List.length_cons]; omega

def bytesOf (s : ByteArray) : List Int := s.data.toList.map fun c => (c.toNat : Int)
theorem bytesOf_length (s : ByteArray) : (bytesOf s).length = s.size := by simp [bytesOf]
theorem bytesOf_at (s : ByteArray) (i : Nat) (h : i < s.size) : (bytesOf s)[i]? = some ((s[i]).toNat : Int) := by
  have h' : i < s.data.toList.length := by simpa using h
  simp only [bytesOf, List.getElem?_map, List.getElem?_eq_getElem h', Option.map_some]
  rfl
theorem byte_bounds (s : ByteArray) (i : Nat) (h : i < s.size) : 0 ≤ ((s[i]).toNat : Int) ∧ ((s[i]).toNat : Int) ≤ 255 := by
  have := (s[i]).toNat_lt; omega

theorem grown_ofAlloc {w w1 : World} {o : Obj} {r : Option Nat} (h : (w.alloc o).grownBy w1 r) : w.grownBy w1 r :=
  ⟨h.os, h.tape, h.output, by have := h.size; simp at this; omega, fun k hk hr => (h.block k (by simp; omega) hr).trans (Below.heap_alloc w o k hk)⟩
theorem grownBy_below {w w1 : World} {g base : Nat} (h : w.grownBy w1 (some g)) (hb : base ≤ g) (hs : base ≤ w.heap.size) : Below base w w1 :=
  (Below.refl _ _).grown h hs (by intro k hk; simp at hk; omega)

theorem src_built (w : World) (ns : List Int) (c : Nat) : Src Try.prog 1 22 (.slice (some ⟨w.heap.size, 0, none⟩) ns.length c) ns.length (ns.map (Value.int .u8)) (w.alloc (.cells (ns.map (Value.int .u8)).toArray 5)) := by
  refine Src.ofSlice _ (e' := 5) Try.underlying22 _ _ _ _ (by simp) ?_ (ints_one ns)
  intro j u hu
  rw [Addr.add_lit, Nat.zero_add, (Row.new w 5 _).cell]
  exact hu

theorem ret_byte {a b : Int} (h : a = b) : Ending.returned (.int .u8 a) = .returned (.int .u8 b) := by rw [h]

set_option maxHeartbeats 400000 in
theorem hexdigit_any (d : Int) (w : World) (h0 : 0 ≤ d) (h1 : d ≤ 15) :
    Calls Try.prog 25 #[.int .u8 d] w fun e w' => e = .returned (.int .u8 (hexD d)) ∧ w' = w := by
  go_enter Try.func25, Try.ntmps25
  go_wp2
  · go_ret
    exact ⟨ret_byte (by unfold hexD; rw [if_pos (by assumption)]), rfl⟩
  · go_ret
    exact ⟨ret_byte (by unfold hexD; rw [if_neg (by omega)]), rfl⟩

set_option maxHeartbeats 400000 in
theorem esc_plain (base g n cap : Nat) (xs : List Int) (c : Int) (w : World) (hB : Buf w 5 base g n cap xs) (hc0 : 32 ≤ c) (hc1 : c ≤ 255) (h34 : (c == 34) = false) (h92 : (c == 92) = false) (hn : n ≤ 16777216) (hbase : base ≤ w.heap.size) :
    Calls Try.prog 11 #[.slice (some ⟨g, 0, none⟩) n cap, .int .u8 c] w fun e w' => ∃ g' cap', e = .returned (.slice (some ⟨g', 0, none⟩) (n + 1) cap') ∧ Buf w' 5 base g' (n + 1) cap' (xs ++ [c]) ∧ w.grownBy w' (some g) := by
  obtain ⟨i0, hi, hz0, hz1, hz2⟩ := info_parts info5
  have HB : Hid (Buf w 5 base g n cap xs) := hB
  clear hB
  go_enter Try.func11, Try.ntmps11
  go_wp2_with (at_builtin; refine wpList_append_buf _ rfl (.tmp 47) (.tmp 49) 22 22 rfl 5 i0 (.int .u8 0) Try.underlying22 hi hz0 hz1 hz2 rfl base g n cap xs rfl (HB.out.alloc _) _ rfl 1 [c] (by exact src_built _ [c] _) (by omega) (by simp; omega) ?_; intro g' cap' w1 hB1 hg1)
  go_ret
  exact ⟨g', cap', rfl, hB1, grown_ofAlloc hg1⟩

set_option maxHeartbeats 400000 in
theorem esc_q34 (base g n cap : Nat) (xs : List Int) (w : World) (hB : Buf w 5 base g n cap xs) (hn : n ≤ 16777216) (hbase : base ≤ w.heap.size) :
    Calls Try.prog 11 #[.slice (some ⟨g, 0, none⟩) n cap, .int .u8 34] w fun e w' => ∃ g' cap', e = .returned (.slice (some ⟨g', 0, none⟩) (n + 2) cap') ∧ Buf w' 5 base g' (n + 2) cap' (xs ++ [92, 34]) ∧ w.grownBy w' (some g) := by
  obtain ⟨i0, hi, hz0, hz1, hz2⟩ := info_parts info5
  have HB : Hid (Buf w 5 base g n cap xs) := hB
  clear hB
  go_enter Try.func11, Try.ntmps11
  go_wp2_with (at_builtin; refine wpList_append_buf _ rfl (.tmp 8) (.tmp 9) 22 22 rfl 5 i0 (.int .u8 0) Try.underlying22 hi hz0 hz1 hz2 rfl base g n cap xs rfl (HB.out.alloc _) _ rfl 2 [92, 34] (by exact src_built _ [92, 34] _) (by omega) (by simp; omega) ?_; intro g' cap' w1 hB1 hg1)
  go_ret
  exact ⟨g', cap', rfl, hB1, grown_ofAlloc hg1⟩

set_option maxHeartbeats 400000 in
theorem esc_q92 (base g n cap : Nat) (xs : List Int) (w : World) (hB : Buf w 5 base g n cap xs) (hn : n ≤ 16777216) (hbase : base ≤ w.heap.size) :
    Calls Try.prog 11 #[.slice (some ⟨g, 0, none⟩) n cap, .int .u8 92] w fun e w' => ∃ g' cap', e = .returned (.slice (some ⟨g', 0, none⟩) (n + 2) cap') ∧ Buf w' 5 base g' (n + 2) cap' (xs ++ [92, 92]) ∧ w.grownBy w' (some g) := by
  obtain ⟨i0, hi, hz0, hz1, hz2⟩ := info_parts info5
  have HB : Hid (Buf w 5 base g n cap xs) := hB
  clear hB
  go_enter Try.func11, Try.ntmps11
  go_wp2_with (at_builtin; refine wpList_append_buf _ rfl (.tmp 14) (.tmp 15) 22 22 rfl 5 i0 (.int .u8 0) Try.underlying22 hi hz0 hz1 hz2 rfl base g n cap xs rfl (HB.out.alloc _) _ rfl 2 [92, 92] (by exact src_built _ [92, 92] _) (by omega) (by simp; omega) ?_; intro g' cap' w1 hB1 hg1)
  go_ret
  exact ⟨g', cap', rfl, hB1, grown_ofAlloc hg1⟩

set_option maxHeartbeats 400000 in
theorem esc_q10 (base g n cap : Nat) (xs : List Int) (w : World) (hB : Buf w 5 base g n cap xs) (hn : n ≤ 16777216) (hbase : base ≤ w.heap.size) :
    Calls Try.prog 11 #[.slice (some ⟨g, 0, none⟩) n cap, .int .u8 10] w fun e w' => ∃ g' cap', e = .returned (.slice (some ⟨g', 0, none⟩) (n + 2) cap') ∧ Buf w' 5 base g' (n + 2) cap' (xs ++ [92, 110]) ∧ w.grownBy w' (some g) := by
  obtain ⟨i0, hi, hz0, hz1, hz2⟩ := info_parts info5
  have HB : Hid (Buf w 5 base g n cap xs) := hB
  clear hB
  go_enter Try.func11, Try.ntmps11
  go_wp2_with (at_builtin; refine wpList_append_buf _ rfl (.tmp 20) (.tmp 21) 22 22 rfl 5 i0 (.int .u8 0) Try.underlying22 hi hz0 hz1 hz2 rfl base g n cap xs rfl (HB.out.alloc _) _ rfl 2 [92, 110] (by exact src_built _ [92, 110] _) (by omega) (by simp; omega) ?_; intro g' cap' w1 hB1 hg1)
  go_ret
  exact ⟨g', cap', rfl, hB1, grown_ofAlloc hg1⟩

set_option maxHeartbeats 400000 in
theorem esc_q13 (base g n cap : Nat) (xs : List Int) (w : World) (hB : Buf w 5 base g n cap xs) (hn : n ≤ 16777216) (hbase : base ≤ w.heap.size) :
    Calls Try.prog 11 #[.slice (some ⟨g, 0, none⟩) n cap, .int .u8 13] w fun e w' => ∃ g' cap', e = .returned (.slice (some ⟨g', 0, none⟩) (n + 2) cap') ∧ Buf w' 5 base g' (n + 2) cap' (xs ++ [92, 114]) ∧ w.grownBy w' (some g) := by
  obtain ⟨i0, hi, hz0, hz1, hz2⟩ := info_parts info5
  have HB : Hid (Buf w 5 base g n cap xs) := hB
  clear hB
  go_enter Try.func11, Try.ntmps11
  go_wp2_with (at_builtin; refine wpList_append_buf _ rfl (.tmp 26) (.tmp 27) 22 22 rfl 5 i0 (.int .u8 0) Try.underlying22 hi hz0 hz1 hz2 rfl base g n cap xs rfl (HB.out.alloc _) _ rfl 2 [92, 114] (by exact src_built _ [92, 114] _) (by omega) (by simp; omega) ?_; intro g' cap' w1 hB1 hg1)
  go_ret
  exact ⟨g', cap', rfl, hB1, grown_ofAlloc hg1⟩

set_option maxHeartbeats 400000 in
theorem esc_q9 (base g n cap : Nat) (xs : List Int) (w : World) (hB : Buf w 5 base g n cap xs) (hn : n ≤ 16777216) (hbase : base ≤ w.heap.size) :
    Calls Try.prog 11 #[.slice (some ⟨g, 0, none⟩) n cap, .int .u8 9] w fun e w' => ∃ g' cap', e = .returned (.slice (some ⟨g', 0, none⟩) (n + 2) cap') ∧ Buf w' 5 base g' (n + 2) cap' (xs ++ [92, 116]) ∧ w.grownBy w' (some g) := by
  obtain ⟨i0, hi, hz0, hz1, hz2⟩ := info_parts info5
  have HB : Hid (Buf w 5 base g n cap xs) := hB
  clear hB
  go_enter Try.func11, Try.ntmps11
  go_wp2_with (at_builtin; refine wpList_append_buf _ rfl (.tmp 32) (.tmp 33) 22 22 rfl 5 i0 (.int .u8 0) Try.underlying22 hi hz0 hz1 hz2 rfl base g n cap xs rfl (HB.out.alloc _) _ rfl 2 [92, 116] (by exact src_built _ [92, 116] _) (by omega) (by simp; omega) ?_; intro g' cap' w1 hB1 hg1)
  go_ret
  exact ⟨g', cap', rfl, hB1, grown_ofAlloc hg1⟩

set_option maxHeartbeats 400000 in
theorem esc_ctl (base g n cap : Nat) (xs : List Int) (c : Int) (w : World) (hB : Buf w 5 base g n cap xs) (hc0 : 0 ≤ c) (hc1 : c < 32) (h10 : (c == 10) = false) (h13 : (c == 13) = false) (h9 : (c == 9) = false) (hn : n ≤ 16777216) (hbase : base ≤ w.heap.size) :
    Calls Try.prog 11 #[.slice (some ⟨g, 0, none⟩) n cap, .int .u8 c] w fun e w' => ∃ g' cap', e = .returned (.slice (some ⟨g', 0, none⟩) (n + 6) cap') ∧ Buf w' 5 base g' (n + 6) cap' (xs ++ [92, 117, 48, 48, hexD (c / 16), hexD (c % 16)]) ∧ w.grownBy w' (some g) := by
  obtain ⟨i0, hi, hz0, hz1, hz2⟩ := info_parts info5
  have HB : Hid (Buf w 5 base g n cap xs) := hB
  clear hB
  go_enter Try.func11, Try.ntmps11
  go_wp2_with fail
  refine (hexdigit_any _ _ (by omega) (by omega)).mono ?_
  rintro e w' ⟨rfl, hw'⟩
  obtain rfl : w = w' := hw'.symm
  go_wp2_with fail
  refine (hexdigit_any _ _ (by omega) (by omega)).mono ?_
  rintro e w' ⟨rfl, hw'⟩
  obtain rfl : w = w' := hw'.symm
  go_wp2_with (at_builtin; refine wpList_append_buf _ rfl (.tmp 38) (.tmp 45) 22 22 rfl 5 i0 (.int .u8 0) Try.underlying22 hi hz0 hz1 hz2 rfl base g n cap xs rfl (HB.out.alloc _) _ rfl 6 [92, 117, 48, 48, hexD (c / 16), hexD (c % 16)] (by exact src_built _ [92, 117, 48, 48, hexD (c / 16), hexD (c % 16)] _) (by omega) (by simp; omega) ?_; intro g' cap' w1 hB1 hg1)
  go_ret
  exact ⟨g', cap', rfl, hB1, grown_ofAlloc hg1⟩

theorem esc_any (base g n cap : Nat) (xs : List Int) (c : Int) (w : World) (hB : Buf w 5 base g n cap xs) (hc0 : 0 ≤ c) (hc1 : c ≤ 255) (hn : n ≤ 16777216) (hbase : base ≤ w.heap.size) :
    Calls Try.prog 11 #[.slice (some ⟨g, 0, none⟩) n cap, .int .u8 c] w fun e w' => ∃ g' cap', e = .returned (.slice (some ⟨g', 0, none⟩) (n + (esc c).length) cap') ∧ Buf w' 5 base g' (n + (esc c).length) cap' (xs ++ esc c) ∧ w.grownBy w' (some g) := by
  by_cases h34 : c = 34
  · subst h34; exact esc_q34 base g n cap xs w hB hn hbase
  by_cases h92 : c = 92
  · subst h92; exact esc_q92 base g n cap xs w hB hn hbase
  by_cases h10 : c = 10
  · subst h10; exact esc_q10 base g n cap xs w hB hn hbase
  by_cases h13 : c = 13
  · subst h13; exact esc_q13 base g n cap xs w hB hn hbase
  by_cases h9 : c = 9
  · subst h9; exact esc_q9 base g n cap xs w hB hn hbase
  by_cases h32 : c < 32
  · have e : esc c = [92, 117, 48, 48, hexD (c / 16), hexD (c % 16)] := by simp [esc, *]
    rw [e]
    exact esc_ctl base g n cap xs c w hB hc0 h32 (by simp [h10]) (by simp [h13]) (by simp [h9]) hn hbase
  · have e : esc c = [c] := by simp [esc, *]
    rw [e]
    exact esc_plain base g n cap xs c w hB (by omega) hc1 (by simp [h34]) (by simp [h92]) hn hbase

end Go.Proofs.Qxb6605448a
