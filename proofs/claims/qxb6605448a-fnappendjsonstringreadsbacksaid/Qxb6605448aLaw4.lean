import Derived.Test.Qxb6605448aReadWalk
namespace Go.Proofs.Qxb6605448a
open Go.ChangeShapes Go.WideShapes Go.ChangeAt Go.RowKit
set_option linter.unusedVariables false

theorem bytesOf_bd (s : ByteArray) : ∀ c ∈ bytesOf s, 0 ≤ c ∧ c ≤ 255 := by
  intro c hc
  obtain ⟨b, _, rfl⟩ := List.mem_map.1 hc
  have := b.toNat_lt
  omega

set_option maxRecDepth 100000 in
set_option maxHeartbeats 4000000 in
theorem law4_main (a : Option Addr) (n cap : Nat) (xs : List Int) (s : ByteArray) (w : World) (hc : Came w .u8 a xs) (hlen : xs.length = n) (hb : n + s.size ≤ 1048576) :
    Calls Try.prog 4 #[.slice a n cap, .string s] w fun e w' => e = .returned (.bool true) ∧ Below w.heap.size w w' := by
  have HC : Hid (Came w .u8 a xs) := hc
  have HL : Hid (xs.length = n) := hlen
  clear hc hlen
  have HBd : Hid (decide (n + s.size ≤ 1048576) = true) := by unfold Hid; simp; omega
  go_enter Try.func4, Try.ntmps4
  go_wp2_with fail
  refine (zzbytes4 _ _ _ _ _ (by unfold maxLen; omega) (by unfold maxLen; omega)).mono ?_
  rintro e w' ⟨rfl, hw'⟩
  obtain rfl : w = w' := hw'.symm
  rw [HBd.out]
  go_wp2_with fail
  refine (clone_bytes' a n cap xs _ HL.out HC.out (by omega)).mono ?_
  rintro e w1 ⟨a', rfl, t0, bel1⟩
  have HS : Hid (Sl w1 a' n 5 (xs.map (Value.int .u8))) := t0
  have HB1 : Hid (Below w.heap.size w w1) := bel1
  clear t0 bel1 HC
  go_wp2_with fail
  refine (zzjson_any a' n xs s _ HS.out HL.out hb).mono ?_
  rintro e w2 ⟨g, m, cp, rfl, hB2, hb2⟩
  have hmN : m = n + ((escL (bytesOf s)).length + 2) := by
    have := hB2.len
    simp [HL.out] at this
    omega
  have HR1 : Hid (Rd w2 (some ⟨g, 0, none⟩) xs) := by
    refine .inr ⟨g, 0, rfl, fun i z hz => ?_⟩
    rw [Nat.zero_add]
    exact hB2.cell (by rw [List.append_assoc, List.append_assoc, List.getElem?_append_left (List.getElem?_eq_some_iff.1 hz).1]; exact hz)
  have HQ : Hid (∀ i z, (lit (bytesOf s))[i]? = some z → w2.cell? ⟨g, n + i, none⟩ = some (.int .u8 z)) := by
    intro i z hz
    refine hB2.cell ?_
    have e : xs ++ [34] ++ escL (bytesOf s) ++ [34] = xs ++ lit (bytesOf s) := by simp [lit]
    rw [e, List.getElem?_append_right (by rw [HL.out]; omega), HL.out, show n + i - n = i from by omega]
    exact hz
  have hfit := hB2.fits
  have HR2 : Hid (Rd w2 a' xs) := (HS.out.below hb2).rd HL.out
  have HBL : Hid (Below w.heap.size w w2) := HB1.out.trans (hb2.mono HB1.out.size)
  have hNb := escL_len (bytesOf s)
  rw [bytesOf_length] at hNb
  generalize hN : (escL (bytesOf s)).length = N at *
  have HN : Hid ((escL (bytesOf s)).length = N) := hN
  subst hmN
  have hcn : ¬ cp = n := by omega
  clear hB2 hb2 HS hN
  go_wp2_with fail
  refine (bytesEq_any _ _ n _ _ xs _ HL.out HR1.out HR2.out (by omega)).mono ?_
  rintro e w3 ⟨rfl, hb3⟩
  have HQ3 : Hid (∀ i z, (lit (bytesOf s))[i]? = some z → w3.cell? ⟨g, n + i, none⟩ = some (.int .u8 z)) := fun i z hz => (hb3.cell (p := ⟨g, n + i, none⟩) (block_lt_of_cell (HQ.out i z hz))).trans (HQ.out i z hz)
  have HBL3 : Hid (Below w.heap.size w w3) := HBL.out.trans (hb3.mono HBL.out.size)
  clear hb3 HR1 HR2 HQ HBL
  go_wp2_with fail
  refine (read_any g n N (cp - n) (bytesOf s) _ HQ3.out HN.out (bytesOf_bd s) (by rw [bytesOf_length]; omega)).mono ?_
  rintro e w4 ⟨g4, cap4, rfl, hB4, hb4⟩
  rw [bytesOf_length] at hB4 ⊢
  have HB4 : Hid (Buf w4 5 w3.heap.size g4 s.size cap4 (bytesOf s)) := hB4
  have HBL4 : Hid (Below w.heap.size w w4) := HBL3.out.trans (hb4.mono HBL3.out.size)
  clear hB4 hb4 HQ3 HBL3
  go_wp2_with fail
  go_loopw [8] (fun i wr => ∃ k : Nat, k ≤ s.size ∧ i = .int .i64 k ∧ Hid (Buf wr 5 w3.heap.size g4 s.size cap4 (bytesOf s)) ∧ Hid (Below w.heap.size w wr)) (fun i _ => s.size - (intOf i).toNat)
  case atStart => exact ⟨0, Nat.zero_le _, rfl, HB4, HBL4⟩
  case round =>
    obtain ⟨k, hk, rfl, hB, hbl⟩ := hrel
    clear HB4 HBL4
    by_cases hlt : k < s.size
    · have e0 := hB.out.cell (bytesOf_at s k hlt)
      go_wp2
      go_quiet (fail)
      go_wp2
      go_roundw
      case rel => exact ⟨k + 1, by omega, by go_num, hB.out.drewN nq, ⟨hbl.out.os, hbl.out.tape, hbl.out.output, hbl.out.size, hbl.out.block⟩⟩
      case measure => simp [intOf]; omega
    · go_wp2
      go_ret
      exact ⟨rfl, hbl.out⟩

set_option maxRecDepth 100000 in
set_option maxHeartbeats 400000 in
theorem law4_early (a : Option Addr) (l cap : Nat) (s : ByteArray) (w : World) (h0 : l ≤ maxLen) (h1 : s.size ≤ maxLen) (h : 1048576 < l + s.size) :
    Calls Try.prog 4 #[.slice a l cap, .string s] w fun e w' => e = .returned (.bool true) ∧ Below w.heap.size w w' := by
  have hB : decide (l + s.size ≤ 1048576) = false := by simp; omega
  go_enter Try.func4, Try.ntmps4
  go_wp2_with fail
  refine (zzbytes4 _ _ _ _ _ h0 h1).mono ?_
  rintro e w' ⟨rfl, hw'⟩
  obtain rfl : w = w' := hw'.symm
  rw [hB]
  go_wp2
  go_ret
  exact ⟨rfl, Below.refl _ _⟩

theorem law4_any (a : Option Addr) (l cap : Nat) (z : List Int) (s : ByteArray) (w : World) (w0 : RowIn .u8 w a l cap z) (h1 : s.size ≤ maxLen) :
    Calls Try.prog 4 #[.slice a l cap, .string s] w fun e w' => e = .returned (.bool true) ∧ Below w.heap.size w w' := by
  obtain ⟨k0, e0, m0⟩ := w0.came
  by_cases h : l + s.size ≤ 1048576
  · exact law4_main a l cap _ s w k0 e0 h
  · exact law4_early a l cap s w m0 h1 (by omega)
end Go.Proofs.Qxb6605448a
