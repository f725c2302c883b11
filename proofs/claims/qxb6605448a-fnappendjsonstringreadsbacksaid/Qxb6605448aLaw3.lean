import Derived.Test.Qxb6605448aJsonApp
namespace Go.Proofs.Qxb6605448a
open Go.ChangeShapes Go.WideShapes Go.ChangeAt Go.RowKit
set_option linter.unusedVariables false

/-- A slice of bytes reads as xs. -/
def Rd (w : World) (a : Option Addr) (xs : List Int) : Prop :=
  xs = [] ∨ ∃ b off, a = some ⟨b, off, none⟩ ∧ ∀ i z, xs[i]? = some z → w.cell? ⟨b, off + i, none⟩ = some (.int .u8 z)
theorem Rd.drewN {w : World} {a : Option Addr} {xs : List Int} (h : Rd w a xs) (q : Nat) : Rd (w.drewN q) a xs := h
theorem Rd.below {w w' : World} {a : Option Addr} {xs : List Int} (h : Rd w a xs) (hb : Below w.heap.size w w') : Rd w' a xs := by
  rcases h with h | ⟨b, off, e, hc⟩
  · exact .inl h
  · exact .inr ⟨b, off, e, fun i z hz => (hb.cell (p := ⟨b, off + i, none⟩) (block_lt_of_cell (hc i z hz))).trans (hc i z hz)⟩
theorem Buf.rd {w : World} {e : TypeId} {base g n cap : Nat} {xs : List Int} (h : Buf w e base g n cap xs) : Rd w (some ⟨g, 0, none⟩) xs :=
  .inr ⟨g, 0, rfl, fun i z hz => by rw [Nat.zero_add]; exact h.cell hz⟩
theorem Sl.rd {w : World} {a : Option Addr} {n : Nat} {xs : List Int} (h : Sl w a n 5 (xs.map (Value.int .u8))) (hn : xs.length = n) : Rd w a xs := by
  rcases h with ⟨_, h⟩ | ⟨b, h1, h2⟩
  · exact .inl (List.eq_nil_of_length_eq_zero (by omega))
  · exact .inr ⟨b, 0, h1, fun i z hz => by rw [Nat.zero_add, h2.cell]; simp [hz]⟩

set_option maxHeartbeats 400000 in
theorem bytesEq_any (a0 a1 : Option Addr) (n c0 c1 : Nat) (xs : List Int) (w : World) (hl : xs.length = n) (h0 : Rd w a0 xs) (h1 : Rd w a1 xs) (hn : n ≤ 1073741824) :
    Calls Try.prog 13 #[.slice a0 n c0, .slice a1 n c1] w fun e w' => e = .returned (.bool true) ∧ Below w.heap.size w w' := by
  have HL : Hid (xs.length = n) := hl
  have H0 : Hid (Rd w a0 xs) := h0
  have H1 : Hid (Rd w a1 xs) := h1
  clear hl h0 h1
  go_enter Try.func13, Try.ntmps13
  go_wp2
  go_loopw [5] (fun i wr => ∃ k : Nat, k ≤ n ∧ i = .int .i64 k ∧ Hid (Rd wr a0 xs) ∧ Hid (Rd wr a1 xs) ∧ Hid (Below w.heap.size w wr)) (fun i _ => n - (intOf i).toNat)
  case atStart => exact ⟨0, Nat.zero_le _, rfl, H0, H1, Below.refl _ _⟩
  case round =>
    obtain ⟨k, hk, rfl, R0, R1, hb⟩ := hrel
    clear H0 H1
    by_cases hlt : k < n
    · obtain ⟨z, hz⟩ : ∃ z, xs[k]? = some z := ⟨xs[k]'(by rw [HL.out]; exact hlt), by simp⟩
      rcases R0.out with h | ⟨b0, o0, rfl, d0⟩
      · subst h; simp at hz
      rcases R1.out with h | ⟨b1, o1, rfl, d1⟩
      · subst h; simp at hz
      have e0 := d0 k z hz
      have e1 := d1 k z hz
      clear d0 d1 hz
      go_wp2
      go_quiet (fail)
      go_wp2
      go_roundw
      case rel => exact ⟨k + 1, by omega, by go_num, R0.out.drewN nq, R1.out.drewN nq, ⟨hb.out.os, hb.out.tape, hb.out.output, hb.out.size, hb.out.block⟩⟩
      case measure => simp [intOf]; omega
    · go_wp2
      go_ret
      exact ⟨rfl, hb.out⟩

theorem zzjson_any (a : Option Addr) (n : Nat) (xs : List Int) (s : ByteArray) (w : World) (hS : Sl w a n 5 (xs.map (Value.int .u8))) (hlen : xs.length = n) (hb : n + s.size ≤ 1048576) :
    Calls Try.prog 12 #[.slice a n n, .string s] w fun e w' => ∃ g m cap, e = .returned (.slice (some ⟨g, 0, none⟩) m cap) ∧ Buf w' 5 w.heap.size g m cap (xs ++ [34] ++ escL (bytesOf s) ++ [34]) ∧ Below w.heap.size w w' := by
  have HS : Hid (Sl w a n 5 (xs.map (Value.int .u8))) := hS
  have HL : Hid (xs.length = n) := hlen
  clear hS hlen
  go_enter Try.func12, Try.ntmps12
  go_wp2_with fail
  refine (json_any a n xs s _ HS.out HL.out hb).mono ?_
  rintro e w1 ⟨g, m, cap, rfl, hB, hbel⟩
  go_wp2
  go_ret
  exact ⟨g, m, cap, rfl, hB, hbel⟩

set_option maxHeartbeats 400000 in
theorem zzbytes3 (a : Option Addr) (l c : Nat) (s : ByteArray) (w : World) (h0 : l ≤ maxLen) (h1 : s.size ≤ maxLen) :
    Calls Try.prog 9 #[.slice a l c, .string s] w fun e w' => e = .returned (.bool (decide (l + s.size ≤ 1048576))) ∧ w' = w := by
  unfold maxLen at h0 h1
  go_enter Try.func9, Try.ntmps9
  go_wp2
  all_goals go_ret
  all_goals refine ⟨?_, rfl⟩
  all_goals (congr 2; simp; omega)
set_option maxHeartbeats 400000 in
theorem zzbytes4 (a : Option Addr) (l c : Nat) (s : ByteArray) (w : World) (h0 : l ≤ maxLen) (h1 : s.size ≤ maxLen) :
    Calls Try.prog 14 #[.slice a l c, .string s] w fun e w' => e = .returned (.bool (decide (l + s.size ≤ 1048576))) ∧ w' = w := by
  unfold maxLen at h0 h1
  go_enter Try.func14, Try.ntmps14
  go_wp2
  all_goals go_ret
  all_goals refine ⟨?_, rfl⟩
  all_goals (congr 2; simp; omega)

theorem clone_bytes' (a : Option Addr) (n cap : Nat) (xs : List Int) (w : World) (hn : xs.length = n) (hc : Came w .u8 a xs) (hl : n ≤ 1048576) :
    Calls Try.prog 10 #[.slice a n cap] w fun e w' => ∃ a', e = .returned (.slice a' n n) ∧ Sl w' a' n 5 (xs.map (Value.int .u8)) ∧ Below w.heap.size w w' := by
  subst hn; exact clone_bytes a cap xs w hc hl

theorem src_sl {w : World} {a : Option Addr} {n : Nat} {xs : List Int} (h : Sl w a n 5 (xs.map (Value.int .u8))) (hn : xs.length = n) : Src Try.prog 1 22 (.slice a n n) n (xs.map (Value.int .u8)) w := by
  rcases h with ⟨rfl, rfl⟩ | ⟨b, rfl, hr⟩
  · have : xs = [] := List.eq_nil_of_length_eq_zero hn
    subst this
    exact Src.ofNil w (e' := 5) Try.underlying22 0
  · refine Src.ofSlice _ (e' := 5) Try.underlying22 _ _ _ _ (by simp [hn]) ?_ (ints_one xs)
    intro j u hu
    rw [Addr.add_lit, Nat.zero_add, hr.cell]
    exact hu

/-- 'make([]byte, 0, n)' as a buffer. -/
theorem wpList_make_cap5 (w : World) {ops : Array Oper} {rest : List Oper} {o : Oper} {a : Act} {Q : Exit → Act → World → Prop}
    (hg : o.guard = none) (l c : Operand) (hop : o.op = Op.makeSlice 22 l c) (i : TypeInfo) (h2 : Try.prog.info? 5 = some i) (h3 : i.zero = some (.int .u8 0)) (h4 : i.size = 1) (h5 : i.bytes = 1)
    (C : Int) (n : Nat) (hl : a.eval l = .int .i64 0) (hc : a.eval c = .int .i64 C) (hC : C = (n : Int)) (b2 : n ≤ 1073741824)
    (hK : ∀ w', Buf w' 5 w.heap.size w.heap.size 0 n [] → Below w.heap.size w w' → wpList Try.prog ops Q rest (a.put o.dst (.slice (some ⟨w.heap.size, 0, none⟩) 0 n)) w') :
    wpList Try.prog ops Q (o :: rest) a w := by
  refine wpList_make_own w hg l c 22 hop w.heap.size 5 i (.int .u8 0) 1 Try.underlying22 h2 h3 h4 .i64 .i64 C n hl hc hC (by rw [h5]; omega) (by unfold maxLen; omega) (Nat.le_refl _) ?_
  intro w' hown hgr
  rcases hown.2 with ⟨h0, _⟩ | ⟨g, cap, cur, hv, _, hh, _, _, hcs, htake⟩
  · cases h0
  · cases hv
    exact hK w' ⟨⟨cur.toList, by unfold Row; simpa using hh, by simpa using hcs⟩, rfl, Nat.zero_le _, Nat.le_refl _⟩ ((Below.refl _ _).grown hgr (Nat.le_refl _) (by simp))

/-- The buffer 'want' of the law, and what lies beside it. -/
structure WRel (w w1 wr : World) (a : Option Addr) (g nn cap n : Nat) (sl xs : List Int) (k : Nat) : Prop where
  buf : Buf wr 5 w1.heap.size g nn cap (xs ++ [34] ++ escL (sl.take k))
  bel : Below w1.heap.size w1 wr
theorem WRel.small {w w1 wr : World} {a : Option Addr} {g nn cap n : Nat} {sl xs : List Int} {k : Nat} (h : WRel w w1 wr a g nn cap n sl xs k) (hx : xs.length = n) (hn : n ≤ 1048576) (hk : k ≤ 1048576) : nn ≤ 8388608 := by
  have h1 := h.buf.len
  have h2 := escL_len (sl.take k)
  simp at h1 h2
  omega

set_option maxRecDepth 100000 in
set_option maxHeartbeats 2000000 in
theorem law3_main (a : Option Addr) (n cap : Nat) (xs : List Int) (s : ByteArray) (w : World) (hc : Came w .u8 a xs) (hlen : xs.length = n) (hb : n + s.size ≤ 1048576) :
    Calls Try.prog 3 #[.slice a n cap, .string s] w fun e w' => e = .returned (.bool true) ∧ Below w.heap.size w w' := by
  obtain ⟨i0, hi, hz0, hz1, hz2⟩ := info_parts info5
  have HC : Hid (Came w .u8 a xs) := hc
  have HL : Hid (xs.length = n) := hlen
  clear hc hlen
  have hB : decide (n + s.size ≤ 1048576) = true := by simp; omega
  have HBd : Hid (decide (n + s.size ≤ 1048576) = true) := hB
  clear hB
  go_enter Try.func3, Try.ntmps3
  go_wp2_with fail
  refine (zzbytes3 _ _ _ _ _ (by unfold maxLen; omega) (by unfold maxLen; omega)).mono ?_
  rintro e w' ⟨rfl, hw'⟩
  obtain rfl : w = w' := hw'.symm
  rw [HBd.out]
  go_wp2_with fail
  refine (clone_bytes' a n cap xs _ HL.out HC.out (by omega)).mono ?_
  rintro e w1 ⟨a', rfl, t0, bel1⟩
  have HS : Hid (Sl w1 a' n 5 (xs.map (Value.int .u8))) := t0
  have HB1 : Hid (Below w.heap.size w w1) := bel1
  clear t0 bel1 HC
  go_wp2_with (first
    | (at_make; refine wpList_make_cap5 _ rfl _ _ rfl i0 hi hz0 hz1 hz2 _ (n + 6 * s.size + 2) rfl rfl (by omega) (by omega) ?_; intro w2 hBu hb2)
    | (at_builtin; refine wpList_append_buf _ rfl (.tmp 34) (.tmp 35) 22 22 rfl 5 i0 (.int .u8 0) Try.underlying22 hi hz0 hz1 hz2 rfl w1.heap.size w1.heap.size 0 (n + 6 * s.size + 2) [] rfl hBu _ rfl n xs (by exact src_sl (HS.out.below hb2) HL.out) (by omega) (by exact hb2.size) ?_; intro g3 cap3 w3 hB3 hg3)
    | (at_builtin; refine wpList_append_buf _ rfl (.tmp 37) (.tmp 38) 22 22 rfl 5 i0 (.int .u8 0) Try.underlying22 hi hz0 hz1 hz2 rfl w1.heap.size g3 n cap3 xs rfl (by simpa using hB3.alloc _) _ rfl 1 [34] (by exact src_built _ [34] _) (by omega) (by simp; have h1 := hb2.size; have h2 := hg3.size; omega) ?_; intro g4 cap4 w4 hB4 hg4))
  have HW : Hid (WRel w w1 w4 a' g4 (n + 1) cap4 n (bytesOf s) xs 0) := by
    have b3 : Below w1.heap.size w1 w3 := hb2.trans (grownBy_below hg3 (Nat.le_refl _) hb2.size)
    have b4 : Below w1.heap.size w1 w4 := b3.trans (grownBy_below (grown_ofAlloc hg4) (by have := hB3.base; exact this) b3.size)
    exact ⟨by simpa [escL] using hB4, b4⟩
  clear hBu hb2 hB3 hg3 hB4 hg4
  go_loopw [5, 6] (fun v i wr => ∃ (k g nn cap : Nat), k ≤ s.size ∧ i = .int .i64 k ∧ v = .slice (some ⟨g, 0, none⟩) nn cap ∧ Hid (WRel w w1 wr a' g nn cap n (bytesOf s) xs k)) (fun _ i _ => s.size - (intOf i).toNat)
  case atStart => exact ⟨0, _, _, _, Nat.zero_le _, rfl, rfl, HW⟩
  case round =>
    obtain ⟨k, g, nn, cp, hks, rfl, rfl, hW⟩ := hrel
    clear HW
    have hnn := hW.out.small HL.out (by omega) (by omega)
    have hsz := hW.out.bel.size
    by_cases hlt : k < s.size
    · obtain ⟨b0, b1⟩ := byte_bounds s k hlt
      have HCk : Hid ((bytesOf s)[k]? = some ((s[k]).toNat : Int)) := bytesOf_at s k hlt
      go_wp2_with fail
      refine (esc_any w1.heap.size g nn cp _ _ _ hW.out.buf b0 b1 (by omega) hsz).mono ?_
      rintro e w5 ⟨g', cap', rfl, hB5, hg5⟩
      have hbase := hW.out.buf.base
      have b5 := grownBy_below hg5 hbase hsz
      have HW5 : Hid (WRel w w1 w5 a' g' (nn + (esc ((s[k]).toNat : Int)).length) cap' n (bytesOf s) xs (k + 1)) := by
        refine ⟨?_, hW.out.bel.trans b5⟩
        rw [take_snoc HCk.out, escL_snoc, ← List.append_assoc]; exact hB5
      clear hB5 hg5 hbase b5
      go_wp2
      go_roundw
      case rel => exact ⟨k + 1, g', _, cap', by omega, by go_num, rfl, HW5⟩
      case measure => simp [intOf]; omega
    · obtain rfl : k = s.size := by omega
      have HBu : Hid (Buf wr 5 w1.heap.size g nn cp (xs ++ [34] ++ escL (bytesOf s))) := by
        have h := hW.out.buf
        rw [List.take_of_length_le (by rw [bytesOf_length]; exact Nat.le_refl _)] at h
        exact h
      go_wp2_with (at_builtin; refine wpList_append_buf _ rfl (.tmp 51) (.tmp 52) 22 22 rfl 5 i0 (.int .u8 0) Try.underlying22 hi hz0 hz1 hz2 rfl w1.heap.size g nn cp _ rfl (by exact HBu.out.alloc _) _ rfl 1 [34] (by exact src_built _ [34] _) (by omega) (by simp; omega) ?_; intro g5 cap5 w5 hB5 hg5)
      have b5 : Below w1.heap.size w1 w5 := hW.out.bel.trans (grownBy_below (grown_ofAlloc hg5) HBu.out.base hsz)
      have HB5 : Hid (Buf w5 5 w1.heap.size g5 (nn + 1) cap5 (xs ++ [34] ++ escL (bytesOf s) ++ [34])) := hB5
      have HS5 : Hid (Sl w5 a' n 5 (xs.map (Value.int .u8))) := HS.out.below b5
      have HBL : Hid (Below w.heap.size w w5) := HB1.out.trans (b5.mono HB1.out.size)
      clear hB5 hg5 b5
      refine (zzjson_any a' n xs s _ HS5.out HL.out hb).mono ?_
      rintro e w6 ⟨g6, m6, cap6, rfl, hB6, hb6⟩
      have hm : m6 = nn + 1 := by rw [← hB6.len, ← HB5.out.len]
      subst hm
      have HB6 : Hid (Buf w6 5 w5.heap.size g6 (nn + 1) cap6 (xs ++ [34] ++ escL (bytesOf s) ++ [34])) := hB6
      have HB5' : Hid (Buf w6 5 w1.heap.size g5 (nn + 1) cap5 (xs ++ [34] ++ escL (bytesOf s) ++ [34])) := HB5.out.below hb6
      have HBL6 : Hid (Below w.heap.size w w6) := HBL.out.trans (hb6.mono HBL.out.size)
      clear hB6 hb6
      go_wp2_with fail
      refine (bytesEq_any _ _ (nn + 1) _ _ _ _ HB6.out.len HB6.out.rd HB5'.out.rd (by omega)).mono ?_
      rintro e w7 ⟨rfl, hb7⟩
      go_wp2
      go_ret
      exact ⟨rfl, HBL6.out.trans (hb7.mono HBL6.out.size)⟩
end Go.Proofs.Qxb6605448a
