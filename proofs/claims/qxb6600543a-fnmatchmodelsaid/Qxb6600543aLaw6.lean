import Derived.Test.Qxb6600543aMatch
import Derived.Test.Qxb6600543aBuf
namespace Go.Proofs.Qxb6600543a
open Go.ChangeShapes Go.WideShapes Go.ChangeAt Go.RowKit
set_option linter.unusedVariables false

theorem info5 : (Try.prog.info? 5).map (fun i => (i.zero, i.size, i.bytes)) = some (some (.int .u8 0), 1, 1) := by kernel_rfl

theorem grown_ofAlloc {w w1 : World} {o : Obj} {r : Option Nat} (h : (w.alloc o).grownBy w1 r) : w.grownBy w1 r :=
  ⟨h.os, h.tape, h.output, by have := h.size; simp at this; omega, fun k hk hr => (h.block k (by simp; omega) hr).trans (Below.heap_alloc w o k hk)⟩
theorem grownBy_below {w w1 : World} {g base : Nat} (h : w.grownBy w1 (some g)) (hb : base ≤ g) (hs : base ≤ w.heap.size) : Below base w w1 :=
  (Below.refl _ _).grown h hs (by intro k hk; simp at hk; omega)
theorem below_drewN {B : Nat} {w w1 : World} (h : Below B w w1) (n : Nat) : Below B w (w1.drewN n) := ⟨h.os, h.tape, h.output, h.size, h.block⟩
theorem src_built (w : World) (ns : List Int) (c : Nat) : Src Try.prog 1 27 (.slice (some ⟨w.heap.size, 0, none⟩) ns.length c) ns.length (ns.map (Value.int .u8)) (w.alloc (.cells (ns.map (Value.int .u8)).toArray 5)) := by
  refine Src.ofSlice _ (e' := 5) Try.underlying27 _ _ _ _ (by simp) ?_ (ints_one ns)
  intro j u hu
  rw [Addr.add_lit, Nat.zero_add, (Row.new w 5 _).cell]
  exact hu
/-- 'make([]byte, 0, n)' as a buffer. -/
theorem wpList_make_cap5 (w : World) {ops : Array Oper} {rest : List Oper} {o : Oper} {a : Act} {Q : Exit → Act → World → Prop}
    (hg : o.guard = none) (l c : Operand) (hop : o.op = Op.makeSlice 27 l c) (i : TypeInfo) (h2 : Try.prog.info? 5 = some i) (h3 : i.zero = some (.int .u8 0)) (h4 : i.size = 1) (h5 : i.bytes = 1)
    (C : Int) (n : Nat) (hl : a.eval l = .int .i64 0) (hc : a.eval c = .int .i64 C) (hC : C = (n : Int)) (b2 : n ≤ 1073741824)
    (hK : ∀ w', Buf w' 5 w.heap.size w.heap.size 0 n [] → Below w.heap.size w w' → wpList Try.prog ops Q rest (a.put o.dst (.slice (some ⟨w.heap.size, 0, none⟩) 0 n)) w') :
    wpList Try.prog ops Q (o :: rest) a w := by
  refine wpList_make_own w hg l c 27 hop w.heap.size 5 i (.int .u8 0) 1 Try.underlying27 h2 h3 h4 .i64 .i64 C n hl hc hC (by rw [h5]; omega) (by unfold maxLen; omega) (Nat.le_refl _) ?_
  intro w' hown hgr
  rcases hown.2 with ⟨h0, _⟩ | ⟨g, cap, cur, hv, _, hh, _, _, hcs, htake⟩
  · cases h0
  · cases hv
    exact hK w' ⟨⟨cur.toList, by unfold Row; simpa using hh, by simpa using hcs⟩, rfl, Nat.zero_le _, Nat.le_refl _⟩ ((Below.refl _ _).grown hgr (Nat.le_refl _) (by simp))

set_option maxHeartbeats 400000 in
theorem zzbytes6 (s t : ByteArray) (w : World) (h0 : s.size ≤ maxLen) (h1 : t.size ≤ maxLen) :
    Calls Try.prog 16 #[.string s, .string t] w fun e w' => e = .returned (.bool (decide (s.size + t.size ≤ 1048576))) ∧ w' = w := by
  unfold maxLen at h0 h1
  go_enter Try.func16, Try.ntmps16
  go_wp2
  all_goals go_ret
  all_goals refine ⟨?_, rfl⟩
  all_goals (congr 2; simp; omega)

theorem zzmatch_any (a : Option Addr) (n cap : Nat) (pat : List Int) (s : ByteArray) (w : World) (hP : Pat w a pat) (hn : pat.length = n) (hcap : n ≤ cap) (hb : n ≤ 1048576) (hs : s.size ≤ 1048576) (hbd : ∀ z ∈ pat, 0 ≤ z ∧ z ≤ 255) :
    Calls Try.prog 14 #[.slice a n cap, .string s] w fun e w' => e = .returned (.bool (glob (toks pat) (bytesOf s))) ∧ ∃ m, w' = w.drewN m := by
  have HP : Hid (Pat w a pat) := hP
  have HN : Hid (pat.length = n) := hn
  have HBD : Hid (∀ z ∈ pat, 0 ≤ z ∧ z ≤ 255) := hbd
  clear hP hn hbd
  go_enter Try.func14, Try.ntmps14
  go_wp2_with fail
  refine (match_any a n cap pat s _ HP.out HN.out hcap hb hs HBD.out).mono ?_
  rintro e w' ⟨rfl, m, rfl⟩
  go_wp2
  go_ret
  exact ⟨rfl, m, rfl⟩

theorem escAll_snoc (l : List Int) (c : Int) : escAll (l ++ [c]) = escAll l ++ [92] ++ [c] := by simp [escAll]
theorem escAll_length (l : List Int) : (escAll l).length = 2 * l.length := by
  induction l with
  | nil => rfl
  | cons c l ih => have e : escAll (c :: l) = 92 :: c :: escAll l := by simp [escAll]
                   rw [e]; simp [ih]; omega
theorem escAll_bd (l : List Int) (h : ∀ z ∈ l, 0 ≤ z ∧ z ≤ 255) : ∀ z ∈ escAll l, 0 ≤ z ∧ z ≤ 255 := by
  intro z hz
  simp only [escAll, List.mem_flatMap] at hz
  obtain ⟨c, hc, hz⟩ := hz
  simp at hz
  rcases hz with rfl | rfl
  · omega
  · exact h _ hc
theorem bytesOf_bd (s : ByteArray) : ∀ c ∈ bytesOf s, 0 ≤ c ∧ c ≤ 255 := by
  intro c hc
  obtain ⟨b, _, rfl⟩ := List.mem_map.1 hc
  have := b.toNat_lt
  omega
theorem take_snoc {sl : List Int} {k : Nat} {c : Int} (hc : sl[k]? = some c) : sl.take (k + 1) = sl.take k ++ [c] := by
  obtain ⟨h, rfl⟩ := List.getElem?_eq_some_iff.1 hc
  rw [List.take_succ_eq_append_getElem h]

theorem map_nat_inj {l m : List UInt8} (h : l.map (fun c => (c.toNat : Int)) = m.map (fun c => (c.toNat : Int))) : l = m := by
  induction l generalizing m with
  | nil => cases m <;> simp_all
  | cons a l ih =>
    cases m with
    | nil => simp at h
    | cons b m =>
      simp at h
      have h1 : a = b := UInt8.toNat_inj.1 (by have := h.1; omega)
      rw [h1, ih (by simpa using h.2)]
theorem bytes_beq (s t : ByteArray) : (bytesOf s == bytesOf t) = (s.toList == t.toList) := by
  rw [ByteArray.toList_eq, ByteArray.toList_eq]
  apply bool_iff
  simp only [beq_iff_eq]
  constructor
  · intro h; exact map_nat_inj h
  · intro h; unfold bytesOf; rw [h]

/-- What the loop that escapes keeps. -/
structure ERel (w wr : World) (g cap : Nat) (sl : List Int) (k : Nat) : Prop where
  buf : Buf wr 5 w.heap.size g (2 * k) cap (escAll (sl.take k))
  bel : Below w.heap.size w wr

set_option maxRecDepth 100000 in
set_option maxHeartbeats 2000000 in
theorem law6_main (s t : ByteArray) (w : World) (hs : s.size ≤ 4096) (ht : t.size ≤ 4096) :
    Calls Try.prog 6 #[.string s, .string t] w fun e w' => e = .returned (.bool true) ∧ Below w.heap.size w w' := by
  obtain ⟨i0, hi, hz0, hz1, hz2⟩ := info_parts info5
  have HBd : Hid (decide (s.size + t.size ≤ 1048576) = true) := by unfold Hid; simp; omega
  go_enter Try.func6, Try.ntmps6
  go_wp2_with fail
  refine (zzbytes6 _ _ _ (by unfold maxLen; omega) (by unfold maxLen; omega)).mono ?_
  rintro e w' ⟨rfl, hw'⟩
  obtain rfl : w = w' := hw'.symm
  rw [HBd.out]
  go_wp2_with (at_make; refine wpList_make_cap5 _ rfl _ _ rfl i0 hi hz0 hz1 hz2 _ (2 * s.size) rfl rfl (by omega) (by omega) ?_; intro w1 hBu hb1)
  have HR : Hid (ERel w w1 w.heap.size (2 * s.size) (bytesOf s) 0) := ⟨by simpa [escAll] using hBu, hb1⟩
  clear hBu hb1
  go_loopw [5, 6] (fun v i wr => ∃ (k g cap : Nat), k ≤ s.size ∧ i = .int .i64 k ∧ v = .slice (some ⟨g, 0, none⟩) (2 * k) cap ∧ Hid (ERel w wr g cap (bytesOf s) k)) (fun _ i _ => s.size - (intOf i).toNat)
  case atStart => exact ⟨0, _, _, Nat.zero_le _, rfl, rfl, HR⟩
  case round =>
    obtain ⟨k, g, cap, hk, rfl, rfl, hR⟩ := hrel
    clear HR
    have hsz := hR.out.bel.size
    have HB : Hid (Buf wr 5 w.heap.size g (2 * k) cap (escAll ((bytesOf s).take k))) := hR.out.buf
    by_cases hlt : k < s.size
    · have HC : Hid ((bytesOf s)[k]? = some ((s[k]).toNat : Int)) := bytesOf_at s k hlt
      go_wp2_with (first
        | (at_builtin; refine wpList_append_buf _ rfl (.tmp 29) (.tmp 30) 27 27 rfl 5 i0 (.int .u8 0) Try.underlying27 hi hz0 hz1 hz2 rfl w.heap.size g (2 * k) cap _ rfl (by exact HB.out.alloc _) _ rfl 1 [92] (by exact src_built _ [92] _) (by omega) (by simp; omega) ?_; intro g1 cap1 w1 hB1 hg1; have hs1 := (grown_ofAlloc hg1).size)
        | (at_builtin; refine wpList_append_buf _ rfl (.tmp 32) (.tmp 36) 27 27 rfl 5 i0 (.int .u8 0) Try.underlying27 hi hz0 hz1 hz2 rfl w.heap.size g1 (2 * k + 1) cap1 _ rfl (by exact hB1.alloc _) _ rfl 1 [((s[k]).toNat : Int)] (by exact src_built _ [((s[k]).toNat : Int)] _) (by omega) (by simp; omega) ?_; intro g2 cap2 w2 hB2 hg2))
      have HR2 : Hid (ERel w w2 g2 cap2 (bytesOf s) (k + 1)) := by
        refine ⟨?_, (hR.out.bel.trans (grownBy_below (grown_ofAlloc hg1) HB.out.base hsz)).trans (grownBy_below (grown_ofAlloc hg2) hB1.base (by omega))⟩
        rw [take_snoc HC.out, escAll_snoc, show 2 * (k + 1) = 2 * k + 1 + 1 from by omega]
        exact hB2
      clear hB1 hg1 hB2 hg2
      go_wp2
      go_roundw
      case rel => exact ⟨k + 1, g2, cap2, by omega, by go_num, by rw [show 2 * (k + 1) = 2 * k + 1 + 1 from by omega], HR2⟩
      case measure => simp [intOf]; omega
    · obtain rfl : k = s.size := by omega
      have HBF : Hid (Buf wr 5 w.heap.size g (2 * s.size) cap (escAll (bytesOf s))) := by
        have h := HB.out
        rw [List.take_of_length_le (by rw [bytesOf_length]; exact Nat.le_refl _)] at h
        exact h
      have HPt : Hid (Pat wr (some ⟨g, 0, none⟩) (escAll (bytesOf s))) := .inr ⟨g, 0, rfl, fun i z hz => by rw [Nat.zero_add]; exact HBF.out.cell hz⟩
      go_wp2_with fail
      refine (zzmatch_any _ (2 * s.size) cap (escAll (bytesOf s)) t _ HPt.out HBF.out.len HBF.out.fits (by omega) (by omega) (escAll_bd _ (bytesOf_bd s))).mono ?_
      rintro e w2 ⟨rfl, m, rfl⟩
      rw [toks_escAll, glob_lits]
      go_wp2
      go_ret
      exact ⟨ret_b (by rw [bytes_beq]; simp), below_drewN hR.out.bel m⟩

set_option maxRecDepth 100000 in
set_option maxHeartbeats 400000 in
theorem law6_early (s t : ByteArray) (w : World) (h0 : s.size ≤ maxLen) (h1 : t.size ≤ maxLen) (h : 1048576 < s.size + t.size ∨ (s.size + t.size ≤ 1048576 ∧ (4096 < s.size ∨ (s.size ≤ 4096 ∧ 4096 < t.size)))) :
    Calls Try.prog 6 #[.string s, .string t] w fun e w' => e = .returned (.bool true) ∧ Below w.heap.size w w' := by
  rcases h with h | ⟨hb, h⟩
  · have hB : decide (s.size + t.size ≤ 1048576) = false := by simp; omega
    go_enter Try.func6, Try.ntmps6
    go_wp2_with fail
    refine (zzbytes6 _ _ _ h0 h1).mono ?_
    rintro e w' ⟨rfl, hw'⟩
    obtain rfl : w = w' := hw'.symm
    rw [hB]
    go_wp2
    go_ret
    exact ⟨rfl, Below.refl _ _⟩
  · have hB : decide (s.size + t.size ≤ 1048576) = true := by simp; omega
    have HB : Hid (decide (s.size + t.size ≤ 1048576) = true) := hB
    clear hB
    rcases h with h | ⟨g0, h⟩
    all_goals
      go_enter Try.func6, Try.ntmps6
      go_wp2_with fail
      refine (zzbytes6 _ _ _ h0 h1).mono ?_
      rintro e w' ⟨rfl, hw'⟩
      obtain rfl : w = w' := hw'.symm
      rw [HB.out]
      go_wp2
      go_ret
      exact ⟨rfl, Below.refl _ _⟩

theorem law6_any (s t : ByteArray) (w : World) (h0 : s.size ≤ maxLen) (h1 : t.size ≤ maxLen) :
    Calls Try.prog 6 #[.string s, .string t] w fun e w' => e = .returned (.bool true) ∧ Below w.heap.size w w' := by
  by_cases h : s.size ≤ 4096 ∧ t.size ≤ 4096
  · exact law6_main s t w h.1 h.2
  · exact law6_early s t w h0 h1 (by omega)
end Go.Proofs.Qxb6600543a
