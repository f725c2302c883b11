import Derived.Test.Qxb6605448aJson
namespace Go.Proofs.Qxb6605448a
open Go.ChangeShapes Go.WideShapes Go.ChangeAt Go.RowKit
set_option linter.unusedVariables false

theorem bytes_extract (s : ByteArray) (fr k : Nat) (hk : k ≤ s.size) : byteCells (s.extract fr k) = (((bytesOf s).take k).drop fr).map (Value.int .u8) := by
  unfold byteCells bytesOf
  rw [ByteArray.data_extract, Array.toList_extract, List.extract_eq_take_drop, List.drop_take]
  simp only [List.map_drop, List.map_take, List.map_map]
  rfl

theorem src_cut (s : ByteArray) (fr k : Nat) (hf : fr ≤ k) (hk : k ≤ s.size) (w : World) : Src Try.prog 1 9 (.string (s.extract fr k)) (k - fr) ((((bytesOf s).take k).drop fr).map (Value.int .u8)) w := by
  have h := Src.ofString (P := Try.prog) w Try.underlying9 (s.extract fr k)
  rw [bytes_extract s fr k hk, show (s.extract fr k).size = k - fr from by simp; omega] at h
  exact h
theorem src_n (w : World) : Src Try.prog 1 9 (.string ⟨#[92, 110]⟩) 2 (([92, 110] : List Int).map (Value.int .u8)) w := Src.ofString (P := Try.prog) w Try.underlying9 ⟨#[92, 110]⟩
theorem src_r (w : World) : Src Try.prog 1 9 (.string ⟨#[92, 114]⟩) 2 (([92, 114] : List Int).map (Value.int .u8)) w := Src.ofString (P := Try.prog) w Try.underlying9 ⟨#[92, 114]⟩
theorem src_t (w : World) : Src Try.prog 1 9 (.string ⟨#[92, 116]⟩) 2 (([92, 116] : List Int).map (Value.int .u8)) w := Src.ofString (P := Try.prog) w Try.underlying9 ⟨#[92, 116]⟩

theorem src_built_drew (w : World) (ns : List Int) (c : Nat) : Src Try.prog 1 22 (.slice (some ⟨w.heap.size, 0, none⟩) ns.length c) ns.length (ns.map (Value.int .u8)) (w.alloc (.cells (ns.map (Value.int .u8)).toArray 5)).drew := by
  refine Src.ofSlice _ (e' := 5) Try.underlying22 _ _ _ _ (by simp) ?_ (ints_one ns)
  intro j u hu
  rw [Addr.add_lit, Nat.zero_add, (Row.new w 5 _).drew.cell]
  exact hu

theorem step_ctl {ops : Array Oper} {o : Oper} {a : Act} {K : Act → World → Prop} {Q : Exit → Act → World → Prop} {E : Prop} {w1 : World} {X Y : Int} {i : TypeInfo} {base g n cap : Nat} {xs : List Int}
    (hg : o.guard = none) (s x : Operand) (hop : o.op = Op.call { callee := Callee.builtin Builtin.append, args := #[s, x], argTypes := #[22, 22] })
    (hi : Try.prog.info? 5 = some i) (hz : i.zero = some (.int .u8 0)) (hsz : i.size = 1) (hby : i.bytes = 1)
    (hB : Buf w1 5 base g n cap xs) (hs : a.eval s = .slice (some ⟨g, 0, none⟩) n cap) (hx : a.eval x = .slice (some ⟨w1.heap.size, 0, none⟩) 6 6) (hb : n + 6 ≤ 1073741824) (hbase : base ≤ w1.heap.size)
    (hK : ∀ g' cap' w', Buf w' 5 base g' (n + 6) cap' (xs ++ [92, 117, 48, 48, X, Y]) → w1.grownBy w' (some g) → K (a.put o.dst (.slice (some ⟨g', 0, none⟩) (n + 6) cap')) w') :
    if Region.wanted o (yielded ops a.tmps) = true then Oper.wp Try.prog o a (w1.alloc (.cells #[.int .u8 92, .int .u8 117, .int .u8 48, .int .u8 48, .int .u8 X, .int .u8 Y] 5)).drew K Q else E := by
  refine step_append_buf _ hg s x 22 22 hop 5 i (.int .u8 0) Try.underlying22 hi hz hsz hby rfl base g n cap xs hs (hB.alloc _).drew _ hx 6 [92, 117, 48, 48, X, Y] (src_built_drew w1 [92, 117, 48, 48, X, Y] 6) hb (by simp [World.drew]; omega) ?_
  intro g' cap' w' h1 h2
  refine hK g' cap' w' h1 (grown_ofAlloc (o := .cells #[.int .u8 92, .int .u8 117, .int .u8 48, .int .u8 48, .int .u8 X, .int .u8 Y] 5) ?_)
  exact ⟨h2.os, h2.tape, h2.output, h2.size, h2.block⟩

theorem hex_at (d : Int) (h : 0 ≤ d ∧ d < 16) (hh : d.toNat < (⟨#[48, 49, 50, 51, 52, 53, 54, 55, 56, 57, 97, 98, 99, 100, 101, 102]⟩ : ByteArray).size) :
    (((⟨#[48, 49, 50, 51, 52, 53, 54, 55, 56, 57, 97, 98, 99, 100, 101, 102]⟩ : ByteArray)[d.toNat]'hh).toNat : Int) = hexD d := by
  obtain ⟨m, rfl⟩ := Int.eq_ofNat_of_zero_le h.1
  have h16 : m < 16 := by omega
  have key : ∀ m : Fin 16, (((⟨#[48, 49, 50, 51, 52, 53, 54, 55, 56, 57, 97, 98, 99, 100, 101, 102]⟩ : ByteArray)[m.val]'(m.isLt)).toNat : Int) = hexD (m.val : Int) := by decide +kernel
  exact key ⟨m, h16⟩
theorem and15 (c : Int) (h0 : 0 ≤ c) (h1 : c < 32) : bits BinOp.and IntKind.u8 c 15 = c % 16 := by
  obtain ⟨m, rfl⟩ := Int.eq_ofNat_of_zero_le h0
  have h32 : m < 32 := by omega
  have key : ∀ m : Fin 32, bits BinOp.and IntKind.u8 (m.val : Int) 15 = (m.val : Int) % 16 := by decide +kernel
  exact key ⟨m, h32⟩

variable {sl B P : List Int} {k fr : Nat} {c : Int}
theorem take_snoc (hc : sl[k]? = some c) : sl.take (k + 1) = sl.take k ++ [c] := by
  obtain ⟨h, rfl⟩ := List.getElem?_eq_some_iff.1 hc
  rw [List.take_succ_eq_append_getElem h]
theorem rel_plain (E : B ++ (sl.take k).drop fr = P ++ escL (sl.take k)) (hc : sl[k]? = some c) (hp : esc c = [c]) (hfk : fr ≤ k) :
    B ++ (sl.take (k + 1)).drop fr = P ++ escL (sl.take (k + 1)) := by
  have hk := (List.getElem?_eq_some_iff.1 hc).1
  have hl : fr ≤ (sl.take k).length := by simp; omega
  rw [take_snoc hc, List.drop_append_of_le_length hl, ← List.append_assoc, E, escL_snoc, hp, List.append_assoc]
theorem rel_esc (E : B ++ (sl.take k).drop fr = P ++ escL (sl.take k)) (hc : sl[k]? = some c) :
    (B ++ (sl.take k).drop fr ++ esc c) ++ (sl.take (k + 1)).drop (k + 1) = P ++ escL (sl.take (k + 1)) := by
  have hl : (sl.take (k + 1)).length ≤ k + 1 := by simp; omega
  rw [List.drop_of_length_le hl, List.append_nil, E, take_snoc hc, escL_snoc, List.append_assoc]
theorem rel_len (E : B ++ (sl.take k).drop fr = P ++ escL (sl.take k)) : B.length + (min k sl.length - fr) ≤ P.length + 6 * k := by
  have h := congrArg List.length E
  have h2 := escL_len (sl.take k)
  simp at h h2
  omega
theorem esc_of_plain (h0 : 32 ≤ c) (h34 : c ≠ 34) (h92 : c ≠ 92) : esc c = [c] := by
  have h10 : c ≠ 10 := by omega
  have h13 : c ≠ 13 := by omega
  have h9 : c ≠ 9 := by omega
  have h32 : ¬ c < 32 := by omega
  simp [esc, *]

/-- What the loop of appendJSONString keeps. -/
structure JRel (w wr : World) (g nn cap : Nat) (sl P B : List Int) (k fr : Nat) : Prop where
  buf : Buf wr 5 w.heap.size g nn cap B
  eqn : B ++ (sl.take k).drop fr = P ++ escL (sl.take k)
  bel : Below w.heap.size w wr

theorem JRel.small {w wr : World} {g nn cap : Nat} {sl P B : List Int} {k fr : Nat} (h : JRel w wr g nn cap sl P B k fr) (hP : P.length ≤ 1048577) (hk : k ≤ 1048576) : nn ≤ 8388608 := by
  have h1 := rel_len h.eqn
  have h2 := h.buf.len
  omega

set_option maxHeartbeats 2000000 in
theorem json_any (a : Option Addr) (n : Nat) (xs : List Int) (s : ByteArray) (w : World) (hS : Sl w a n 5 (xs.map (Value.int .u8))) (hlen : xs.length = n) (hb : n + s.size ≤ 1048576) :
    Calls Try.prog 26 #[.slice a n n, .string s] w fun e w' => ∃ g m cap, e = .returned (.slice (some ⟨g, 0, none⟩) m cap) ∧ Buf w' 5 w.heap.size g m cap (xs ++ [34] ++ escL (bytesOf s) ++ [34]) ∧ Below w.heap.size w w' := by
  obtain ⟨i0, hi, hz0, hz1, hz2⟩ := info_parts info5
  have HS : Hid (Sl w a n 5 (xs.map (Value.int .u8))) := hS
  have HL : Hid (xs.length = n) := hlen
  clear hS hlen
  go_enter Try.func26, Try.ntmps26
  go_wp2_with (at_builtin; refine wpList_append_new _ rfl (.tmp 8) (.tmp 9) 22 22 rfl 5 i0 (.int .u8 0) Try.underlying22 hi hz0 hz1 hz2 rfl a n n xs rfl HL.out ?c1 ?c2 _ rfl 1 [34] (by exact src_built _ [34] _) (by omega) (by omega) ?_)
  case c1 =>
    intro h
    rcases HS.out with h' | ⟨b, h', _⟩
    · exact h'.2
    · rw [h] at h'; cases h'
  case c2 =>
    intro b h j u hu
    rcases HS.out with ⟨h', _⟩ | ⟨b', h', hr⟩
    · rw [h] at h'; cases h'
    · rw [h] at h'
      obtain rfl := Option.some.inj h'
      rw [Addr.add_lit, Nat.zero_add, (hr.alloc _).cell]
      exact hu
  intro cap0 w1 hB1 hg1
  have hbel : Below w.heap.size w w1 := (((Below.refl _ _).alloc (Nat.le_refl _) _).grown hg1 (by simp) (by simp))
  have HJ : Hid (JRel w w1 (w.heap.size + 1) (n + 1) cap0 (bytesOf s) (xs ++ [34]) (xs ++ [34]) 0 0) := by
    refine ⟨?_, by simp [escL], hbel⟩
    have := hB1.mono (base' := w.heap.size) (by simp)
    simpa using this
  clear hB1 hg1 hbel
  have HP : Hid ((xs ++ [34]).length ≤ 1048577) := by unfold Hid; simp [HL.out]; omega
  go_wp2_with fail
  go_loopw [0, 5, 6] (fun v f i wr => ∃ (k fr g nn cap : Nat) (B : List Int), fr ≤ k ∧ k ≤ s.size ∧ i = .int .i64 k ∧ f = .int .i64 fr ∧ v = .slice (some ⟨g, 0, none⟩) nn cap ∧ Hid (JRel w wr g nn cap (bytesOf s) (xs ++ [34]) B k fr)) (fun _ _ i _ => s.size - (intOf i).toNat)
  case atStart => exact ⟨0, 0, _, _, _, _, Nat.le_refl _, Nat.zero_le _, rfl, rfl, rfl, HJ⟩
  case round =>
    obtain ⟨k, fr, g, nn, cap, B, hfk, hks, rfl, rfl, rfl, hJ⟩ := hrel
    clear HJ
    have hsz := hJ.out.bel.size
    have hnn := hJ.out.small HP.out (by omega)
    by_cases hlt : k < s.size
    · obtain ⟨b0, b1⟩ := byte_bounds s k hlt
      have HC : Hid ((bytesOf s)[k]? = some ((s[k]).toNat : Int)) := bytesOf_at s k hlt
      by_cases hpl : 32 ≤ ((s[k]).toNat : Int) ∧ ((s[k]).toNat : Int) ≠ 34 ∧ ((s[k]).toNat : Int) ≠ 92
      · obtain ⟨p0, p1, p2⟩ := hpl
        have HE : Hid (JRel w wr g nn cap (bytesOf s) (xs ++ [34]) B (k + 1) fr) := ⟨hJ.out.buf, rel_plain hJ.out.eqn HC.out (esc_of_plain p0 p1 p2) hfk, hJ.out.bel⟩
        have q1 : (((s[k]).toNat : Int) != 34) = true := by simp; omega
        have q2 : (((s[k]).toNat : Int) != 92) = true := by simp; omega
        clear p1 p2
        go_wp2
        go_roundw
        case rel => exact ⟨k + 1, fr, g, nn, cap, B, by omega, by omega, by go_num, rfl, rfl, HE⟩
        case measure => simp [intOf]; omega
      · have hB := hJ.out.buf
        have HB : Hid (Buf wr 5 w.heap.size g nn cap B) := hB
        clear hB
        have hnp : ((s[k]).toNat : Int) < 32 ∨ ((s[k]).toNat : Int) = 34 ∨ ((s[k]).toNat : Int) = 92 := by omega
        clear hpl
        by_cases h34 : ((s[k]).toNat : Int) = 34
        · have HEs : Hid (esc ((s[k]).toNat : Int) = [92, 34]) := by unfold Hid; rw [h34]; rfl
          clear hnp
          go_wp2_with (first
            | (at_builtin; refine wpList_append_buf _ rfl (.tmp 30) (.tmp 34) 22 9 rfl 5 i0 (.int .u8 0) Try.underlying22 hi hz0 hz1 hz2 rfl w.heap.size g nn cap B rfl HB.out _ rfl (k - fr) (((bytesOf s).take k).drop fr) (src_cut s fr k hfk hks _) (by omega) (by omega) ?_; intro g1 cap1 w1 hB1 hg1; have hs1 := hg1.size)
            | (at_builtin; refine wpList_append_buf _ rfl (.tmp 49) (.tmp 51) 22 22 rfl 5 i0 (.int .u8 0) Try.underlying22 hi hz0 hz1 hz2 rfl w.heap.size g1 (nn + (k - fr)) cap1 (B ++ ((bytesOf s).take k).drop fr) rfl (by exact hB1.alloc _) _ rfl 2 [92, 34] (by exact src_built _ [92, 34] _) (by omega) (by simp; omega) ?_; intro g2 cap2 w2 hB2 hg2))
          have HR : Hid (JRel w w2 g2 (nn + (k - fr) + 2) cap2 (bytesOf s) (xs ++ [34]) (B ++ ((bytesOf s).take k).drop fr ++ [92, 34]) (k + 1) (k + 1)) := by
            refine ⟨hB2, ?_, ?_⟩
            · have h1 := rel_esc hJ.out.eqn HC.out
              rw [HEs.out] at h1
              exact h1
            · exact (hJ.out.bel.trans (grownBy_below hg1 HB.out.base hsz)).trans (grownBy_below (grown_ofAlloc hg2) hB1.base (by omega))
          clear hB1 hg1 hB2 hg2
          go_wp2
          go_roundw
          case rel => exact ⟨k + 1, k + 1, g2, _, cap2, _, Nat.le_refl _, by omega, by go_num, by go_num, rfl, HR⟩
          case measure => simp [intOf]; omega
        by_cases h92 : ((s[k]).toNat : Int) = 92
        · have HEs : Hid (esc ((s[k]).toNat : Int) = [92, 92]) := by unfold Hid; rw [h92]; rfl
          clear hnp
          go_wp2_with (first
            | (at_builtin; refine wpList_append_buf _ rfl (.tmp 30) (.tmp 34) 22 9 rfl 5 i0 (.int .u8 0) Try.underlying22 hi hz0 hz1 hz2 rfl w.heap.size g nn cap B rfl HB.out _ rfl (k - fr) (((bytesOf s).take k).drop fr) (src_cut s fr k hfk hks _) (by omega) (by omega) ?_; intro g1 cap1 w1 hB1 hg1; have hs1 := hg1.size)
            | (at_builtin; refine wpList_append_buf _ rfl (.tmp 49) (.tmp 51) 22 22 rfl 5 i0 (.int .u8 0) Try.underlying22 hi hz0 hz1 hz2 rfl w.heap.size g1 (nn + (k - fr)) cap1 (B ++ ((bytesOf s).take k).drop fr) rfl (by exact hB1.alloc _) _ rfl 2 [92, 92] (by exact src_built _ [92, 92] _) (by omega) (by simp; omega) ?_; intro g2 cap2 w2 hB2 hg2))
          have HR : Hid (JRel w w2 g2 (nn + (k - fr) + 2) cap2 (bytesOf s) (xs ++ [34]) (B ++ ((bytesOf s).take k).drop fr ++ [92, 92]) (k + 1) (k + 1)) := by
            refine ⟨hB2, ?_, ?_⟩
            · have h1 := rel_esc hJ.out.eqn HC.out
              rw [HEs.out] at h1
              exact h1
            · exact (hJ.out.bel.trans (grownBy_below hg1 HB.out.base hsz)).trans (grownBy_below (grown_ofAlloc hg2) hB1.base (by omega))
          clear hB1 hg1 hB2 hg2
          go_wp2
          go_roundw
          case rel => exact ⟨k + 1, k + 1, g2, _, cap2, _, Nat.le_refl _, by omega, by go_num, by go_num, rfl, HR⟩
          case measure => simp [intOf]; omega
        by_cases h10 : ((s[k]).toNat : Int) = 10
        · have HEs : Hid (esc ((s[k]).toNat : Int) = [92, 110]) := by unfold Hid; rw [h10]; rfl
          clear hnp
          go_wp2_with (first
            | (at_builtin; refine wpList_append_buf _ rfl (.tmp 30) (.tmp 34) 22 9 rfl 5 i0 (.int .u8 0) Try.underlying22 hi hz0 hz1 hz2 rfl w.heap.size g nn cap B rfl HB.out _ rfl (k - fr) (((bytesOf s).take k).drop fr) (src_cut s fr k hfk hks _) (by omega) (by omega) ?_; intro g1 cap1 w1 hB1 hg1; have hs1 := hg1.size)
            | (at_builtin; refine wpList_append_buf _ rfl (.tmp 55) _ 22 9 rfl 5 i0 (.int .u8 0) Try.underlying22 hi hz0 hz1 hz2 rfl w.heap.size g1 (nn + (k - fr)) cap1 (B ++ ((bytesOf s).take k).drop fr) rfl hB1 _ rfl 2 [92, 110] (src_n _) (by omega) (by omega) ?_; intro g2 cap2 w2 hB2 hg2))
          have HR : Hid (JRel w w2 g2 (nn + (k - fr) + 2) cap2 (bytesOf s) (xs ++ [34]) (B ++ ((bytesOf s).take k).drop fr ++ [92, 110]) (k + 1) (k + 1)) := by
            refine ⟨hB2, ?_, ?_⟩
            · have h1 := rel_esc hJ.out.eqn HC.out
              rw [HEs.out] at h1
              exact h1
            · exact (hJ.out.bel.trans (grownBy_below hg1 HB.out.base hsz)).trans (grownBy_below hg2 hB1.base (by omega))
          clear hB1 hg1 hB2 hg2
          go_wp2
          go_roundw
          case rel => exact ⟨k + 1, k + 1, g2, _, cap2, _, Nat.le_refl _, by omega, by go_num, by go_num, rfl, HR⟩
          case measure => simp [intOf]; omega
        by_cases h13 : ((s[k]).toNat : Int) = 13
        · have HEs : Hid (esc ((s[k]).toNat : Int) = [92, 114]) := by unfold Hid; rw [h13]; rfl
          clear hnp
          go_wp2_with (first
            | (at_builtin; refine wpList_append_buf _ rfl (.tmp 30) (.tmp 34) 22 9 rfl 5 i0 (.int .u8 0) Try.underlying22 hi hz0 hz1 hz2 rfl w.heap.size g nn cap B rfl HB.out _ rfl (k - fr) (((bytesOf s).take k).drop fr) (src_cut s fr k hfk hks _) (by omega) (by omega) ?_; intro g1 cap1 w1 hB1 hg1; have hs1 := hg1.size)
            | (at_builtin; refine wpList_append_buf _ rfl (.tmp 59) _ 22 9 rfl 5 i0 (.int .u8 0) Try.underlying22 hi hz0 hz1 hz2 rfl w.heap.size g1 (nn + (k - fr)) cap1 (B ++ ((bytesOf s).take k).drop fr) rfl hB1 _ rfl 2 [92, 114] (src_r _) (by omega) (by omega) ?_; intro g2 cap2 w2 hB2 hg2))
          have HR : Hid (JRel w w2 g2 (nn + (k - fr) + 2) cap2 (bytesOf s) (xs ++ [34]) (B ++ ((bytesOf s).take k).drop fr ++ [92, 114]) (k + 1) (k + 1)) := by
            refine ⟨hB2, ?_, ?_⟩
            · have h1 := rel_esc hJ.out.eqn HC.out
              rw [HEs.out] at h1
              exact h1
            · exact (hJ.out.bel.trans (grownBy_below hg1 HB.out.base hsz)).trans (grownBy_below hg2 hB1.base (by omega))
          clear hB1 hg1 hB2 hg2
          go_wp2
          go_roundw
          case rel => exact ⟨k + 1, k + 1, g2, _, cap2, _, Nat.le_refl _, by omega, by go_num, by go_num, rfl, HR⟩
          case measure => simp [intOf]; omega
        by_cases h9 : ((s[k]).toNat : Int) = 9
        · have HEs : Hid (esc ((s[k]).toNat : Int) = [92, 116]) := by unfold Hid; rw [h9]; rfl
          clear hnp
          go_wp2_with (first
            | (at_builtin; refine wpList_append_buf _ rfl (.tmp 30) (.tmp 34) 22 9 rfl 5 i0 (.int .u8 0) Try.underlying22 hi hz0 hz1 hz2 rfl w.heap.size g nn cap B rfl HB.out _ rfl (k - fr) (((bytesOf s).take k).drop fr) (src_cut s fr k hfk hks _) (by omega) (by omega) ?_; intro g1 cap1 w1 hB1 hg1; have hs1 := hg1.size)
            | (at_builtin; refine wpList_append_buf _ rfl (.tmp 63) _ 22 9 rfl 5 i0 (.int .u8 0) Try.underlying22 hi hz0 hz1 hz2 rfl w.heap.size g1 (nn + (k - fr)) cap1 (B ++ ((bytesOf s).take k).drop fr) rfl hB1 _ rfl 2 [92, 116] (src_t _) (by omega) (by omega) ?_; intro g2 cap2 w2 hB2 hg2))
          have HR : Hid (JRel w w2 g2 (nn + (k - fr) + 2) cap2 (bytesOf s) (xs ++ [34]) (B ++ ((bytesOf s).take k).drop fr ++ [92, 116]) (k + 1) (k + 1)) := by
            refine ⟨hB2, ?_, ?_⟩
            · have h1 := rel_esc hJ.out.eqn HC.out
              rw [HEs.out] at h1
              exact h1
            · exact (hJ.out.bel.trans (grownBy_below hg1 HB.out.base hsz)).trans (grownBy_below hg2 hB1.base (by omega))
          clear hB1 hg1 hB2 hg2
          go_wp2
          go_roundw
          case rel => exact ⟨k + 1, k + 1, g2, _, cap2, _, Nat.le_refl _, by omega, by go_num, by go_num, rfl, HR⟩
          case measure => simp [intOf]; omega
        · have h32 : ((s[k]).toNat : Int) < 32 := by omega
          have E : esc ((s[k]).toNat : Int) = [92, 117, 48, 48, hexD (((s[k]).toNat : Int) / 16), hexD (((s[k]).toNat : Int) % 16)] := by
            unfold esc; rw [if_neg h34, if_neg h92, if_neg h10, if_neg h13, if_neg h9, if_pos h32]
          have HEs : Hid (esc ((s[k]).toNat : Int) = [92, 117, 48, 48, hexD (((s[k]).toNat : Int) / 16), hexD (((s[k]).toNat : Int) % 16)]) := E
          have hand := and15 ((s[k]).toNat : Int) b0 h32
          have m0 : 0 ≤ ((s[k]).toNat : Int) % 16 := by omega
          have m1 : ((s[k]).toNat : Int) % 16 < 16 := by omega
          have d0 : 0 ≤ ((s[k]).toNat : Int) / 16 := by omega
          have d1 : ((s[k]).toNat : Int) / 16 < 16 := by omega
          clear E h34 h92 hnp
          go_wp2_with (at_builtin; refine wpList_append_buf _ rfl (.tmp 30) (.tmp 34) 22 9 rfl 5 i0 (.int .u8 0) Try.underlying22 hi hz0 hz1 hz2 rfl w.heap.size g nn cap B rfl HB.out _ rfl (k - fr) (((bytesOf s).take k).drop fr) (src_cut s fr k hfk hks _) (by omega) (by omega) ?_; intro g1 cap1 w1 hB1 hg1)
          have hbb : nn + (k - fr) + 6 ≤ 1073741824 := by omega
          have hbs : w.heap.size ≤ w1.heap.size := by have := hg1.size; omega
          go_region_law (refine step_ctl rfl (.tmp 37) (.tmp 44) rfl hi hz0 hz1 hz2 hB1 rfl rfl hbb hbs ?_; intro g2 cap2 w2 hB2 hg2)
          all_goals
            rw [hex_at _ ⟨d0, d1⟩, hex_at _ ⟨m0, m1⟩, ← HEs.out] at hB2
            have HR : Hid (JRel w w2 g2 (nn + (k - fr) + 6) cap2 (bytesOf s) (xs ++ [34]) (B ++ ((bytesOf s).take k).drop fr ++ esc ((s[k]).toNat : Int)) (k + 1) (k + 1)) := by
              refine ⟨hB2, rel_esc hJ.out.eqn HC.out, ?_⟩
              exact (hJ.out.bel.trans (grownBy_below hg1 HB.out.base hsz)).trans (grownBy_below hg2 hB1.base hbs)
            clear hB1 hg1 hB2 hg2
            go_wp2
            go_roundw
            case rel => exact ⟨k + 1, k + 1, g2, _, cap2, _, Nat.le_refl _, by omega, by go_num, by go_num, rfl, HR⟩
            case measure => simp [intOf]; omega
    · obtain rfl : k = s.size := by omega
      have HB : Hid (Buf wr 5 w.heap.size g nn cap B) := hJ.out.buf
      go_wp2_with (first
        | (at_builtin; refine wpList_append_buf _ rfl (.tmp 67) (.tmp 70) 22 9 rfl 5 i0 (.int .u8 0) Try.underlying22 hi hz0 hz1 hz2 rfl w.heap.size g nn cap B rfl HB.out _ rfl (s.size - fr) (((bytesOf s).take s.size).drop fr) (src_cut s fr s.size hfk hks _) (by omega) (by omega) ?_; intro g1 cap1 w1 hB1 hg1; have hs1 := hg1.size)
        | (at_builtin; refine wpList_append_buf _ rfl (.tmp 72) (.tmp 73) 22 22 rfl 5 i0 (.int .u8 0) Try.underlying22 hi hz0 hz1 hz2 rfl w.heap.size g1 (nn + (s.size - fr)) cap1 (B ++ ((bytesOf s).take s.size).drop fr) rfl (by exact hB1.alloc _) _ rfl 1 [34] (by exact src_built _ [34] _) (by omega) (by simp; omega) ?_; intro g2 cap2 w2 hB2 hg2))
      go_ret
      refine ⟨g2, _, cap2, rfl, ?_, ?_⟩
      · have h1 := hJ.out.eqn
        have h2 : (bytesOf s).take s.size = bytesOf s := List.take_of_length_le (by rw [bytesOf_length]; exact Nat.le_refl _)
        rw [h1, h2] at hB2
        exact hB2
      · exact (hJ.out.bel.trans (grownBy_below hg1 HB.out.base hsz)).trans (grownBy_below (grown_ofAlloc hg2) hB1.base (by omega))
end Go.Proofs.Qxb6605448a
