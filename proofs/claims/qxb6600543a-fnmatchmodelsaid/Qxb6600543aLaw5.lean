import Derived.Test.Qxb6600543aLaw6
import Derived.Test.Qxb6600543aModel
import Derived.Test.Qxb6600543aCame
import Derived.OpenShut
namespace Go.Proofs.Qxb6600543a
open Go.ChangeShapes Go.WideShapes Go.ChangeAt Go.RowKit
set_option linter.unusedVariables false

theorem wpList_copy_all (w : World) {ops : Array Oper} {rest : List Oper} {o : Oper} {a : Act} {Q : Exit → Act → World → Prop} (hgd : o.guard = none) (d s : Operand)
    (ho : o.op = .call { callee := .builtin .copy, args := #[d, s], argTypes := #[27, 27] }) (g n cap : Nat) (xs : List Int) (ad : Addr) (hd : a.eval d = .slice (some ⟨g, 0, none⟩) n n) (hs : a.eval s = .slice (some ad) n cap)
    (cur : List Value) (hrow : Row w g 5 cur) (hcur : cur.length = n) (hlen : xs.length = n) (hsrc : ∀ j v, (xs.map (Value.int .u8))[j]? = some v → w.cell? (ad.add j) = some v)
    (hK : ∀ w', Row w' g 5 (xs.map (Value.int .u8)) → w.grownBy w' (some g) → wpList Try.prog ops Q rest (a.put o.dst (goInt n)) w') : wpList Try.prog ops Q (o :: rest) a w := by
  refine wpList_copy_own hgd d s 27 27 ho 5 Try.underlying27 (by kernel_rfl) g 0 n n ad n cap hd hs cur.toArray 5 hrow (xs.map (Value.int .u8)) (by simp [hlen]) hsrc (by simp [hlen, hcur]) (ints_one xs) ?_
  have e : (cur.toArray.toList.take 0 ++ (xs.map (Value.int .u8) ++ cur.toArray.toList.drop (0 + (xs.map (Value.int .u8)).length))) = xs.map (Value.int .u8) := by
    rw [List.take_zero, List.nil_append, List.drop_of_length_le (by simp [hlen, hcur]), List.append_nil]
  rw [e]
  have h := hK _ (hrow.setRow (xs.map (Value.int .u8))) ⟨rfl, rfl, rfl, by simp, fun k _ hk => setRow_other w g k _ (fun e => hk (by simp [e]))⟩
  simpa [hlen] using h

set_option maxHeartbeats 400000 in
theorem zzbytes5 (a : Option Addr) (l c : Nat) (s : ByteArray) (w : World) (h0 : l ≤ maxLen) (h1 : s.size ≤ maxLen) :
    Calls Try.prog 13 #[.slice a l c, .string s] w fun e w' => e = .returned (.bool (decide (l + s.size ≤ 1048576))) ∧ w' = w := by
  unfold maxLen at h0 h1
  go_enter Try.func13, Try.ntmps13
  go_wp2
  all_goals go_ret
  all_goals refine ⟨?_, rfl⟩
  all_goals (congr 2; simp; omega)

set_option maxRecDepth 100000 in
set_option maxHeartbeats 2000000 in
theorem law5_main (a : Option Addr) (n cap : Nat) (xs : List Int) (s : ByteArray) (w : World) (hc : Came w .u8 a xs) (hlen : xs.length = n) (hbd : ∀ z ∈ xs, 0 ≤ z ∧ z ≤ 255) (hn : n ≤ 4096) (hs : s.size ≤ 4096) (hcap : n ≤ cap) :
    Calls Try.prog 5 #[.slice a n cap, .string s] w fun e w' => e = .returned (.bool true) ∧ Below w.heap.size w w' := by
  obtain ⟨i0, hi, hz0, hz1, hz2⟩ := info_parts info5
  have q : ∀ (w : World) (a : Option Addr) (n c n' c' : Nat), (binOp .neq 27 (.slice a n c) (.slice none n' c')).run Try.prog w = .ok (.bool (!a.isNone)) w := fun w a n c n' c' => run_neq_slice_nil_any w _ _ a n c n' c' Try.underlying27
  have HC : Hid (Came w .u8 a xs) := hc
  have HL : Hid (xs.length = n) := hlen
  have HBD : Hid (∀ z ∈ xs, 0 ≤ z ∧ z ≤ 255) := hbd
  clear hc hlen hbd
  have HBd : Hid (decide (n + s.size ≤ 1048576) = true) := by unfold Hid; simp; omega
  cases a with
  | none =>
    have h0 := HC.out.1 rfl
    subst h0
    obtain rfl : n = 0 := by have := HL.out; simpa using this.symm
    have HPt : Hid (∀ W : World, Pat W none []) := fun W => .inl rfl
    go_enter Try.func5, Try.ntmps5
    go_wp2_with fail
    refine (zzbytes5 _ _ _ _ _ (by unfold maxLen; omega) (by unfold maxLen; omega)).mono ?_
    rintro e w' ⟨rfl, hw'⟩
    obtain rfl : w = w' := hw'.symm
    rw [HBd.out]
    go_wp2_with fail
    refine (zzmatch_any none 0 cap [] s _ (HPt.out _) rfl (by omega) (by omega) (by omega) (by simp)).mono ?_
    rintro e w2 ⟨rfl, m, rfl⟩
    go_wp2_with fail
    refine (model_any none 0 cap [] s _ (HPt.out _) rfl (by omega) (by omega) (by simp)).mono ?_
    rintro e w3 ⟨rfl, hb3⟩
    go_wp2
    go_ret
    exact ⟨ret_b (by simp), (below_drewN (Below.refl _ _) m).trans hb3⟩
  | some x =>
    have HSrc : Hid (∀ (w1 : World), Below w.heap.size w w1 → ∀ j v, (xs.map (Value.int .u8))[j]? = some v → w1.cell? (x.add j) = some v) := by
      intro w1 hb j v hv
      rcases HC.out.2 with h | ⟨b, off, e, hcell⟩
      · subst h; simp at hv
      · obtain rfl := Option.some.inj e
        simp at hv
        obtain ⟨z, hz, rfl⟩ := hv
        have h1 := hcell j z hz
        rw [Addr.add_lit]
        exact (hb.cell (p := ⟨b, off + j, none⟩) (block_lt_of_cell h1)).trans h1
    clear HC
    go_enter Try.func5, Try.ntmps5
    go_wp2_with fail
    refine (zzbytes5 _ _ _ _ _ (by unfold maxLen; omega) (by unfold maxLen; omega)).mono ?_
    rintro e w' ⟨rfl, hw'⟩
    obtain rfl : w = w' := hw'.symm
    rw [HBd.out]
    go_wp2_with (first
      | (at_make; refine wpList_make_row _ rfl (.tmp 21) (.tmp 21) 27 rfl 5 i0 (.int .u8 0) rfl Try.underlying27 hi hz0 hz1 .i64 .i64 _ _ n rfl rfl rfl rfl (by rw [hz2]; omega) (by unfold maxLen; omega) ?_; intro w1 hr1 hb1)
      | (refine wpList_copy_all _ rfl (.tmp 23) (.tmp 24) rfl w.heap.size n cap xs x rfl rfl _ hr1 (by simp) HL.out (HSrc.out _ hb1) ?_; intro w2 hr2 hg2))
    have hb2 : Below w.heap.size w w2 := hb1.grown hg2 hb1.size (by intro k hk; simp at hk; omega)
    have HPt : Hid (Pat w2 (some ⟨w.heap.size, 0, none⟩) xs) := .inr ⟨_, 0, rfl, fun i z hz => by rw [Nat.zero_add, hr2.cell]; simp [hz]⟩
    have HB2 : Hid (Below w.heap.size w w2) := hb2
    clear hr1 hb1 hr2 hg2 hb2
    refine (zzmatch_any _ n n xs s _ HPt.out HL.out (Nat.le_refl _) (by omega) (by omega) HBD.out).mono ?_
    rintro e w3 ⟨rfl, m, rfl⟩
    go_wp2_with fail
    refine (model_any _ n n xs s _ (show Pat (w2.drewN m) _ xs from HPt.out) HL.out (by omega) (by omega) HBD.out).mono ?_
    rintro e w4 ⟨rfl, hb4⟩
    go_wp2
    go_ret
    exact ⟨ret_b (by simp), (below_drewN HB2.out m).trans (hb4.mono HB2.out.size)⟩

set_option maxRecDepth 100000 in
set_option maxHeartbeats 400000 in
theorem law5_early (a : Option Addr) (l cap : Nat) (s : ByteArray) (w : World) (h0 : l ≤ maxLen) (h1 : s.size ≤ maxLen) (h : 1048576 < l + s.size ∨ (l + s.size ≤ 1048576 ∧ (4096 < l ∨ (l ≤ 4096 ∧ 4096 < s.size)))) :
    Calls Try.prog 5 #[.slice a l cap, .string s] w fun e w' => e = .returned (.bool true) ∧ Below w.heap.size w w' := by
  rcases h with h | ⟨hb, h⟩
  · have hB : decide (l + s.size ≤ 1048576) = false := by simp; omega
    go_enter Try.func5, Try.ntmps5
    go_wp2_with fail
    refine (zzbytes5 _ _ _ _ _ h0 h1).mono ?_
    rintro e w' ⟨rfl, hw'⟩
    obtain rfl : w = w' := hw'.symm
    rw [hB]
    go_wp2
    go_ret
    exact ⟨rfl, Below.refl _ _⟩
  · have hB : decide (l + s.size ≤ 1048576) = true := by simp; omega
    have HB : Hid (decide (l + s.size ≤ 1048576) = true) := hB
    clear hB
    rcases h with h | ⟨g0, h⟩
    all_goals
      go_enter Try.func5, Try.ntmps5
      go_wp2_with fail
      refine (zzbytes5 _ _ _ _ _ h0 h1).mono ?_
      rintro e w' ⟨rfl, hw'⟩
      obtain rfl : w = w' := hw'.symm
      rw [HB.out]
      go_wp2
      go_ret
      exact ⟨rfl, Below.refl _ _⟩

theorem law5_any (a : Option Addr) (l cap : Nat) (z : List Int) (s : ByteArray) (w : World) (w0 : RowIn .u8 w a l cap z) (h1 : s.size ≤ maxLen) :
    Calls Try.prog 5 #[.slice a l cap, .string s] w fun e w' => e = .returned (.bool true) ∧ Below w.heap.size w w' := by
  obtain ⟨k0, e0, m0⟩ := w0.came
  have hbd : ∀ y ∈ z.take l, 0 ≤ y ∧ y ≤ 255 := by
    intro y hy
    rcases w0 with ⟨_, _, _, rfl⟩ | ⟨_, _, _, _, _, _, hw⟩
    · simp at hy
    · exact bounds_u8 (hw y (List.mem_of_mem_take hy))
  have hcap : l ≤ cap := by
    rcases w0 with ⟨_, rfl, rfl, _⟩ | ⟨_, _, h, _⟩
    · exact Nat.le_refl _
    · exact h
  by_cases h : l ≤ 4096 ∧ s.size ≤ 4096
  · exact law5_main a l cap _ s w k0 e0 hbd h.1 h.2 hcap
  · exact law5_early a l cap s w m0 h1 (by omega)
end Go.Proofs.Qxb6600543a
