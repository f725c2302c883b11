import Derived.Test.Qxb6605448aRows
import Derived.Test.Qxb6605448aMem
import Derived.WalkKit
import Derived.ProofKit
import Derived.WalkSpells
import Derived.WalkLawsBesides
namespace Go.Proofs.Qxb6605448a
open Go.ChangeShapes Go.WideShapes Go.ChangeAt Go.RowKit

theorem info36 : (Try.prog.info? 36).map (fun i => (i.zero, i.size, i.bytes)) = some (some (.int .u64 0), 1, 8) := by kernel_rfl
theorem info3 : (Try.prog.info? 3).map (fun i => (i.zero, i.size, i.bytes)) = some (some (.int .i64 0), 1, 8) := by kernel_rfl
theorem info5 : (Try.prog.info? 5).map (fun i => (i.zero, i.size, i.bytes)) = some (some (.int .u8 0), 1, 1) := by kernel_rfl

theorem map_at {k : IntKind} {xs : List Int} {i : Nat} {z : Int} (h : xs[i]? = some z) : (xs.map (Value.int k))[i]? = some (.int k z) := by simp [h]

set_option maxHeartbeats 400000 in
theorem clone_u64 (a : Option Addr) (cap : Nat) (xs : List Int) (w : World) (hc : Came w .u64 a xs) (hl : xs.length ≤ 1048576) :
    Calls Try.prog 21 #[.slice a xs.length cap] w fun e w' => ∃ a', e = .returned (.slice a' xs.length xs.length) ∧ Sl w' a' xs.length 36 (xs.map (Value.int .u64)) ∧ Below w.heap.size w w' := by
  have q : ∀ (w : World) (a : Option Addr) (n c n' c' : Nat), (binOp .eql 34 (.slice a n c) (.slice none n' c')).run Try.prog w = .ok (.bool a.isNone) w := fun w a n c n' c' => Lib.run_eql_slice_nil w _ _ a n c n' c' Try.underlying34
  cases a with
  | none =>
    have h0 := hc.1 rfl
    subst h0
    go_enter Try.func21, Try.ntmps21
    go_wp2
    go_ret
    exact ⟨none, rfl, .inl ⟨rfl, rfl⟩, Below.refl _ _⟩
  | some x =>
    obtain ⟨i0, hi, hz0, hz1, hz2⟩ := info_parts info36
    generalize hn : xs.length = n at hl
    have HN : Hid (xs.length = n) := hn
    clear hn
    have hcells : n = 0 ∨ ∃ b off, x = ⟨b, off, none⟩ ∧ ∀ i z, xs[i]? = some z → w.cell? ⟨b, off + i, none⟩ = some (.int .u64 z) := by
      rcases hc.2 with h | ⟨b, off, h, h'⟩
      · left; rw [← HN.out, h]; rfl
      · right; exact ⟨b, off, by simpa using h, h'⟩
    have HC : Hid (n = 0 ∨ ∃ b off, x = ⟨b, off, none⟩ ∧ ∀ i z, xs[i]? = some z → w.cell? ⟨b, off + i, none⟩ = some (.int .u64 z)) := hcells
    clear hcells hc
    go_enter Try.func21, Try.ntmps21
    go_wp2_with (at_make; refine wpList_make_row _ rfl _ _ 34 rfl 36 i0 (.int .u64 0) rfl Try.underlying34 hi hz0 hz1 .i64 .i64 _ _ n rfl rfl rfl rfl (by rw [hz2]; omega) (by unfold maxLen; omega) ?_; intro w1 hrow hbel)
    have HR : Hid (Row w1 w.heap.size 36 (part (xs.map (Value.int .u64)) (.int .u64 0) 0)) := by
      have := hrow; rw [← HN.out] at this; unfold Hid; rw [part_zero]; simpa using this
    clear hrow
    go_loopw [4] (fun i wr => ∃ k : Nat, k ≤ n ∧ i = .int .i64 k ∧ Hid (Row wr w.heap.size 36 (part (xs.map (Value.int .u64)) (.int .u64 0) k)) ∧ Below w.heap.size w wr) (fun i _ => n - (intOf i).toNat)
    case atStart => exact ⟨0, Nat.zero_le _, rfl, HR, hbel⟩
    case round =>
      obtain ⟨k, hk, rfl, hrow, hb⟩ := hrel
      by_cases hlt : k < n
      · rcases HC.out with h0 | ⟨b, off, rfl, hcell⟩
        · omega
        obtain ⟨z, hz⟩ : ∃ z, xs[k]? = some z := ⟨xs[k]'(by rw [HN.out]; exact hlt), by simp⟩
        have hc1 := hcell k z hz
        have hc2 : wr.cell? ⟨b, off + k, none⟩ = some (.int .u64 z) := (hb.cell (p := ⟨b, off + k, none⟩) (block_lt_of_cell hc1)).trans hc1
        have hf := hrow.out.free k
        have hz1 : ∃ v, wr.cell? ⟨w.heap.size, k, none⟩ = some v := by
          rw [hrow.out.cell k]
          exact ⟨_, List.getElem?_eq_getElem (by simp [part, HN.out]; omega)⟩
        obtain ⟨v, hv⟩ := hz1
        have R : Hid (Row (wr.setCell ⟨w.heap.size, k, none⟩ (.int .u64 z)) w.heap.size 36 (part (xs.map (Value.int .u64)) (.int .u64 0) (k + 1))) := by
          have := hrow.out.set k (.int .u64 z)
          rw [part_set _ _ _ _ (map_at hz)] at this
          exact this
        have HZ : Hid (xs[k]? = some z) := hz
        clear hz hcell hc1
        go_wp2
        go_roundw
        case rel => exact ⟨k + 1, by omega, by go_num, R, hb.setCell (by exact Nat.le_refl _) _⟩
        case measure => simp [intOf]; omega
      · obtain rfl : k = n := by omega
        go_wp2
        go_ret
        refine ⟨_, rfl, .inr ⟨_, rfl, ?_⟩, hb⟩
        have := hrow.out
        rw [← HN.out] at this
        rw [show xs.length = (xs.map (Value.int .u64)).length from by simp, part_full] at this
        exact this
set_option maxHeartbeats 400000 in
theorem clone_ints (a : Option Addr) (cap : Nat) (xs : List Int) (w : World) (hc : Came w .i64 a xs) (hl : xs.length ≤ 1048576) :
    Calls Try.prog 22 #[.slice a xs.length cap] w fun e w' => ∃ a', e = .returned (.slice a' xs.length xs.length) ∧ Sl w' a' xs.length 3 (xs.map (Value.int .i64)) ∧ Below w.heap.size w w' := by
  have q : ∀ (w : World) (a : Option Addr) (n c n' c' : Nat), (binOp .eql 35 (.slice a n c) (.slice none n' c')).run Try.prog w = .ok (.bool a.isNone) w := fun w a n c n' c' => Lib.run_eql_slice_nil w _ _ a n c n' c' Try.underlying35
  cases a with
  | none =>
    have h0 := hc.1 rfl
    subst h0
    go_enter Try.func22, Try.ntmps22
    go_wp2
    go_ret
    exact ⟨none, rfl, .inl ⟨rfl, rfl⟩, Below.refl _ _⟩
  | some x =>
    obtain ⟨i0, hi, hz0, hz1, hz2⟩ := info_parts info3
    generalize hn : xs.length = n at hl
    have HN : Hid (xs.length = n) := hn
    clear hn
    have hcells : n = 0 ∨ ∃ b off, x = ⟨b, off, none⟩ ∧ ∀ i z, xs[i]? = some z → w.cell? ⟨b, off + i, none⟩ = some (.int .i64 z) := by
      rcases hc.2 with h | ⟨b, off, h, h'⟩
      · left; rw [← HN.out, h]; rfl
      · right; exact ⟨b, off, by simpa using h, h'⟩
    have HC : Hid (n = 0 ∨ ∃ b off, x = ⟨b, off, none⟩ ∧ ∀ i z, xs[i]? = some z → w.cell? ⟨b, off + i, none⟩ = some (.int .i64 z)) := hcells
    clear hcells hc
    go_enter Try.func22, Try.ntmps22
    go_wp2_with (at_make; refine wpList_make_row _ rfl _ _ 35 rfl 3 i0 (.int .i64 0) rfl Try.underlying35 hi hz0 hz1 .i64 .i64 _ _ n rfl rfl rfl rfl (by rw [hz2]; omega) (by unfold maxLen; omega) ?_; intro w1 hrow hbel)
    have HR : Hid (Row w1 w.heap.size 3 (part (xs.map (Value.int .i64)) (.int .i64 0) 0)) := by
      have := hrow; rw [← HN.out] at this; unfold Hid; rw [part_zero]; simpa using this
    clear hrow
    go_loopw [4] (fun i wr => ∃ k : Nat, k ≤ n ∧ i = .int .i64 k ∧ Hid (Row wr w.heap.size 3 (part (xs.map (Value.int .i64)) (.int .i64 0) k)) ∧ Below w.heap.size w wr) (fun i _ => n - (intOf i).toNat)
    case atStart => exact ⟨0, Nat.zero_le _, rfl, HR, hbel⟩
    case round =>
      obtain ⟨k, hk, rfl, hrow, hb⟩ := hrel
      by_cases hlt : k < n
      · rcases HC.out with h0 | ⟨b, off, rfl, hcell⟩
        · omega
        obtain ⟨z, hz⟩ : ∃ z, xs[k]? = some z := ⟨xs[k]'(by rw [HN.out]; exact hlt), by simp⟩
        have hc1 := hcell k z hz
        have hc2 : wr.cell? ⟨b, off + k, none⟩ = some (.int .i64 z) := (hb.cell (p := ⟨b, off + k, none⟩) (block_lt_of_cell hc1)).trans hc1
        have hf := hrow.out.free k
        have hz1 : ∃ v, wr.cell? ⟨w.heap.size, k, none⟩ = some v := by
          rw [hrow.out.cell k]
          exact ⟨_, List.getElem?_eq_getElem (by simp [part, HN.out]; omega)⟩
        obtain ⟨v, hv⟩ := hz1
        have R : Hid (Row (wr.setCell ⟨w.heap.size, k, none⟩ (.int .i64 z)) w.heap.size 3 (part (xs.map (Value.int .i64)) (.int .i64 0) (k + 1))) := by
          have := hrow.out.set k (.int .i64 z)
          rw [part_set _ _ _ _ (map_at hz)] at this
          exact this
        have HZ : Hid (xs[k]? = some z) := hz
        clear hz hcell hc1
        go_wp2
        go_roundw
        case rel => exact ⟨k + 1, by omega, by go_num, R, hb.setCell (by exact Nat.le_refl _) _⟩
        case measure => simp [intOf]; omega
      · obtain rfl : k = n := by omega
        go_wp2
        go_ret
        refine ⟨_, rfl, .inr ⟨_, rfl, ?_⟩, hb⟩
        have := hrow.out
        rw [← HN.out] at this
        rw [show xs.length = (xs.map (Value.int .i64)).length from by simp, part_full] at this
        exact this
set_option maxHeartbeats 400000 in
theorem clone_bytes (a : Option Addr) (cap : Nat) (xs : List Int) (w : World) (hc : Came w .u8 a xs) (hl : xs.length ≤ 1048576) :
    Calls Try.prog 10 #[.slice a xs.length cap] w fun e w' => ∃ a', e = .returned (.slice a' xs.length xs.length) ∧ Sl w' a' xs.length 5 (xs.map (Value.int .u8)) ∧ Below w.heap.size w w' := by
  have q : ∀ (w : World) (a : Option Addr) (n c n' c' : Nat), (binOp .eql 22 (.slice a n c) (.slice none n' c')).run Try.prog w = .ok (.bool a.isNone) w := fun w a n c n' c' => Lib.run_eql_slice_nil w _ _ a n c n' c' Try.underlying22
  cases a with
  | none =>
    have h0 := hc.1 rfl
    subst h0
    go_enter Try.func10, Try.ntmps10
    go_wp2
    go_ret
    exact ⟨none, rfl, .inl ⟨rfl, rfl⟩, Below.refl _ _⟩
  | some x =>
    obtain ⟨i0, hi, hz0, hz1, hz2⟩ := info_parts info5
    generalize hn : xs.length = n at hl
    have HN : Hid (xs.length = n) := hn
    clear hn
    have hcells : n = 0 ∨ ∃ b off, x = ⟨b, off, none⟩ ∧ ∀ i z, xs[i]? = some z → w.cell? ⟨b, off + i, none⟩ = some (.int .u8 z) := by
      rcases hc.2 with h | ⟨b, off, h, h'⟩
      · left; rw [← HN.out, h]; rfl
      · right; exact ⟨b, off, by simpa using h, h'⟩
    have HC : Hid (n = 0 ∨ ∃ b off, x = ⟨b, off, none⟩ ∧ ∀ i z, xs[i]? = some z → w.cell? ⟨b, off + i, none⟩ = some (.int .u8 z)) := hcells
    clear hcells hc
    go_enter Try.func10, Try.ntmps10
    go_wp2_with (at_make; refine wpList_make_row _ rfl _ _ 22 rfl 5 i0 (.int .u8 0) rfl Try.underlying22 hi hz0 hz1 .i64 .i64 _ _ n rfl rfl rfl rfl (by rw [hz2]; omega) (by unfold maxLen; omega) ?_; intro w1 hrow hbel)
    have HR : Hid (Row w1 w.heap.size 5 (part (xs.map (Value.int .u8)) (.int .u8 0) 0)) := by
      have := hrow; rw [← HN.out] at this; unfold Hid; rw [part_zero]; simpa using this
    clear hrow
    go_loopw [4] (fun i wr => ∃ k : Nat, k ≤ n ∧ i = .int .i64 k ∧ Hid (Row wr w.heap.size 5 (part (xs.map (Value.int .u8)) (.int .u8 0) k)) ∧ Below w.heap.size w wr) (fun i _ => n - (intOf i).toNat)
    case atStart => exact ⟨0, Nat.zero_le _, rfl, HR, hbel⟩
    case round =>
      obtain ⟨k, hk, rfl, hrow, hb⟩ := hrel
      by_cases hlt : k < n
      · rcases HC.out with h0 | ⟨b, off, rfl, hcell⟩
        · omega
        obtain ⟨z, hz⟩ : ∃ z, xs[k]? = some z := ⟨xs[k]'(by rw [HN.out]; exact hlt), by simp⟩
        have hc1 := hcell k z hz
        have hc2 : wr.cell? ⟨b, off + k, none⟩ = some (.int .u8 z) := (hb.cell (p := ⟨b, off + k, none⟩) (block_lt_of_cell hc1)).trans hc1
        have hf := hrow.out.free k
        have hz1 : ∃ v, wr.cell? ⟨w.heap.size, k, none⟩ = some v := by
          rw [hrow.out.cell k]
          exact ⟨_, List.getElem?_eq_getElem (by simp [part, HN.out]; omega)⟩
        obtain ⟨v, hv⟩ := hz1
        have R : Hid (Row (wr.setCell ⟨w.heap.size, k, none⟩ (.int .u8 z)) w.heap.size 5 (part (xs.map (Value.int .u8)) (.int .u8 0) (k + 1))) := by
          have := hrow.out.set k (.int .u8 z)
          rw [part_set _ _ _ _ (map_at hz)] at this
          exact this
        have HZ : Hid (xs[k]? = some z) := hz
        clear hz hcell hc1
        go_wp2
        go_roundw
        case rel => exact ⟨k + 1, by omega, by go_num, R, hb.setCell (by exact Nat.le_refl _) _⟩
        case measure => simp [intOf]; omega
      · obtain rfl : k = n := by omega
        go_wp2
        go_ret
        refine ⟨_, rfl, .inr ⟨_, rfl, ?_⟩, hb⟩
        have := hrow.out
        rw [← HN.out] at this
        rw [show xs.length = (xs.map (Value.int .u8)).length from by simp, part_full] at this
        exact this
end Go.Proofs.Qxb6605448a
