import Derived.Test.Qxb6605448aLaw8
import Derived.Test.Qxb6605448aCame
namespace Go.Proofs.Qxb6605448a
open Go.ChangeShapes Go.WideShapes Go.ChangeAt Go.RowKit
set_option linter.unusedVariables false

/-- Three lists of one length are the columns of one. -/
theorem zip_cols (xs ys zs : List Int) (n : Nat) (h1 : xs.length = n) (h2 : ys.length = n) (h3 : zs.length = n) :
    ∃ ps : List (Int × Int × Int), ps.length = n ∧ colN ps = xs ∧ colC ps = ys ∧ colE ps = zs := by
  refine ⟨xs.zip (ys.zip zs), by simp; omega, ?_, ?_, ?_⟩
  · unfold colN; exact List.map_fst_zip (by simp; omega)
  · have : colC (xs.zip (ys.zip zs)) = ((xs.zip (ys.zip zs)).map (·.2)).map (·.1) := by simp [colC]
    rw [this, List.map_snd_zip (by simp; omega), List.map_fst_zip (by omega)]
  · have : colE (xs.zip (ys.zip zs)) = ((xs.zip (ys.zip zs)).map (·.2)).map (·.2) := by simp [colE]
    rw [this, List.map_snd_zip (by simp; omega), List.map_snd_zip (by omega)]

set_option maxRecDepth 100000 in
set_option maxHeartbeats 4000000 in
theorem law8_early (a0 a1 a2 : Option Addr) (c0 c1 c2 l0 l1 l2 : Nat) (first em empt : Int) (viewed : Bool) (w : World) (h0 : l0 ≤ maxLen) (h1 : l1 ≤ maxLen) (h2 : l2 ≤ maxLen)
    (h : 1048576 < l0 + l1 + l2 ∨ (l0 + l1 + l2 ≤ 1048576 ∧ (16384 < l0 ∨ (l0 ≤ 16384 ∧ (16384 < l1 ∨ (l1 ≤ 16384 ∧ (16384 < l2 ∨ (l2 ≤ 16384 ∧ ((l1 < l0 ∨ l0 < l1) ∨ (l1 = l0 ∧ ((l2 < l0 ∨ l0 < l2) ∨ (l2 = l0 ∧ (first < 0 ∨ (0 ≤ first ∧ (l0 : Int) < first)))))))))))))) :
    Calls Try.prog 8 #[.slice a0 l0 c0, .slice a1 l1 c1, .slice a2 l2 c2, .int .i64 first, .int .i64 em, .int .u64 empt, .bool viewed] w fun e w' => e = .returned (.bool true) ∧ Below w.heap.size w w' := by
  rcases h with h | ⟨hb, h⟩
  · have hB : decide (l0 + l1 + l2 ≤ 1048576) = false := by simp; omega
    go_enter Try.func8, Try.ntmps8
    go_wp2_with fail
    refine (zzbytes8 _ _ _ _ _ _ _ _ _ _ _ _ _ _ h0 h1 h2).mono ?_
    rintro e w' ⟨rfl, hw'⟩
    obtain rfl : w = w' := hw'.symm
    rw [hB]
    go_wp2
    go_ret
    exact ⟨rfl, Below.refl _ _⟩
  · have hB : decide (l0 + l1 + l2 ≤ 1048576) = true := by simp; omega
    have HB : Hid (decide (l0 + l1 + l2 ≤ 1048576) = true) := hB
    clear hB
    rcases h with h | ⟨g0, h | ⟨g1, h | ⟨g2, (h | h) | ⟨rfl, (h | h) | ⟨rfl, h | ⟨g3, h⟩⟩⟩⟩⟩⟩
    all_goals
      go_enter Try.func8, Try.ntmps8
      go_wp2_with fail
      refine (zzbytes8 _ _ _ _ _ _ _ _ _ _ _ _ _ _ h0 h1 h2).mono ?_
      rintro e w' ⟨rfl, hw'⟩
      obtain rfl : w = w' := hw'.symm
      rw [HB.out]
      go_wp2
      go_ret
      exact ⟨rfl, Below.refl _ _⟩

theorem law8_any (a0 a1 a2 : Option Addr) (c0 c1 c2 l0 l1 l2 : Nat) (z0 z1 z2 : List Int) (first em empt : Int) (viewed : Bool) (w : World)
    (w0 : RowIn .u64 w a0 l0 c0 z0) (w1 : RowIn .i64 w a1 l1 c1 z1) (w2 : RowIn .u64 w a2 l2 c2 z2) :
    Calls Try.prog 8 #[.slice a0 l0 c0, .slice a1 l1 c1, .slice a2 l2 c2, .int .i64 first, .int .i64 em, .int .u64 empt, .bool viewed] w fun e w' => e = .returned (.bool true) ∧ Below w.heap.size w w' := by
  obtain ⟨k0, e0, m0⟩ := w0.came
  obtain ⟨k1, e1, m1⟩ := w1.came
  obtain ⟨k2, e2, m2⟩ := w2.came
  by_cases hmain : l0 ≤ 16384 ∧ l1 = l0 ∧ l2 = l0 ∧ 0 ≤ first ∧ first ≤ l0
  · obtain ⟨hn, rfl, rfl, hf0, hf1⟩ := hmain
    obtain ⟨ps, hp, p0, p1, p2⟩ := zip_cols _ _ _ _ e0 e1 e2
    obtain ⟨f, rfl⟩ := Int.eq_ofNat_of_zero_le hf0
    rw [← p0] at k0
    rw [← p1] at k1
    rw [← p2] at k2
    exact law8_main a0 a1 a2 c0 c1 c2 _ f em empt viewed ps w hn (by omega) hp k0 k1 k2
  · exact law8_early a0 a1 a2 c0 c1 c2 l0 l1 l2 first em empt viewed w m0 m1 m2 (by omega)
end Go.Proofs.Qxb6605448a
