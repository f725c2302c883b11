import Derived.Test.Qxb6605448aHoldWalks
namespace Go.Proofs.Qxb6605448a
open Go.ChangeShapes Go.WideShapes Go.ChangeAt Go.RowKit

theorem zzblocked_val (a v : Int) (w : World) (h : Hid (blk a = v)) :
    Calls Try.prog 19 #[.int .u8 a] w fun e w' => e = .returned (.int .u8 v) ∧ w' = w := by
  rw [← h.out]; exact zzblocked_any a w
theorem iskind_val (a : Int) (k : Bool) (w : World) (h : Hid (isK a = k)) :
    Calls Try.prog 16 #[.int .u8 a] w fun e w' => e = .returned (.bool k) ∧ w' = w := by
  rw [← h.out]; exact iskind_any a w

set_option maxHeartbeats 400000 in
theorem law6 (a b va vb : Int) (ka kb : Bool) (w : World) (ha : Hid (blk a = va)) (hb : Hid (blk b = vb)) (hka : Hid (isK a = ka)) (hkb : Hid (isK b = kb))
    (t1 : (bits BinOp.and IntKind.u8 va 24 != 0) = false) (t2 : (bits BinOp.andNot IntKind.u8 va 39 != 0) = false) (t3 : (!(va == 0) == (a == 16)) = false)
    (t4 : ka = false ∨ kb = false ∨ (!(bits BinOp.and IntKind.u8 va b != 0) == (bits BinOp.and IntKind.u8 vb a != 0)) = false) :
    Calls Try.prog 6 #[.int .u8 a, .int .u8 b] w fun e w' => e = .returned (.bool true) ∧ w' = w := by
  rcases t4 with rfl | rfl | t4
  all_goals
    go_enter Try.func6, Try.ntmps6
    go_wp2_with fail
    refine (zzblocked_val _ _ _ ha).mono ?_; rintro e w' ⟨rfl, rfl⟩
    go_wp2_with fail
    refine (zzblocked_val _ _ _ hb).mono ?_; rintro e w' ⟨rfl, rfl⟩
    go_wp2_with fail
    refine (zzblocked_val 4 39 _ rfl).mono ?_; rintro e w' ⟨rfl, rfl⟩
    go_wp2_with fail
    refine (iskind_val _ _ _ hka).mono ?_; rintro e w' ⟨rfl, rfl⟩
    go_wp2_with (go_at_call 16; refine (iskind_val _ _ _ hkb).mono ?_; rintro e w' ⟨rfl, rfl⟩)
    all_goals (go_ret; exact ⟨rfl, rfl⟩)

theorem isK_cases (a : Int) : (a = 1 ∨ a = 2 ∨ a = 4 ∨ a = 16 ∨ a = 32) ∨ (isK a = false ∧ blk a = 6 ∧ (a == 16) = false) := by
  by_cases h1 : a = 1
  · exact .inl (.inl h1)
  by_cases h2 : a = 2
  · exact .inl (.inr (.inl h2))
  by_cases h3 : a = 4
  · exact .inl (.inr (.inr (.inl h3)))
  by_cases h4 : a = 16
  · exact .inl (.inr (.inr (.inr (.inl h4))))
  by_cases h5 : a = 32
  · exact .inl (.inr (.inr (.inr (.inr h5))))
  · exact .inr (by simp [isK, blk, *])

theorem law6_any (a b : Int) (w : World) :
    Calls Try.prog 6 #[.int .u8 a, .int .u8 b] w fun e w' => e = .returned (.bool true) ∧ w' = w := by
  rcases isK_cases a with h | ⟨h1, h2, h3⟩
  · rcases isK_cases b with g | ⟨g1, g2, g3⟩
    · refine law6 a b (blk a) (blk b) true true w rfl rfl ?_ ?_ ?_ ?_ ?_ (.inr (.inr ?_))
      all_goals (rcases h with rfl | rfl | rfl | rfl | rfl <;> rcases g with rfl | rfl | rfl | rfl | rfl <;> first | rfl | decide +kernel)
    · refine law6 a b (blk a) (blk b) true false w rfl rfl ?_ g1 ?_ ?_ ?_ (.inr (.inl rfl))
      all_goals (rcases h with rfl | rfl | rfl | rfl | rfl <;> first | rfl | decide +kernel)
  · refine law6 a b 6 (blk b) false (isK b) w h2 rfl h1 rfl ?_ ?_ ?_ (.inl rfl)
    · decide +kernel
    · decide +kernel
    · rw [h3]; rfl
end Go.Proofs.Qxb6605448a
