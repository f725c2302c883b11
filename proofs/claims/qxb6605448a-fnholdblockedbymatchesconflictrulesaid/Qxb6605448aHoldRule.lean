import Derived.Test.Qxb6605448aHoldWalks
namespace Go.Proofs.Qxb6605448a
open Go.ChangeShapes Go.WideShapes Go.ChangeAt Go.RowKit

def protH (a : Int) : Bool := a == 2 || a == 4
def writeH (a : Int) : Bool := a == 1 || a == 32 || a == 4
def meetH (a b : Int) : Bool := (protH a && writeH b) || (protH b && writeH a)
def kindAt (i : Int) : Int := if i = 0 then 1 else if i = 1 then 2 else if i = 2 then 4 else if i = 3 then 32 else 16
def wantTo (k : Int) : Nat → Int
  | 0 => 0
  | n + 1 => if meetH k (kindAt n) = true then bits BinOp.or IntKind.u8 (wantTo k n) (kindAt n) else wantTo k n

set_option maxHeartbeats 400000 in
theorem prot_any (a : Int) (w : World) :
    Calls Try.prog 29 #[.int .u8 a] w fun e w' => e = .returned (.bool (protH a)) ∧ w' = w := by
  go_enter Try.func29, Try.ntmps29
  go_wp2
  all_goals go_ret
  all_goals exact ⟨ret_bool (by simp_all [protH]), rfl⟩

set_option maxHeartbeats 400000 in
theorem write_any (a : Int) (w : World) :
    Calls Try.prog 30 #[.int .u8 a] w fun e w' => e = .returned (.bool (writeH a)) ∧ w' = w := by
  go_enter Try.func30, Try.ntmps30
  go_wp2
  all_goals go_ret
  all_goals exact ⟨ret_bool (by simp_all [writeH]), rfl⟩

set_option maxHeartbeats 400000 in
theorem kindAt_any (i : Int) (w : World) :
    Calls Try.prog 17 #[.int .i64 i] w fun e w' => e = .returned (.int .u8 (kindAt i)) ∧ w' = w := by
  go_enter Try.func17, Try.ntmps17
  go_wp2
  all_goals go_ret
  all_goals exact ⟨ret_u8 (by simp_all [kindAt]), rfl⟩

set_option maxHeartbeats 400000 in
theorem meet_any (a b : Int) (w : World) :
    Calls Try.prog 18 #[.int .u8 a, .int .u8 b] w fun e w' => e = .returned (.bool (meetH a b)) ∧ w' = w := by
  go_enter Try.func18, Try.ntmps18
  go_wp2_with (first
    | (go_at_call 29; refine (prot_any _ _).mono ?_; rintro e w' ⟨rfl, rfl⟩)
    | (go_at_call 30; refine (write_any _ _).mono ?_; rintro e w' ⟨rfl, rfl⟩))
  all_goals go_ret
  all_goals exact ⟨ret_bool (by simp_all [meetH]), rfl⟩

theorem rule_plain (h : Int) : blk h = wantTo (if isK h = true then h else 1) 5 := by
  by_cases h1 : h = 1
  · subst h1; decide +kernel
  by_cases h2 : h = 2
  · subst h2; decide +kernel
  by_cases h3 : h = 4
  · subst h3; decide +kernel
  by_cases h4 : h = 16
  · subst h4; decide +kernel
  by_cases h5 : h = 32
  · subst h5; decide +kernel
  · have e : isK h = false := by simp [isK, *]
    have e2 : blk h = 6 := by simp [blk, *]
    rw [e, e2, if_neg (by decide)]; decide +kernel

set_option maxHeartbeats 400000 in
theorem rule_any (h : Int) (w : World) :
    Calls Try.prog 5 #[.int .u8 h] w fun e w' => e = .returned (.bool true) ∧ w' = w := by
  have HP : Hid (blk h = wantTo (if isK h = true then h else 1) 5) := rule_plain h
  by_cases hk : isK h = true
  all_goals
    go_enter Try.func5, Try.ntmps5
    go_wp2_with (go_at_call 16; refine (iskind_any _ _).mono ?_; rintro e w' ⟨rfl, rfl⟩)
    go_loop [4, 5] (fun s i => ∃ n : Nat, n ≤ 5 ∧ i = .int .i64 n ∧ s = .int .u8 (wantTo (if isK h = true then h else 1) n)) (fun _ i => 5 - (intOf i).toNat)
    case atStart => exact ⟨0, by omega, rfl, rfl⟩
    case round =>
      obtain ⟨n, hn, rfl, rfl⟩ := hrel
      by_cases hlt : n < 5
      · go_wp2_with (first
          | (go_at_call 17; refine (kindAt_any _ _).mono ?_; rintro e w' ⟨rfl, rfl⟩)
          | (go_at_call 18; refine (meet_any _ _ _).mono ?_; rintro e w' ⟨rfl, rfl⟩))
        all_goals
          go_round
          case rel => exact ⟨n + 1, by omega, by go_num, by simp_all [wantTo]⟩
          case measure => simp [intOf]; omega
      · obtain rfl : n = 5 := by omega
        go_wp2_with (go_at_call 19; refine (zzblocked_any _ _).mono ?_; rintro e w' ⟨rfl, rfl⟩)
        go_ret
        exact ⟨ret_bool (by rw [HP.out]; simp [hk]), rfl⟩

end Go.Proofs.Qxb6605448a
