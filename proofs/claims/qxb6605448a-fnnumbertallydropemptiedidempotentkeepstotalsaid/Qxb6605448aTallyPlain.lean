import Derived.Test.Qxb6605448aZZDrop
namespace Go.Proofs.Qxb6605448a
open Go.ChangeShapes Go.WideShapes Go.ChangeAt Go.RowKit
set_option linter.unusedVariables false

theorem clone_u64' (a : Option Addr) (n cap : Nat) (xs : List Int) (w : World) (hn : xs.length = n) (hc : Came w .u64 a xs) (hl : n ≤ 1048576) :
    Calls Try.prog 21 #[.slice a n cap] w fun e w' => ∃ a', e = .returned (.slice a' n n) ∧ Sl w' a' n 36 (xs.map (Value.int .u64)) ∧ Below w.heap.size w w' := by
  subst hn; exact clone_u64 a cap xs w hc hl
theorem clone_ints' (a : Option Addr) (n cap : Nat) (xs : List Int) (w : World) (hn : xs.length = n) (hc : Came w .i64 a xs) (hl : n ≤ 1048576) :
    Calls Try.prog 22 #[.slice a n cap] w fun e w' => ∃ a', e = .returned (.slice a' n n) ∧ Sl w' a' n 3 (xs.map (Value.int .i64)) ∧ Below w.heap.size w w' := by
  subst hn; exact clone_ints a cap xs w hc hl

theorem Came.below {w w' : World} {k : IntKind} {a : Option Addr} {xs : List Int} (h : Came w k a xs) (hb : Below w.heap.size w w') : Came w' k a xs := by
  refine ⟨h.1, ?_⟩
  rcases h.2 with h | ⟨b, off, e, hc⟩
  · exact .inl h
  · exact .inr ⟨b, off, e, fun i z hz => (hb.cell (p := ⟨b, off + i, none⟩) (block_lt_of_cell (hc i z hz))).trans (hc i z hz)⟩

/-- Three slices that read as the columns of ps. -/
structure Cols (w : World) (a0 a1 a2 : Option Addr) (n : Nat) (ps : List (Int × Int × Int)) : Prop where
  c0 : Sl w a0 n 36 ((colN ps).map (Value.int .u64))
  c1 : Sl w a1 n 3 ((colC ps).map (Value.int .i64))
  c2 : Sl w a2 n 36 ((colE ps).map (Value.int .u64))
theorem Sl.drewN {w : World} {a : Option Addr} {n : Nat} {e : TypeId} {cs : List Value} (h : Sl w a n e cs) (q : Nat) : Sl (w.drewN q) a n e cs := by
  rcases h with h | ⟨b, h1, h2⟩
  · exact .inl h
  · exact .inr ⟨b, h1, h2.drewN q⟩
theorem Cols.drewN {w : World} {a0 a1 a2 : Option Addr} {n : Nat} {ps : List (Int × Int × Int)} (h : Cols w a0 a1 a2 n ps) (q : Nat) : Cols (w.drewN q) a0 a1 a2 n ps :=
  ⟨h.c0.drewN q, h.c1.drewN q, h.c2.drewN q⟩
theorem Cols.below {w w' : World} {a0 a1 a2 : Option Addr} {n : Nat} {ps : List (Int × Int × Int)} (h : Cols w a0 a1 a2 n ps) (hb : Below w.heap.size w w') : Cols w' a0 a1 a2 n ps :=
  ⟨h.c0.below hb, h.c1.below hb, h.c2.below hb⟩
/-- Where there is an element: the three blocks, and what they hold. -/
theorem Cols.at_ {w : World} {a0 a1 a2 : Option Addr} {n : Nat} {ps : List (Int × Int × Int)} (h : Cols w a0 a1 a2 n ps) (hn : 0 < n) :
    ∃ b0 b1 b2, a0 = some ⟨b0, 0, none⟩ ∧ a1 = some ⟨b1, 0, none⟩ ∧ a2 = some ⟨b2, 0, none⟩ := by
  obtain ⟨b0, h0, _⟩ := h.c0.pos hn
  obtain ⟨b1, h1, _⟩ := h.c1.pos hn
  obtain ⟨b2, h2, _⟩ := h.c2.pos hn
  exact ⟨b0, b1, b2, h0, h1, h2⟩
theorem Cols.cells {w : World} {b0 b1 b2 : Nat} {n : Nat} {ps : List (Int × Int × Int)} (h : Cols w (some ⟨b0, 0, none⟩) (some ⟨b1, 0, none⟩) (some ⟨b2, 0, none⟩) n ps) {i : Nat} {p : Int × Int × Int} (hp : ps[i]? = some p) :
    w.cell? ⟨b0, i, none⟩ = some (.int .u64 p.1) ∧ w.cell? ⟨b1, i, none⟩ = some (.int .i64 p.2.1) ∧ w.cell? ⟨b2, i, none⟩ = some (.int .u64 p.2.2) := by
  obtain ⟨_, _, _⟩ := h
  rename_i c0 c1 c2
  rcases c0 with ⟨h0, _⟩ | ⟨d0, h0, r0⟩
  · cases h0
  rcases c1 with ⟨h1, _⟩ | ⟨d1, h1, r1⟩
  · cases h1
  rcases c2 with ⟨h2, _⟩ | ⟨d2, h2, r2⟩
  · cases h2
  simp at h0 h1 h2
  subst h0 h1 h2
  rw [r0.cell, r1.cell, r2.cell]
  simp [colN, colC, colE, hp]

theorem heldTo_mono (ps : List (Int × Int × Int)) (f k K : Nat) (h : k ≤ K) : ∃ r, heldTo ps f K = heldTo ps f k ++ r := by
  refine ⟨(((ps.drop f).take K).drop k).filter fun p => decide (0 < p.2.1), ?_⟩
  unfold heldTo
  rw [← List.filter_append]
  congr 1
  have := List.take_append_drop k ((ps.drop f).take K)
  rw [List.take_take, Nat.min_eq_left h] at this
  exact this.symm
/-- The place that is kept stands at its rank. -/
theorem heldTo_at (ps : List (Int × Int × Int)) (f i n : Nat) (p : Int × Int × Int) (hf : f ≤ i) (hi : i < n) (hp : ps[i]? = some p) (hc : 0 < p.2.1) :
    (heldTo ps f (n - f))[(heldTo ps f (i - f)).length]? = some p ∧ (heldTo ps f (i + 1 - f)).length = (heldTo ps f (i - f)).length + 1 := by
  have e := heldTo_succ ps f (i - f) p (by rw [show f + (i - f) = i from by omega]; exact hp)
  rw [if_pos hc, show i - f + 1 = i + 1 - f from by omega] at e
  obtain ⟨r, hr⟩ := heldTo_mono ps f (i + 1 - f) (n - f) (by omega)
  refine ⟨?_, by rw [e]; simp⟩
  rw [hr, e]; simp
theorem heldTo_skip (ps : List (Int × Int × Int)) (f i : Nat) (p : Int × Int × Int) (hf : f ≤ i) (hp : ps[i]? = some p) (hc : ¬ 0 < p.2.1) :
    (heldTo ps f (i + 1 - f)) = (heldTo ps f (i - f)) := by
  have e := heldTo_succ ps f (i - f) p (by rw [show f + (i - f) = i from by omega]; exact hp)
  rw [if_neg hc, show i - f + 1 = i + 1 - f from by omega, List.append_nil] at e
  exact e

theorem lt_of_getElem? {α : Type} {l : List α} {i : Nat} {x : α} (h : l[i]? = some x) : i < l.length := (List.getElem?_eq_some_iff.1 h).1

set_option maxHeartbeats 400000 in
theorem zzbytes7 (a0 a1 a2 : Option Addr) (l0 l1 l2 c0 c1 c2 : Nat) (x3 x4 x5 : Int) (x6 : Bool) (w : World) (h0 : l0 ≤ maxLen) (h1 : l1 ≤ maxLen) (h2 : l2 ≤ maxLen) :
    Calls Try.prog 20 #[.slice a0 l0 c0, .slice a1 l1 c1, .slice a2 l2 c2, .int .i64 x3, .int .i64 x4, .int .u64 x5, .bool x6] w fun e w' => e = .returned (.bool (decide (l0 + l1 + l2 ≤ 1048576))) ∧ w' = w := by
  unfold maxLen at h0 h1 h2
  go_enter Try.func20, Try.ntmps20
  go_wp2
  all_goals go_ret
  all_goals refine ⟨?_, rfl⟩
  all_goals (congr 2; simp; omega)

set_option maxHeartbeats 400000 in
theorem zzbytes8 (a0 a1 a2 : Option Addr) (l0 l1 l2 c0 c1 c2 : Nat) (x3 x4 x5 : Int) (x6 : Bool) (w : World) (h0 : l0 ≤ maxLen) (h1 : l1 ≤ maxLen) (h2 : l2 ≤ maxLen) :
    Calls Try.prog 24 #[.slice a0 l0 c0, .slice a1 l1 c1, .slice a2 l2 c2, .int .i64 x3, .int .i64 x4, .int .u64 x5, .bool x6] w fun e w' => e = .returned (.bool (decide (l0 + l1 + l2 ≤ 1048576))) ∧ w' = w := by
  unfold maxLen at h0 h1 h2
  go_enter Try.func24, Try.ntmps24
  go_wp2
  all_goals go_ret
  all_goals refine ⟨?_, rfl⟩
  all_goals (congr 2; simp; omega)
end Go.Proofs.Qxb6605448a
