import Derived.Test.Qxb6605448aClone
namespace Go.Proofs.Qxb6605448a
open Go.ChangeShapes Go.WideShapes Go.ChangeAt Go.RowKit

/-- The cells of a row of places. -/
def cells3 : List (Int × Int × Int) → List Value
  | [] => []
  | p :: ps => .int .u64 p.1 :: .int .i64 p.2.1 :: .int .u64 p.2.2 :: cells3 ps
theorem cells3_length (ps : List (Int × Int × Int)) : (cells3 ps).length = ps.length * 3 := by
  induction ps with
  | nil => rfl
  | cons p ps ih => simp [cells3, ih]; omega
theorem cells3_append (ps qs : List (Int × Int × Int)) : cells3 (ps ++ qs) = cells3 ps ++ cells3 qs := by
  induction ps with
  | nil => rfl
  | cons p ps ih => simp [cells3, ih]
theorem cells3_at (ps : List (Int × Int × Int)) (r : List Value) (i : Nat) (p : Int × Int × Int) (h : ps[i]? = some p) :
    (cells3 ps ++ r)[i * 3]? = some (.int .u64 p.1) ∧ (cells3 ps ++ r)[i * 3 + 1]? = some (.int .i64 p.2.1) ∧ (cells3 ps ++ r)[i * 3 + 2]? = some (.int .u64 p.2.2) := by
  induction ps generalizing i with
  | nil => simp at h
  | cons q ps ih =>
    cases i with
    | zero => simp at h; subst h; simp [cells3]
    | succ i =>
      simp only [List.getElem?_cons_succ] at h
      have := ih i h
      rw [show (i + 1) * 3 = i * 3 + 3 from by omega, show i * 3 + 3 + 1 = (i * 3 + 1) + 3 from by omega, show i * 3 + 3 + 2 = (i * 3 + 2) + 3 from by omega]
      simpa [cells3] using this

def colN (ps : List (Int × Int × Int)) : List Int := ps.map (·.1)
def colC (ps : List (Int × Int × Int)) : List Int := ps.map (·.2.1)
def colE (ps : List (Int × Int × Int)) : List Int := ps.map (·.2.2)

theorem part_cell {w : World} {b : Nat} {e : TypeId} {xs : List Value} {z : Value} {k n : Nat} (h : Row w b e (part xs z k)) (hn : xs.length = n) (hk : k < n) : ∃ v, w.cell? ⟨b, k, none⟩ = some v := by
  rw [h.cell k]
  exact ⟨_, List.getElem?_eq_getElem (by simp [part]; omega)⟩

structure SplitRel (w : World) (b B1 B2 B3 n : Nat) (ps : List (Int × Int × Int)) (r : List Value) (wr : World) (k : Nat) : Prop where
  src : Row wr b 48 (cells3 ps ++ r)
  r1 : Row wr B1 36 (part ((colN ps).map (Value.int .u64)) (.int .u64 0) k)
  r2 : Row wr B2 3 (part ((colC ps).map (Value.int .i64)) (.int .i64 0) k)
  r3 : Row wr B3 36 (part ((colE ps).map (Value.int .u64)) (.int .u64 0) k)
  bel : Below w.heap.size w wr

theorem SplitRel.step {w : World} {b B1 B2 B3 n : Nat} {ps : List (Int × Int × Int)} {r : List Value} {wr : World} {k : Nat} (h : SplitRel w b B1 B2 B3 n ps r wr k)
    (hb : b < w.heap.size) (h1 : w.heap.size ≤ B1) (h2 : B1 < B2) (h3 : B2 < B3) (p : Int × Int × Int) (hp : ps[k]? = some p) :
    SplitRel w b B1 B2 B3 n ps r (((wr.setCell ⟨B1, k, none⟩ (.int .u64 p.1)).setCell ⟨B2, k, none⟩ (.int .i64 p.2.1)).setCell ⟨B3, k, none⟩ (.int .u64 p.2.2)) (k + 1) := by
  have e1 : ((colN ps).map (Value.int .u64))[k]? = some (.int .u64 p.1) := by simp [colN, hp]
  have e2 : ((colC ps).map (Value.int .i64))[k]? = some (.int .i64 p.2.1) := by simp [colC, hp]
  have e3 : ((colE ps).map (Value.int .u64))[k]? = some (.int .u64 p.2.2) := by simp [colE, hp]
  refine ⟨?_, ?_, ?_, ?_, ?_⟩
  · exact ((h.src.setOther (by simp; omega) _).setOther (by simp; omega) _).setOther (by simp; omega) _
  · have := ((h.r1.set k (.int .u64 p.1)).setOther (a := ⟨B2, k, none⟩) (by simp; omega) (.int .i64 p.2.1)).setOther (a := ⟨B3, k, none⟩) (by simp; omega) (.int .u64 p.2.2)
    rwa [part_set _ _ _ _ e1] at this
  · have := ((h.r2.setOther (a := ⟨B1, k, none⟩) (by simp; omega) (.int .u64 p.1)).set k (.int .i64 p.2.1)).setOther (a := ⟨B3, k, none⟩) (by simp; omega) (.int .u64 p.2.2)
    rwa [part_set _ _ _ _ e2] at this
  · have := ((h.r3.setOther (a := ⟨B1, k, none⟩) (by simp; omega) (.int .u64 p.1)).setOther (a := ⟨B2, k, none⟩) (by simp; omega) (.int .i64 p.2.1)).set k (.int .u64 p.2.2)
    rwa [part_set _ _ _ _ e3] at this
  · exact ((h.bel.setCell (by exact h1) _).setCell (by show _ ≤ B2; omega) _).setCell (by show _ ≤ B3; omega) _

set_option maxHeartbeats 400000 in
theorem split_any (b n c : Nat) (ps : List (Int × Int × Int)) (r : List Value) (w : World) (hr : Row w b 48 (cells3 ps ++ r)) (hn : ps.length = n) (hl : n ≤ 1048576) :
    Calls Try.prog 33 #[.slice (some ⟨b, 0, none⟩) n c] w fun e w' => ∃ b1 b2 b3, e = .returned (.tuple #[.slice (some ⟨b1, 0, none⟩) n n, .slice (some ⟨b2, 0, none⟩) n n, .slice (some ⟨b3, 0, none⟩) n n]) ∧
      Row w' b1 36 ((colN ps).map (Value.int .u64)) ∧ Row w' b2 3 ((colC ps).map (Value.int .i64)) ∧ Row w' b3 36 ((colE ps).map (Value.int .u64)) ∧ w.heap.size ≤ b1 ∧ w.heap.size ≤ b2 ∧ w.heap.size ≤ b3 ∧ Below w.heap.size w w' := by
  obtain ⟨i0, hi, hz0, hz1, hz2⟩ := info_parts info36
  obtain ⟨i3, hi3, hz03, hz13, hz23⟩ := info_parts info3
  have HN : Hid (ps.length = n) := hn
  have HR0 : Hid (Row w b 48 (cells3 ps ++ r)) := hr
  clear hn hr
  go_enter Try.func33, Try.ntmps33
  go_wp2_with (first
    | (at_make; refine wpList_make_row _ rfl (.tmp 10) (.tmp 10) 34 rfl 36 i0 (.int .u64 0) rfl Try.underlying34 hi hz0 hz1 .i64 .i64 _ _ n rfl rfl rfl rfl (by rw [hz2]; omega) (by unfold maxLen; omega) ?_; intro w1 hrow1 hbel1)
    | (at_make; refine wpList_make_row _ rfl (.tmp 13) (.tmp 13) 35 rfl 3 i3 (.int .i64 0) rfl Try.underlying35 hi3 hz03 hz13 .i64 .i64 _ _ n rfl rfl rfl rfl (by rw [hz23]; omega) (by unfold maxLen; omega) ?_; intro w2 hrow2 hbel2)
    | (at_make; refine wpList_make_row _ rfl (.tmp 16) (.tmp 16) 34 rfl 36 i0 (.int .u64 0) rfl Try.underlying34 hi hz0 hz1 .i64 .i64 _ _ n rfl rfl rfl rfl (by rw [hz2]; omega) (by unfold maxLen; omega) ?_; intro w3 hrow3 hbel3))
  have hs1 := hrow1.lt
  have hs2 := hrow2.lt
  have hb := HR0.out.lt
  have HS : Hid (SplitRel w b w.heap.size w1.heap.size w2.heap.size n ps r w3 0) := by
    refine ⟨((HR0.out.below hbel1 hb).below hbel2 (by omega)).below hbel3 (by omega), ?_, ?_, ?_, ?_⟩
    · rw [part_zero]
      have := (hrow1.below hbel2 hs1).below hbel3 (by omega)
      simpa [colN, HN.out] using this
    · rw [part_zero]
      have := hrow2.below hbel3 hs2
      simpa [colC, HN.out] using this
    · rw [part_zero]
      simpa [colE, HN.out] using hrow3
    · exact (hbel1.trans (hbel2.mono (by omega))).trans (hbel3.mono (by omega))
  clear hrow1 hrow2 hrow3 hbel1 hbel2 hbel3
  generalize hB2 : w1.heap.size = B2 at *
  generalize hB3 : w2.heap.size = B3 at *
  clear hB2 hB3
  go_loopw [20] (fun i wr => ∃ k : Nat, k ≤ n ∧ i = .int .i64 k ∧ Hid (SplitRel w b w.heap.size B2 B3 n ps r wr k)) (fun i _ => n - (intOf i).toNat)
  case atStart => exact ⟨0, Nat.zero_le _, rfl, HS⟩
  case round =>
    obtain ⟨k, hk, rfl, hrel⟩ := hrel
    by_cases hlt : k < n
    · obtain ⟨p, hp⟩ : ∃ p, ps[k]? = some p := ⟨ps[k]'(by rw [HN.out]; exact hlt), by simp⟩
      obtain ⟨c1, c2, c3⟩ := cells3_at ps r k p hp
      have d1 := (hrel.out.src.cell (k * 3)).trans c1
      have d2 := (hrel.out.src.cell (k * 3 + 1)).trans c2
      have d3 := (hrel.out.src.cell (k * 3 + 2)).trans c3
      have f1 := hrel.out.r1.free k
      have f2 := hrel.out.r2.free k
      have f3 := hrel.out.r3.free k
      obtain ⟨v1, g1⟩ := part_cell hrel.out.r1 (n := n) (by simp [colN, HN.out]) hlt
      obtain ⟨v2, g2⟩ := part_cell hrel.out.r2 (n := n) (by simp [colC, HN.out]) hlt
      obtain ⟨v3, g3⟩ := part_cell hrel.out.r3 (n := n) (by simp [colE, HN.out]) hlt
      have R := hrel.out.step hb (Nat.le_refl _) hs1 hs2 p hp
      have HR : Hid (SplitRel w b w.heap.size B2 B3 n ps r (((wr.setCell ⟨w.heap.size, k, none⟩ (.int .u64 p.1)).setCell ⟨B2, k, none⟩ (.int .i64 p.2.1)).setCell ⟨B3, k, none⟩ (.int .u64 p.2.2)) (k + 1)) := R
      clear R hp c1 c2 c3 hrel HS HR0 hi hi3 hz0 hz1 hz2 hz03 hz13 hz23
      obtain ⟨p1, p2, p3⟩ := p
      simp only at d1 d2 d3 HR
      go_wp2
      go_roundw
      case rel => exact ⟨k + 1, by omega, by go_num, HR⟩
      case measure => simp [intOf]; omega
    · obtain rfl : k = n := by omega
      go_wp2
      go_ret3
      have hf := hrel.out
      refine ⟨_, _, _, rfl, ?_, ?_, ?_, Nat.le_refl _, by omega, by omega, hf.bel⟩
      · have := hf.r1
        rwa [show k = ((colN ps).map (Value.int .u64)).length from by simp [colN, HN.out], part_full] at this
      · have := hf.r2
        rwa [show k = ((colC ps).map (Value.int .i64)).length from by simp [colC, HN.out], part_full] at this
      · have := hf.r3
        rwa [show k = ((colE ps).map (Value.int .u64)).length from by simp [colE, HN.out], part_full] at this
end Go.Proofs.Qxb6605448a
