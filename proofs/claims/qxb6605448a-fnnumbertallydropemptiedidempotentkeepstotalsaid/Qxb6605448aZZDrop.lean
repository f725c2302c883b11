import Derived.Test.Qxb6605448aDrop
import Derived.RegionTactic
import Derived.BigRegion
namespace Go.Proofs.Qxb6605448a
open Go.ChangeShapes Go.WideShapes Go.ChangeAt Go.RowKit
set_option linter.unusedVariables false

/-- The loop that lays the places. -/
structure LayRel (w wr : World) (n : Nat) (ps : List (Int × Int × Int)) (k : Nat) (r : List Value) : Prop where
  row : Row wr w.heap.size 48 (cells3 (ps.take k) ++ r)
  rlen : r.length = (n - k) * 3
  bel : Below w.heap.size w wr

theorem drop3 {r : List Value} {m : Nat} (h : r.length = (m + 1) * 3) : ∃ x y z r', r = x :: y :: z :: r' ∧ r'.length = m * 3 := by
  match r, h with
  | [], h => exact absurd h (by simp)
  | [_], h => exact absurd h (by simp; omega)
  | [_, _], h => exact absurd h (by simp; omega)
  | x :: y :: z :: r', h => exact ⟨x, y, z, r', rfl, by simp at h; omega⟩

theorem LayRel.step {w wr : World} {n : Nat} {ps : List (Int × Int × Int)} {k : Nat} {r : List Value} (h : LayRel w wr n ps k r) (hn : ps.length = n) (p : Int × Int × Int) (hp : ps[k]? = some p) :
    ∃ r', (∃ v1 v2 v3, wr.cell? ⟨w.heap.size, k * 3, none⟩ = some v1 ∧ wr.cell? ⟨w.heap.size, k * 3 + 1, none⟩ = some v2 ∧ wr.cell? ⟨w.heap.size, k * 3 + 2, none⟩ = some v3) ∧
      LayRel w (((wr.setCell ⟨w.heap.size, k * 3, none⟩ (.int .u64 p.1)).setCell ⟨w.heap.size, k * 3 + 1, none⟩ (.int .i64 p.2.1)).setCell ⟨w.heap.size, k * 3 + 2, none⟩ (.int .u64 p.2.2)) n ps (k + 1) r' := by
  obtain ⟨hk, hp'⟩ := List.getElem?_eq_some_iff.1 hp
  have hl : r.length = ((n - k - 1) + 1) * 3 := by rw [h.rlen]; omega
  obtain ⟨x, y, z, r', rfl, hr'⟩ := drop3 hl
  have hlen : (cells3 (ps.take k)).length = k * 3 := by rw [cells3_length]; simp; omega
  refine ⟨r', ⟨x, y, z, ?_, ?_, ?_⟩, ⟨?_, ?_, ?_⟩⟩
  · rw [h.row.cell, List.getElem?_append_right (by omega), hlen]; simp
  · rw [h.row.cell, List.getElem?_append_right (by omega), hlen]; simp
  · rw [h.row.cell, List.getElem?_append_right (by omega), hlen]; simp
  · have := ((h.row.set (k * 3) (.int .u64 p.1)).set (k * 3 + 1) (.int .i64 p.2.1)).set (k * 3 + 2) (.int .u64 p.2.2)
    rw [List.set_append_right _ _ (by omega), List.set_append_right _ _ (by omega), List.set_append_right _ _ (by omega), hlen] at this
    rw [Nat.sub_self, show k * 3 + 1 - k * 3 = 1 from by omega, show k * 3 + 2 - k * 3 = 2 from by omega] at this
    rw [List.take_succ_eq_append_getElem hk, cells3_append, hp', List.append_assoc]
    exact this
  · rw [hr']; omega
  · exact ((h.bel.setCell (by exact Nat.le_refl _) _).setCell (by exact Nat.le_refl _) _).setCell (by exact Nat.le_refl _) _

theorem LayRel.drew {w wr : World} {n : Nat} {ps : List (Int × Int × Int)} {k : Nat} {r : List Value} (h : LayRel w wr n ps k r) : LayRel w wr.drew n ps k r :=
  ⟨h.row, h.rlen, h.bel.drew⟩

/-- What ZZDropEmptied hands back. -/
structure ZZEnd (w w' : World) (n f : Nat) (empt : Int) (viewed : Bool) (ps : List (Int × Int × Int)) (e : Ending) : Prop where
  out : ∃ b1 b2 b3 b4 b5 b6 qs, e = .returned (.tuple #[.slice (some ⟨b1, 0, none⟩) (heldTo ps f (n - f)).length (heldTo ps f (n - f)).length, .slice (some ⟨b2, 0, none⟩) (heldTo ps f (n - f)).length (heldTo ps f (n - f)).length, .slice (some ⟨b3, 0, none⟩) (heldTo ps f (n - f)).length (heldTo ps f (n - f)).length,
      .int .i64 0, .int .i64 0, .int .u64 empt, .bool false, .slice (some ⟨b4, 0, none⟩) n n, .slice (some ⟨b5, 0, none⟩) n n, .slice (some ⟨b6, 0, none⟩) n n]) ∧
    Row w' b1 36 ((colN (heldTo ps f (n - f))).map (Value.int .u64)) ∧ Row w' b2 3 ((colC (heldTo ps f (n - f))).map (Value.int .i64)) ∧ Row w' b3 36 ((colE (heldTo ps f (n - f))).map (Value.int .u64)) ∧
    qs.length = n ∧ (viewed = true → qs = ps) ∧ Row w' b4 36 ((colN qs).map (Value.int .u64)) ∧ Row w' b5 3 ((colC qs).map (Value.int .i64)) ∧ Row w' b6 36 ((colE qs).map (Value.int .u64))
  bel : Below w.heap.size w w'

set_option maxHeartbeats 1000000 in
theorem zzdrop_any (a0 a1 a2 : Option Addr) (c0 c1 c2 n f : Nat) (em empt : Int) (viewed : Bool) (ps : List (Int × Int × Int)) (w : World) (hn : n ≤ 1048576) (hf : f ≤ n) (hps : ps.length = n)
    (s0 : Sl w a0 n 36 ((colN ps).map (Value.int .u64))) (s1 : Sl w a1 n 3 ((colC ps).map (Value.int .i64))) (s2 : Sl w a2 n 36 ((colE ps).map (Value.int .u64))) :
    Calls Try.prog 23 #[.slice a0 n c0, .slice a1 n c1, .slice a2 n c2, .int .i64 f, .int .i64 em, .int .u64 empt, .bool viewed] w fun e w' => ZZEnd w w' n f empt viewed ps e := by
  obtain ⟨i48, hi48, hz48, hs48, hb48⟩ := info_parts info48
  have HN : Hid (ps.length = n) := hps
  have S0 : Hid (Sl w a0 n 36 ((colN ps).map (Value.int .u64))) := s0
  have S1 : Hid (Sl w a1 n 3 ((colC ps).map (Value.int .i64))) := s1
  have S2 : Hid (Sl w a2 n 36 ((colE ps).map (Value.int .u64))) := s2
  clear hps s0 s1 s2
  go_enter Try.func23, Try.ntmps23
  go_wp2_with (at_make; refine wpList_make_any _ rfl _ _ 46 rfl 48 i48 (.agg #[.int .u64 0, .int .i64 0, .int .u64 0]) 3 Try.underlying46 hi48 hz48 hs48 .i64 .i64 _ _ n rfl rfl rfl rfl (by rw [hb48]; omega) (by unfold maxLen; omega) ?_; intro w1 cur hcl hrow hbel)
  have HL : Hid (LayRel w w1 n ps 0 cur) := ⟨by simpa [cells3] using hrow, by simpa using hcl, hbel⟩
  clear hrow hbel hcl
  go_loopw [32] (fun i wr => ∃ (k : Nat) (r : List Value), k ≤ n ∧ i = .int .i64 k ∧ Hid (LayRel w wr n ps k r)) (fun i _ => n - (intOf i).toNat)
  case atStart => exact ⟨0, _, Nat.zero_le _, rfl, HL⟩
  case round =>
    obtain ⟨k, r, hk, rfl, hrel⟩ := hrel
    clear HL
    by_cases hlt : k < n
    · obtain ⟨p, hp⟩ : ∃ p, ps[k]? = some p := ⟨ps[k]'(by rw [HN.out]; exact hlt), by simp⟩
      obtain ⟨b0, rfl, hb0⟩ := S0.out.pos (by omega)
      obtain ⟨b1, rfl, hb1⟩ := S1.out.pos (by omega)
      obtain ⟨b2, rfl, hb2⟩ := S2.out.pos (by omega)
      have l0 := hb0.lt
      have l1 := hb1.lt
      have l2 := hb2.lt
      have d0 : wr.cell? ⟨b0, k, none⟩ = some (.int .u64 p.1) := by
        rw [(hb0.below hrel.out.bel l0).cell]; simp [colN, hp]
      have d1 : wr.cell? ⟨b1, k, none⟩ = some (.int .i64 p.2.1) := by
        rw [(hb1.below hrel.out.bel l1).cell]; simp [colC, hp]
      have d2 : wr.cell? ⟨b2, k, none⟩ = some (.int .u64 p.2.2) := by
        rw [(hb2.below hrel.out.bel l2).cell]; simp [colE, hp]
      obtain ⟨r', ⟨v1, v2, v3, e1, e2, e3⟩, R⟩ := hrel.out.step HN.out p hp
      have f1 := hrel.out.row.free (k * 3)
      have f2 := hrel.out.row.free (k * 3 + 1)
      have f3 := hrel.out.row.free (k * 3 + 2)
      obtain ⟨p1, p2, p3⟩ := p
      have HR : Hid (LayRel w (((wr.setCell ⟨w.heap.size, k * 3, none⟩ (.int .u64 p1)).setCell ⟨w.heap.size, k * 3 + 1, none⟩ (.int .i64 p2)).setCell ⟨w.heap.size, k * 3 + 2, none⟩ (.int .u64 p3)) n ps (k + 1) r') := R
      simp only at d0 d1 d2
      clear R hp hb0 hb1 hb2 hrel S0 S1 S2
      go_wp2
      go_region
      go_wp2
      go_roundw
      case rel => exact ⟨k + 1, _, by omega, by go_num, HR.out.drew⟩
      case measure => simp [intOf]; omega
    · obtain rfl : k = n := by omega
      clear S0 S1 S2
      have hrow := hrel.out.row
      rw [List.take_of_length_le (by rw [HN.out]; exact Nat.le_refl _)] at hrow
      have hr0 : r = [] := by have := hrel.out.rlen; simpa using this
      subst hr0
      rw [List.append_nil] at hrow
      have hlw := hrow.lt
      have HRW : Hid (Row wr w.heap.size 48 (cells3 ps)) := hrow
      have HB : Hid (Below w.heap.size w wr) := hrel.out.bel
      clear hrow hrel
      go_wp2_with fail
      refine (drop_any wr.heap.size w.heap.size k f em empt viewed ps _ hn hf (Row.new _ _ _) (HRW.out.alloc _) HN.out (by omega)).mono ?_
      rintro e w2 ⟨rfl, ⟨bk, rr, htal, hkept⟩, ⟨qs, hql, hqr, hqv⟩, hbel2⟩
      have hbel2' : Below w.heap.size w w2 := by
        have h1 := HB.out.alloc (by have := HB.out.size; omega) (.cells #[.slice (some ⟨w.heap.size, 0, none⟩) k k, .int .i64 f, .int .i64 em, .int .u64 empt, .bool viewed] 51)
        exact h1.trans (hbel2.mono (by omega))
      obtain ⟨t0, t1, t2, t3, t4⟩ := tal_cells htal
      have HT : Hid (Row w2 wr.heap.size 51 _) := htal
      have HK : Hid (Row w2 bk 48 (cells3 (heldTo ps f (k - f)) ++ rr)) := hkept
      have HQ : Hid (Row w2 w.heap.size 48 (cells3 qs)) := hqr
      have HQL : Hid (qs.length = k) := hql
      have HQV : Hid (viewed = true → qs = ps) := hqv
      have HB2 : Hid (Below w.heap.size w w2) := hbel2'
      clear htal hkept hqr hql hqv hbel2' hbel2
      have hml : (heldTo ps f (k - f)).length ≤ k := by have := heldTo_le ps f (k - f); omega
      generalize hH : heldTo ps f (k - f) = H at *
      have HH : Hid (heldTo ps f (k - f) = H) := hH
      clear hH
      generalize hm : H.length = m at *
      have HM : Hid (H.length = m) := hm
      clear hm
      go_wp2_with fail
      refine (split_any bk m k H rr _ HK.out HM.out (by omega)).mono ?_
      rintro e w3 ⟨b1, b2, b3, rfl, r1, r2, r3, g1, g2, g3, hb3⟩
      have hl2 := HT.out.lt
      have hlq := HQ.out.lt
      have u1 := (hb3.cell (p := ⟨wr.heap.size, 1, none⟩) hl2).trans t1
      have u2 := (hb3.cell (p := ⟨wr.heap.size, 2, none⟩) hl2).trans t2
      have u3 := (hb3.cell (p := ⟨wr.heap.size, 3, none⟩) hl2).trans t3
      have u4 := (hb3.cell (p := ⟨wr.heap.size, 4, none⟩) hl2).trans t4
      have HQ3 : Hid (Row w3 w.heap.size 48 (cells3 qs ++ [])) := by
        have := HQ.out.below hb3 hlq
        unfold Hid; rw [List.append_nil]; exact this
      have R1 : Hid (Row w3 b1 36 ((colN H).map (Value.int .u64))) := r1
      have R2 : Hid (Row w3 b2 3 ((colC H).map (Value.int .i64))) := r2
      have R3 : Hid (Row w3 b3 36 ((colE H).map (Value.int .u64))) := r3
      have HB3 : Hid (Below w.heap.size w w3) := HB2.out.trans (hb3.mono HB2.out.size)
      have hsz3 := hb3.size
      have hl3 : wr.heap.size < w3.heap.size := by omega
      clear r1 r2 r3 t0 t1 t2 t3 t4 hb3 g1 g2 g3
      go_wp2_with fail
      refine (split_any w.heap.size k k qs [] _ HQ3.out HQL.out (by omega)).mono ?_
      rintro e w4 ⟨b4, b5, b6, rfl, r4, r5, r6, g4, g5, g6, hb4⟩
      have v1 := (hb4.cell (p := ⟨wr.heap.size, 1, none⟩) hl3).trans u1
      have v2 := (hb4.cell (p := ⟨wr.heap.size, 2, none⟩) hl3).trans u2
      have v3 := (hb4.cell (p := ⟨wr.heap.size, 3, none⟩) hl3).trans u3
      have v4 := (hb4.cell (p := ⟨wr.heap.size, 4, none⟩) hl3).trans u4
      clear u1 u2 u3 u4
      have HE : Hid (Row w4 b1 36 ((colN H).map (Value.int .u64)) ∧ Row w4 b2 3 ((colC H).map (Value.int .i64)) ∧ Row w4 b3 36 ((colE H).map (Value.int .u64)) ∧ Row w4 b4 36 ((colN qs).map (Value.int .u64)) ∧ Row w4 b5 3 ((colC qs).map (Value.int .i64)) ∧ Row w4 b6 36 ((colE qs).map (Value.int .u64)) ∧ Below w.heap.size w w4) :=
        ⟨R1.out.below hb4 R1.out.lt, R2.out.below hb4 R2.out.lt, R3.out.below hb4 R3.out.lt, r4, r5, r6, HB3.out.trans (hb4.mono HB3.out.size)⟩
      clear r4 r5 r6 hb4 g4 g5 g6
      go_wp2
      go_quiet (fail)
      go_wp2
      obtain ⟨r1, r2, r3, r4, r5, r6, hb⟩ := HE.out
      refine bodyPost_ret (v := .tuple #[.slice (some ⟨b1, 0, none⟩) m m, .slice (some ⟨b2, 0, none⟩) m m, .slice (some ⟨b3, 0, none⟩) m m, .int .i64 0, .int .i64 0, .int .u64 empt, .bool false, .slice (some ⟨b4, 0, none⟩) k k, .slice (some ⟨b5, 0, none⟩) k k, .slice (some ⟨b6, 0, none⟩) k k]) (by simp [results, Try.results23]) rfl ⟨?_, ?_⟩
      · rw [HH.out, HM.out]
        exact ⟨b1, b2, b3, b4, b5, b6, qs, rfl, r1.drewN nq, r2.drewN nq, r3.drewN nq, HQL.out, HQV.out, r4.drewN nq, r5.drewN nq, r6.drewN nq⟩
      · exact ⟨hb.os, hb.tape, hb.output, hb.size, hb.block⟩
end Go.Proofs.Qxb6605448a
