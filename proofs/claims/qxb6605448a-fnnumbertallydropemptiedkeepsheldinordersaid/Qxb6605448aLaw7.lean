import Derived.Test.Qxb6605448aTallyPlain
namespace Go.Proofs.Qxb6605448a
open Go.ChangeShapes Go.WideShapes Go.ChangeAt Go.RowKit
set_option linter.unusedVariables false

/-- What the loops of the law read. -/
structure L7 (w wr : World) (a0 a1 a2 : Option Addr) (b1 b2 b3 b4 b5 b6 n f : Nat) (ps qs : List (Int × Int × Int)) : Prop where
  src : Cols wr a0 a1 a2 n ps
  out : Cols wr (some ⟨b1, 0, none⟩) (some ⟨b2, 0, none⟩) (some ⟨b3, 0, none⟩) (heldTo ps f (n - f)).length (heldTo ps f (n - f))
  old : Cols wr (some ⟨b4, 0, none⟩) (some ⟨b5, 0, none⟩) (some ⟨b6, 0, none⟩) n qs
  bel : Below w.heap.size w wr
theorem L7.drewN {w wr : World} {a0 a1 a2 : Option Addr} {b1 b2 b3 b4 b5 b6 n f : Nat} {ps qs : List (Int × Int × Int)} (h : L7 w wr a0 a1 a2 b1 b2 b3 b4 b5 b6 n f ps qs) (q : Nat) : L7 w (wr.drewN q) a0 a1 a2 b1 b2 b3 b4 b5 b6 n f ps qs :=
  ⟨h.src.drewN q, h.out.drewN q, h.old.drewN q, ⟨h.bel.os, h.bel.tape, h.bel.output, h.bel.size, h.bel.block⟩⟩

set_option maxRecDepth 100000 in
set_option maxHeartbeats 4000000 in
theorem law7_main (a0 a1 a2 : Option Addr) (c0 c1 c2 n f : Nat) (em empt : Int) (viewed : Bool) (ps : List (Int × Int × Int)) (w : World) (hn : n ≤ 16384) (hf : f ≤ n) (hps : ps.length = n)
    (s0 : Came w .u64 a0 (colN ps)) (s1 : Came w .i64 a1 (colC ps)) (s2 : Came w .u64 a2 (colE ps)) :
    Calls Try.prog 7 #[.slice a0 n c0, .slice a1 n c1, .slice a2 n c2, .int .i64 f, .int .i64 em, .int .u64 empt, .bool viewed] w fun e w' => e = .returned (.bool true) ∧ Below w.heap.size w w' := by
  have HN : Hid (ps.length = n) := hps
  have S0 : Hid (Came w .u64 a0 (colN ps)) := s0
  have S1 : Hid (Came w .i64 a1 (colC ps)) := s1
  have S2 : Hid (Came w .u64 a2 (colE ps)) := s2
  clear hps s0 s1 s2
  have hB : decide (n + n + n ≤ 1048576) = true := by simp; omega
  go_enter Try.func7, Try.ntmps7
  go_wp2_with fail
  refine (zzbytes7 _ _ _ _ _ _ _ _ _ _ _ _ _ _ (by unfold maxLen; omega) (by unfold maxLen; omega) (by unfold maxLen; omega)).mono ?_
  rintro e w' ⟨rfl, hw'⟩
  obtain rfl : w = w' := hw'.symm
  rw [hB]
  go_wp2_with fail
  refine (clone_u64' a0 n c0 (colN ps) _ (by simp [colN, HN.out]) S0.out (by omega)).mono ?_
  rintro e w1 ⟨a0', rfl, t0, bel1⟩
  have S1' : Hid (Came w1 .i64 a1 (colC ps)) := S1.out.below bel1
  have S2' : Hid (Came w1 .u64 a2 (colE ps)) := S2.out.below bel1
  have T0 : Hid (Sl w1 a0' n 36 ((colN ps).map (Value.int .u64))) := t0
  clear S0 S1 S2 t0
  go_wp2_with fail
  refine (clone_ints' a1 n c1 (colC ps) _ (by simp [colC, HN.out]) S1'.out (by omega)).mono ?_
  rintro e w2 ⟨a1', rfl, t1, bel2⟩
  have S2 : Hid (Came w2 .u64 a2 (colE ps)) := S2'.out.below bel2
  have T0' : Hid (Sl w2 a0' n 36 ((colN ps).map (Value.int .u64))) := T0.out.below bel2
  have T1' : Hid (Sl w2 a1' n 3 ((colC ps).map (Value.int .i64))) := t1
  clear S1' S2' T0 t1
  go_wp2_with fail
  refine (clone_u64' a2 n c2 (colE ps) _ (by simp [colE, HN.out]) S2.out (by omega)).mono ?_
  rintro e w3 ⟨a2', rfl, t2, bel3⟩
  have T0 : Hid (Sl w3 a0' n 36 ((colN ps).map (Value.int .u64))) := T0'.out.below bel3
  have T1 : Hid (Sl w3 a1' n 3 ((colC ps).map (Value.int .i64))) := T1'.out.below bel3
  have T2 : Hid (Sl w3 a2' n 36 ((colE ps).map (Value.int .u64))) := t2
  have B3 : Hid (Below w.heap.size w w3) := (bel1.trans (bel2.mono bel1.size)).trans (bel3.mono (Nat.le_trans bel1.size bel2.size))
  clear S2 T0' T1' t2 bel1 bel2 bel3
  go_wp2_with fail
  refine (zzdrop_any a0' a1' a2' n n n n f em empt viewed ps _ (by omega) hf HN.out T0.out T1.out T2.out).mono ?_
  rintro e w4 ⟨⟨b1, b2, b3, b4, b5, b6, qs, rfl, r1, r2, r3, hql, hqv, r4, r5, r6⟩, bel4⟩
  have L : Hid (L7 w w4 a0' a1' a2' b1 b2 b3 b4 b5 b6 n f ps qs) :=
    ⟨⟨T0.out.below bel4, T1.out.below bel4, T2.out.below bel4⟩, ⟨.inr ⟨_, rfl, r1⟩, .inr ⟨_, rfl, r2⟩, .inr ⟨_, rfl, r3⟩⟩, ⟨.inr ⟨_, rfl, r4⟩, .inr ⟨_, rfl, r5⟩, .inr ⟨_, rfl, r6⟩⟩, B3.out.trans (bel4.mono B3.out.size)⟩
  have QV : Hid (viewed = true → qs = ps) := hqv
  clear T0 T1 T2 r1 r2 r3 r4 r5 r6 bel4 B3 hql hqv
  have hm : (heldTo ps f (n - f)).length ≤ n := by have := heldTo_le ps f (n - f); omega
  generalize hM : (heldTo ps f (n - f)).length = m at *
  have HM : Hid ((heldTo ps f (n - f)).length = m) := hM
  clear hM
  go_wp2_with fail
  go_loopw [25, 26] (fun rk i wr => ∃ k : Nat, f ≤ k ∧ k ≤ n ∧ i = .int .i64 k ∧ rk = .int .i64 (heldTo ps f (k - f)).length ∧ Hid (L7 w wr a0' a1' a2' b1 b2 b3 b4 b5 b6 n f ps qs)) (fun _ i _ => n - (intOf i).toNat)
  case atStart => exact ⟨f, Nat.le_refl _, hf, rfl, by rw [Nat.sub_self, heldTo_zero]; rfl, L⟩
  case round =>
    obtain ⟨k, hk1, hk2, rfl, rfl, hrel⟩ := hrel
    clear L
    by_cases hlt : k < n
    · obtain ⟨p, hp⟩ : ∃ p, ps[k]? = some p := ⟨ps[k]'(by rw [HN.out]; exact hlt), by simp⟩
      obtain ⟨d0, d1, d2, rfl, rfl, rfl⟩ := hrel.out.src.at_ (by omega)
      obtain ⟨e0, e1, e2⟩ := hrel.out.src.cells hp
      by_cases hpos : 0 < p.2.1
      · obtain ⟨hat, hnx⟩ := heldTo_at ps f k n p hk1 hlt hp hpos
        obtain ⟨o0, o1, o2⟩ := hrel.out.out.cells hat
        have hjm : (heldTo ps f (k - f)).length < m := by have := lt_of_getElem? hat; rw [HM.out] at this; exact this
        generalize hJ : (heldTo ps f (k - f)).length = j at *
        have HX : Hid ((heldTo ps f (k + 1 - f)).length = j + 1) := hnx
        clear hat hnx hJ hp
        obtain ⟨p1, p2, p3⟩ := p
        simp only at e0 e1 e2 o0 o1 o2 hpos
        go_wp2
        go_quiet (fail)
        go_wp2
        go_roundw
        case rel => exact ⟨k + 1, by omega, by omega, by go_num, by rw [HX.out]; go_num, hrel.out.drewN nq⟩
        case measure => simp [intOf]; omega
      · have hs := heldTo_skip ps f k p hk1 hp hpos
        have HX : Hid (heldTo ps f (k + 1 - f) = heldTo ps f (k - f)) := hs
        clear hs hp
        obtain ⟨p1, p2, p3⟩ := p
        simp only at e0 e1 e2 hpos
        go_wp2
        go_roundw
        case rel => exact ⟨k + 1, by omega, by omega, by go_num, by rw [HX.out], hrel⟩
        case measure => simp [intOf]; omega
    · obtain rfl : k = n := by omega
      rw [HM.out]
      cases viewed with
      | false =>
        go_wp2
        go_ret
        exact ⟨rfl, hrel.out.bel⟩
      | true =>
        obtain rfl := QV.out rfl
        go_wp2
        go_loopw [27] (fun i wr => ∃ t : Nat, t ≤ k ∧ i = .int .i64 t ∧ Hid (L7 w wr a0' a1' a2' b1 b2 b3 b4 b5 b6 k f qs qs)) (fun i _ => k - (intOf i).toNat)
        case atStart => exact ⟨0, Nat.zero_le _, rfl, hrel⟩
        case round =>
          rename_i hrel0
          obtain ⟨t, ht, rfl, hrel⟩ := hrel
          by_cases hlt2 : t < k
          · obtain ⟨p, hp⟩ : ∃ p, qs[t]? = some p := ⟨qs[t]'(by rw [HN.out]; exact hlt2), by simp⟩
            obtain ⟨d0, d1, d2, rfl, rfl, rfl⟩ := hrel.out.src.at_ (by omega)
            obtain ⟨e0, e1, e2⟩ := hrel.out.src.cells hp
            obtain ⟨o0, o1, o2⟩ := hrel.out.old.cells hp
            clear hp
            obtain ⟨p1, p2, p3⟩ := p
            simp only at e0 e1 e2 o0 o1 o2
            go_wp2
            go_quiet (fail)
            go_wp2
            go_roundw
            case rel => exact ⟨t + 1, by omega, by go_num, hrel.out.drewN nq⟩
            case measure => simp [intOf]; omega
          · obtain rfl : t = k := by omega
            go_wp2
            go_ret
            exact ⟨rfl, hrel.out.bel⟩
end Go.Proofs.Qxb6605448a
