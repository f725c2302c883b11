import Derived.Test.Qxb6605448aTallyPlain
namespace Go.Proofs.Qxb6605448a
open Go.ChangeShapes Go.WideShapes Go.ChangeAt Go.RowKit
set_option linter.unusedVariables false

/-- The sum of the counts, as Go's int adds. -/
def wsum (l : List (Int × Int × Int)) : Int := l.foldl (fun s p => wrap64 (s + p.2.1)) 0
theorem wsum_snoc (l : List (Int × Int × Int)) (p : Int × Int × Int) : wsum (l ++ [p]) = wrap64 (wsum l + p.2.1) := by simp [wsum]
theorem wsum_nil : wsum [] = 0 := rfl

theorem heldTo_pos (ps : List (Int × Int × Int)) (f k : Nat) : ∀ p ∈ heldTo ps f k, 0 < p.2.1 := by
  intro p hp
  simpa using (List.mem_filter.1 hp).2
theorem heldTo_all (H : List (Int × Int × Int)) (m : Nat) (hm : H.length = m) (h : ∀ p ∈ H, 0 < p.2.1) : heldTo H 0 (m - 0) = H := by
  unfold heldTo
  rw [List.drop_zero, List.take_of_length_le (by omega)]
  exact List.filter_eq_self.2 fun p hp => by simpa using h p hp
theorem heldTo_step (ps : List (Int × Int × Int)) (f i : Nat) (p : Int × Int × Int) (hf : f ≤ i) (hp : ps[i]? = some p) (hc : 0 < p.2.1) :
    heldTo ps f (i + 1 - f) = heldTo ps f (i - f) ++ [p] := by
  have e := heldTo_succ ps f (i - f) p (by rw [show f + (i - f) = i from by omega]; exact hp)
  rw [if_pos hc, show i - f + 1 = i + 1 - f from by omega] at e
  exact e
theorem take_step (H : List (Int × Int × Int)) (t : Nat) (p : Int × Int × Int) (h : H[t]? = some p) : H.take (t + 1) = H.take t ++ [p] := by
  obtain ⟨ht, rfl⟩ := List.getElem?_eq_some_iff.1 h
  rw [List.take_succ_eq_append_getElem ht]

theorem zzdrop_again (b1 b2 b3 m : Nat) (empt : Int) (H : List (Int × Int × Int)) (w : World) (hm : m ≤ 1048576) (hH : H.length = m) (hpos : ∀ p ∈ H, 0 < p.2.1)
    (C : Cols w (some ⟨b1, 0, none⟩) (some ⟨b2, 0, none⟩) (some ⟨b3, 0, none⟩) m H) :
    Calls Try.prog 23 #[.slice (some ⟨b1, 0, none⟩) m m, .slice (some ⟨b2, 0, none⟩) m m, .slice (some ⟨b3, 0, none⟩) m m, .int .i64 0, .int .i64 0, .int .u64 empt, .bool false] w fun e w' =>
      ∃ d1 d2 d3 d4 d5 d6, e = .returned (.tuple #[.slice (some ⟨d1, 0, none⟩) m m, .slice (some ⟨d2, 0, none⟩) m m, .slice (some ⟨d3, 0, none⟩) m m,
        .int .i64 0, .int .i64 0, .int .u64 empt, .bool false, .slice (some ⟨d4, 0, none⟩) m m, .slice (some ⟨d5, 0, none⟩) m m, .slice (some ⟨d6, 0, none⟩) m m]) ∧
      Cols w' (some ⟨d1, 0, none⟩) (some ⟨d2, 0, none⟩) (some ⟨d3, 0, none⟩) m H ∧ Below w.heap.size w w' := by
  have h := zzdrop_any (some ⟨b1, 0, none⟩) (some ⟨b2, 0, none⟩) (some ⟨b3, 0, none⟩) m m m m 0 0 empt false H w hm (Nat.zero_le _) hH C.c0 C.c1 C.c2
  rw [Int.natCast_zero] at h
  refine h.mono ?_
  rintro e w' ⟨⟨d1, d2, d3, d4, d5, d6, qs, he, r1, r2, r3, _⟩, bel⟩
  rw [heldTo_all H m hH hpos] at he r1 r2 r3
  rw [hH] at he
  exact ⟨d1, d2, d3, d4, d5, d6, he, ⟨.inr ⟨_, rfl, r1⟩, .inr ⟨_, rfl, r2⟩, .inr ⟨_, rfl, r3⟩⟩, bel⟩

/-- What the loops of the law read. -/
structure L8 (w wr : World) (a0 a1 a2 : Option Addr) (b1 b2 b3 n m : Nat) (ps H : List (Int × Int × Int)) : Prop where
  src : Cols wr a0 a1 a2 n ps
  out : Cols wr (some ⟨b1, 0, none⟩) (some ⟨b2, 0, none⟩) (some ⟨b3, 0, none⟩) m H
  bel : Below w.heap.size w wr

set_option maxRecDepth 100000 in
set_option maxHeartbeats 4000000 in
theorem law8_main (a0 a1 a2 : Option Addr) (c0 c1 c2 n f : Nat) (em empt : Int) (viewed : Bool) (ps : List (Int × Int × Int)) (w : World) (hn : n ≤ 16384) (hf : f ≤ n) (hps : ps.length = n)
    (s0 : Came w .u64 a0 (colN ps)) (s1 : Came w .i64 a1 (colC ps)) (s2 : Came w .u64 a2 (colE ps)) :
    Calls Try.prog 8 #[.slice a0 n c0, .slice a1 n c1, .slice a2 n c2, .int .i64 f, .int .i64 em, .int .u64 empt, .bool viewed] w fun e w' => e = .returned (.bool true) ∧ Below w.heap.size w w' := by
  have HN : Hid (ps.length = n) := hps
  have S0 : Hid (Came w .u64 a0 (colN ps)) := s0
  have S1 : Hid (Came w .i64 a1 (colC ps)) := s1
  have S2 : Hid (Came w .u64 a2 (colE ps)) := s2
  clear hps s0 s1 s2
  have hB : decide (n + n + n ≤ 1048576) = true := by simp; omega
  go_enter Try.func8, Try.ntmps8
  go_wp2_with fail
  refine (zzbytes8 _ _ _ _ _ _ _ _ _ _ _ _ _ _ (by unfold maxLen; omega) (by unfold maxLen; omega) (by unfold maxLen; omega)).mono ?_
  rintro e w' ⟨rfl, hw'⟩
  obtain rfl : w = w' := hw'.symm
  rw [hB]
  go_wp2_with fail
  refine (clone_u64' a0 n c0 (colN ps) _ (by simp [colN, HN.out]) S0.out (by omega)).mono ?_
  rintro e w1 ⟨a0', rfl, t0, bel1⟩
  have S1' : Hid (Came w1 .i64 a1 (colC ps)) := S1.out.below bel1
  have S2' : Hid (Came w1 .u64 a2 (colE ps)) := S2.out.below bel1
  have T0 : Hid (Sl w1 a0' n 36 ((colN ps).map (Value.int .u64))) := t0
  clear S0 S1 S2 t0
  go_wp2_with fail
  refine (clone_ints' a1 n c1 (colC ps) _ (by simp [colC, HN.out]) S1'.out (by omega)).mono ?_
  rintro e w2 ⟨a1', rfl, t1, bel2⟩
  have S2 : Hid (Came w2 .u64 a2 (colE ps)) := S2'.out.below bel2
  have T0' : Hid (Sl w2 a0' n 36 ((colN ps).map (Value.int .u64))) := T0.out.below bel2
  have T1' : Hid (Sl w2 a1' n 3 ((colC ps).map (Value.int .i64))) := t1
  clear S1' S2' T0 t1
  go_wp2_with fail
  refine (clone_u64' a2 n c2 (colE ps) _ (by simp [colE, HN.out]) S2.out (by omega)).mono ?_
  rintro e w3 ⟨a2', rfl, t2, bel3⟩
  have T0 : Hid (Sl w3 a0' n 36 ((colN ps).map (Value.int .u64))) := T0'.out.below bel3
  have T1 : Hid (Sl w3 a1' n 3 ((colC ps).map (Value.int .i64))) := T1'.out.below bel3
  have T2 : Hid (Sl w3 a2' n 36 ((colE ps).map (Value.int .u64))) := t2
  have B3 : Hid (Below w.heap.size w w3) := (bel1.trans (bel2.mono bel1.size)).trans (bel3.mono (Nat.le_trans bel1.size bel2.size))
  clear S2 T0' T1' t2 bel1 bel2 bel3
  go_wp2_with fail
  refine (zzdrop_any a0' a1' a2' n n n n f em empt viewed ps _ (by omega) hf HN.out T0.out T1.out T2.out).mono ?_
  rintro e w4 ⟨⟨b1, b2, b3, b4, b5, b6, qs, rfl, r1, r2, r3, hql, hqv, r4, r5, r6⟩, bel4⟩
  have hm : (heldTo ps f (n - f)).length ≤ n := by have := heldTo_le ps f (n - f); omega
  have L : Hid (L8 w w4 a0' a1' a2' b1 b2 b3 n (heldTo ps f (n - f)).length ps (heldTo ps f (n - f))) :=
    ⟨⟨T0.out.below bel4, T1.out.below bel4, T2.out.below bel4⟩, ⟨.inr ⟨_, rfl, r1⟩, .inr ⟨_, rfl, r2⟩, .inr ⟨_, rfl, r3⟩⟩, B3.out.trans (bel4.mono B3.out.size)⟩
  clear T0 T1 T2 r1 r2 r3 r4 r5 r6 bel4 B3 hql hqv
  generalize hM : (heldTo ps f (n - f)).length = m at *
  have HM : Hid ((heldTo ps f (n - f)).length = m) := hM
  clear hM
  have HP : Hid (∀ p ∈ heldTo ps f (n - f), 0 < p.2.1) := heldTo_pos ps f (n - f)
  have HW : Hid (∃ S, wsum (heldTo ps f (n - f)) = S) := ⟨_, rfl⟩
  go_wp2_with fail
  go_loopw [25, 26] (fun s i wr => ∃ k : Nat, f ≤ k ∧ k ≤ n ∧ i = .int .i64 k ∧ s = .int .i64 (wsum (heldTo ps f (k - f))) ∧ wr = w4) (fun _ i _ => n - (intOf i).toNat)
  case atStart => exact ⟨f, Nat.le_refl _, hf, rfl, by rw [Nat.sub_self, heldTo_zero]; rfl, rfl⟩
  case round =>
    obtain ⟨k, hk1, hk2, rfl, rfl, rfl⟩ := hrel
    by_cases hlt : k < n
    · obtain ⟨p, hp⟩ : ∃ p, ps[k]? = some p := ⟨ps[k]'(by rw [HN.out]; exact hlt), by simp⟩
      obtain ⟨d0, d1, d2, rfl, rfl, rfl⟩ := L.out.src.at_ (by omega)
      obtain ⟨e0, e1, e2⟩ := L.out.src.cells hp
      by_cases hpos : 0 < p.2.1
      · have hs := heldTo_step ps f k p hk1 hp hpos
        have HX : Hid (wsum (heldTo ps f (k + 1 - f)) = wrap64 (wsum (heldTo ps f (k - f)) + p.2.1)) := by unfold Hid; rw [hs, wsum_snoc]
        clear hs hp
        obtain ⟨p1, p2, p3⟩ := p
        simp only at e0 e1 e2 hpos
        generalize wsum (heldTo ps f (k - f)) = s0 at *
        go_wp2
        go_roundw
        case rel => exact ⟨k + 1, by omega, by omega, by go_num, by rw [HX.out], trivial⟩
        case measure => simp [intOf]; omega
      · have hs := heldTo_skip ps f k p hk1 hp hpos
        have HX : Hid (heldTo ps f (k + 1 - f) = heldTo ps f (k - f)) := hs
        clear hs hp
        obtain ⟨p1, p2, p3⟩ := p
        simp only at e0 e1 e2 hpos
        go_wp2
        go_roundw
        case rel => exact ⟨k + 1, by omega, by omega, by go_num, by rw [HX.out], trivial⟩
        case measure => simp [intOf]; omega
    · obtain rfl : k = n := by omega
      generalize hH : heldTo ps f (k - f) = H at *
      clear hH HW
      go_wp2
      go_loopw [27, 28] (fun s i wr2 => ∃ t : Nat, t ≤ m ∧ i = .int .i64 t ∧ s = .int .i64 (wsum (H.take t)) ∧ wr2 = wr) (fun _ i _ => m - (intOf i).toNat)
      case atStart => exact ⟨0, Nat.zero_le _, rfl, rfl, rfl⟩
      case round =>
        obtain ⟨t, ht, rfl, rfl, rfl⟩ := hrel
        by_cases hlt2 : t < m
        · obtain ⟨p, hp⟩ : ∃ p, H[t]? = some p := ⟨H[t]'(by rw [HM.out]; exact hlt2), by simp⟩
          obtain ⟨e0, e1, e2⟩ := L.out.out.cells hp
          have hpos := HP.out p (List.mem_of_getElem? hp)
          have HX : Hid (wsum (H.take (t + 1)) = wrap64 (wsum (H.take t) + p.2.1)) := by unfold Hid; rw [take_step H t p hp, wsum_snoc]
          clear hp
          obtain ⟨p1, p2, p3⟩ := p
          simp only at e0 e1 e2 hpos
          generalize wsum (H.take t) = s0 at *
          go_wp2
          go_roundw
          case rel => exact ⟨t + 1, by omega, by go_num, by rw [HX.out], trivial⟩
          case measure => simp [intOf]; omega
        · obtain rfl : t = m := by omega
          rw [List.take_of_length_le (by rw [HM.out]; exact Nat.le_refl _)]
          generalize wsum H = s0 at *
          go_wp2_with fail
          refine (zzdrop_again b1 b2 b3 t empt H _ (by omega) HM.out HP.out L.out.out).mono ?_
          rintro e w5 ⟨d1, d2, d3, d4, d5, d6, rfl, hC, hbel⟩
          have HC : Hid (Cols w5 (some ⟨d1, 0, none⟩) (some ⟨d2, 0, none⟩) (some ⟨d3, 0, none⟩) t H) := hC
          have HO : Hid (Cols w5 (some ⟨b1, 0, none⟩) (some ⟨b2, 0, none⟩) (some ⟨b3, 0, none⟩) t H) := L.out.out.below hbel
          have HBL : Hid (Below w.heap.size w w5) := L.out.bel.trans (hbel.mono L.out.bel.size)
          clear hC hbel L
          go_wp2_with fail
          go_loopw [39] (fun i wr => ∃ q : Nat, q ≤ t ∧ i = .int .i64 q ∧ Hid (Cols wr (some ⟨d1, 0, none⟩) (some ⟨d2, 0, none⟩) (some ⟨d3, 0, none⟩) t H) ∧ Hid (Cols wr (some ⟨b1, 0, none⟩) (some ⟨b2, 0, none⟩) (some ⟨b3, 0, none⟩) t H) ∧ Hid (Below w.heap.size w wr)) (fun i _ => t - (intOf i).toNat)
          case atStart => exact ⟨0, Nat.zero_le _, rfl, HC, HO, HBL⟩
          case round =>
            obtain ⟨q, hq, rfl, HC', HO', HBL'⟩ := hrel
            clear HC HO HBL
            by_cases hlt3 : q < t
            · obtain ⟨p, hp⟩ : ∃ p, H[q]? = some p := ⟨H[q]'(by rw [HM.out]; exact hlt3), by simp⟩
              obtain ⟨e0, e1, e2⟩ := HC'.out.cells hp
              obtain ⟨o0, o1, o2⟩ := HO'.out.cells hp
              clear hp
              obtain ⟨p1, p2, p3⟩ := p
              simp only at e0 e1 e2 o0 o1 o2
              go_wp2
              go_quiet (fail)
              go_wp2
              go_roundw
              case rel => exact ⟨q + 1, by omega, by go_num, HC'.out.drewN nq, HO'.out.drewN nq, ⟨HBL'.out.os, HBL'.out.tape, HBL'.out.output, HBL'.out.size, HBL'.out.block⟩⟩
              case measure => simp [intOf]; omega
            · obtain rfl : q = t := by omega
              go_wp2
              go_ret
              exact ⟨rfl, HBL'.out⟩
end Go.Proofs.Qxb6605448a
