import Derived.Test.Qxb6600543aRows
import Derived.Test.Qxb6600543aGlob
import Derived.Test.Qxb6600543aMem
import Derived.WalkKit
import Derived.ProofKit
import Derived.WalkSpells
import Derived.WalkLawsBesides
import Derived.BigQuiet
import Derived.Deep.QuietTactic
import Derived.RegionTactic
import Derived.BigRegion
namespace Go.Proofs.Qxb6600543a
open Go.ChangeShapes Go.WideShapes Go.ChangeAt Go.RowKit
set_option linter.unusedVariables false

/-- The cells of a slice of bytes. -/
def Lies (w : World) (b off : Nat) (q : List Int) : Prop := ∀ i z, q[i]? = some z → w.cell? ⟨b, off + i, none⟩ = some (.int .u8 z)
theorem Lies.drewN {w : World} {b off : Nat} {q : List Int} (h : Lies w b off q) (n : Nat) : Lies (w.drewN n) b off q := h
theorem Lies.drop {w : World} {b off : Nat} {q : List Int} (h : Lies w b off q) (p : Nat) : Lies w b (off + p) (q.drop p) := by
  intro i z hz
  rw [List.getElem?_drop] at hz
  have := h (p + i) z hz
  rw [show off + p + i = off + (p + i) from by omega]
  exact this
theorem at_some {q : List Int} {i n : Nat} (hn : q.length = n) (h : i < n) : ∃ z, q[i]? = some z := ⟨q[i]'(by omega), by simp⟩

variable {q : List Int} {i k E : Nat} {c : Int} {bin x F : Bool}
theorem stepN (hs : stops (q.drop i) = false) (hw : itemW (q.drop i) = k) (h : i + scanN (q.drop i) = E) : (i + k) + scanN (q.drop (i + k)) = E := by
  rw [scanN_go hs, hw, List.drop_drop] at h; omega
theorem stepB (hs : stops (q.drop i) = false) (hw : itemW (q.drop i) = k) (hx : itemIn (q.drop i) c = x) (h : (bin || scanB (q.drop i) c) = F) : ((bin || x) || scanB (q.drop (i + k)) c) = F := by
  rw [scanB_go hs, hw, hx, List.drop_drop] at h
  rw [← h, Bool.or_assoc]
theorem endN (hs : stops (q.drop i) = true) (h : i + scanN (q.drop i) = E) : i = E := by rw [scanN_stop hs] at h; omega
theorem endB (hs : stops (q.drop i) = true) (h : (bin || scanB (q.drop i) c) = F) : bin = F := by rw [scanB_stop hs] at h; simpa using h
theorem stops_at_end (h : q.length ≤ i) : stops (q.drop i) = true := by rw [List.drop_of_length_le h]; rfl
theorem stops_at (z : Int) (h : q[i]? = some z) : stops (q.drop i) = (z == 93) := by
  have hi := (List.getElem?_eq_some_iff.1 h).1
  unfold stops
  have : (q.drop i).isEmpty = false := by simp; omega
  rw [this, List.getElem?_drop, Nat.add_zero, h]
  simp
theorem item_esc {z1 : Int} (h0 : q[i]? = some 92) (h1 : q[i + 1]? = some z1) : itemW (q.drop i) = 2 ∧ itemIn (q.drop i) c = (z1 == c) := by
  have hi := (List.getElem?_eq_some_iff.1 h1).1
  have c1 : (q.drop i)[0]? = some 92 ∧ 1 < (q.drop i).length := ⟨by rw [List.getElem?_drop]; exact h0, by simp; omega⟩
  unfold itemW itemIn
  rw [if_pos c1, if_pos c1]
  simp [List.getD, List.getElem?_drop, h1]
theorem item_range {z z2 : Int} (h0 : q[i]? = some z) (hz : z ≠ 92) (h1 : q[i + 1]? = some 45) (h2 : q[i + 2]? = some z2) (hz2 : z2 ≠ 93) :
    itemW (q.drop i) = 3 ∧ itemIn (q.drop i) c = decide (min z z2 ≤ c ∧ c ≤ max z z2) := by
  have hi := (List.getElem?_eq_some_iff.1 h2).1
  have c1 : ¬ ((q.drop i)[0]? = some 92 ∧ 1 < (q.drop i).length) := by
    rw [List.getElem?_drop, Nat.add_zero, h0]; simp [hz]
  have c2 : 2 < (q.drop i).length ∧ (q.drop i)[1]? = some 45 ∧ (q.drop i)[2]? ≠ some 93 :=
    ⟨by simp; omega, by rw [List.getElem?_drop]; exact h1, by rw [List.getElem?_drop, h2]; simpa using hz2⟩
  unfold itemW itemIn
  rw [if_neg c1, if_neg c1, if_pos c2, if_pos c2]
  simp [List.getD, List.getElem?_drop, h0, h2]
theorem item_one {z : Int} (h0 : q[i]? = some z) (he : z ≠ 92 ∨ q.length ≤ i + 1) (hr : q.length ≤ i + 2 ∨ (∃ z1, q[i + 1]? = some z1 ∧ z1 ≠ 45) ∨ q[i + 2]? = some 93) :
    itemW (q.drop i) = 1 ∧ itemIn (q.drop i) c = (z == c) := by
  have c1 : ¬ ((q.drop i)[0]? = some 92 ∧ 1 < (q.drop i).length) := by
    rw [List.getElem?_drop, Nat.add_zero, h0]
    rcases he with h | h
    · simp [h]
    · simp; omega
  have c2 : ¬ (2 < (q.drop i).length ∧ (q.drop i)[1]? = some 45 ∧ (q.drop i)[2]? ≠ some 93) := by
    rw [List.getElem?_drop, List.getElem?_drop]
    rcases hr with h | ⟨z1, h, h'⟩ | h
    · simp; omega
    · rw [h]; simp [h']
    · rw [h]; simp
  unfold itemW itemIn
  rw [if_neg c1, if_neg c1, if_neg c2, if_neg c2]
  simp [List.getD, List.getElem?_drop, h0]

theorem rg1 {z z2 c : Int} (h : z2 < z) (h' : z2 ≤ c) : decide (c ≤ z) = (false || decide (min z z2 ≤ c ∧ c ≤ max z z2)) := by
  rw [Bool.false_or]; apply decide_eq_decide.2; omega
theorem rg2 {z z2 c : Int} (h : z2 < z) (h' : ¬ z2 ≤ c) : false = (false || decide (min z z2 ≤ c ∧ c ≤ max z z2)) := by
  rw [Bool.false_or]; symm; rw [decide_eq_false_iff_not]; omega
theorem rg3 {z z2 c : Int} (h : ¬ z2 < z) (h' : z ≤ c) : decide (c ≤ if z < z2 then z2 else z) = (false || decide (min z z2 ≤ c ∧ c ≤ max z z2)) := by
  rw [Bool.false_or]; apply decide_eq_decide.2; split <;> omega
theorem rg4 {z z2 c : Int} (h : ¬ z2 < z) (h' : ¬ z ≤ c) : false = (false || decide (min z z2 ≤ c ∧ c ≤ max z z2)) := by
  rw [Bool.false_or]; symm; rw [decide_eq_false_iff_not]; omega
theorem ret_set {a : Int} {x : Bool} {n : Nat} {y : Bool} (h : a = (n : Int)) (h' : x = y) : Ending.returned (.tuple #[.int .i64 a, .bool x]) = .returned (.tuple #[.int .i64 (n : Int), .bool y]) := by rw [h, h']


set_option maxRecDepth 100000 in
set_option maxHeartbeats 8000000 in
theorem set_short (b off n cap : Nat) (q : List Int) (c : Int) (w : World) (hq : Lies w b off q) (hn : q.length = n) (hb : n ≤ 1048576) (hc0 : 0 ≤ c) (hc1 : c ≤ 255) (hbd : ∀ z ∈ q, 0 ≤ z ∧ z ≤ 255) (h1 : n ≤ 1) :
    Calls Try.prog 24 #[.slice (some ⟨b, off, none⟩) n cap, .int .u8 c] w fun e w' => e = .returned (.tuple #[.int .i64 (setW q), .bool (setIn q c)]) ∧ ∃ m, w' = w.drewN m := by
  have HQ : Hid (Lies w b off q) := hq
  have HN : Hid (q.length = n) := hn
  have HBD : Hid (∀ z ∈ q, 0 ≤ z ∧ z ≤ 255) := hbd
  have hneg : neg q = false := by unfold neg; rw [List.getElem?_eq_none (by omega)]; rfl
  have HNEG : Hid (neg q = false) := hneg
  have hd1 : decide ((1 : Int) < (n : Int)) = false := by simp; omega
  clear hneg
  have SW : Hid (setW q = min (1 + scanN (q.drop 1) + 1) n) := by unfold Hid setW body; rw [HNEG.out, HN.out]; rfl
  have SB : Hid (setIn q c = (scanB (q.drop 1) c != false)) := by unfold Hid setIn body; rw [HNEG.out]; rfl
  clear hq hn hbd
  go_enter Try.func24, Try.ntmps24
  go_wp2
  go_quiet (fail)
  go_wp2
  go_loopw [6, 8] (fun iv bv wr => ∃ (i m : Nat) (bin : Bool), 1 ≤ i ∧ i ≤ n + 1 ∧ iv = .int .i64 i ∧ bv = .bool bin ∧ Hid (i + scanN (q.drop i) = 1 + scanN (q.drop 1)) ∧ Hid ((bin || scanB (q.drop i) c) = scanB (q.drop 1) c) ∧ wr = w.drewN m) (fun iv _ _ => n + 2 - (intOf iv).toNat)
  case atStart => exact ⟨1, _, false, Nat.le_refl _, by omega, rfl, rfl, rfl, rfl, rfl⟩
  case round =>
    obtain ⟨i, m, bin, hi1, hi2, rfl, rfl, hN, hB, rfl⟩ := hrel
    by_cases hlt : i < n
    · omega
    · have hst : stops (q.drop i) = true := stops_at_end (by rw [HN.out]; omega)
      have E1 := endN hst hN.out
      have E2 := endB hst hB.out
      have HE1 : Hid (i = 1 + scanN (q.drop 1)) := E1
      have HE2 : Hid (bin = scanB (q.drop 1) c) := E2
      clear E1 E2 hst
      go_wp2
      go_ret2
      refine ⟨ret_set ?_ (by rw [SB.out]; simp [HE2.out]), m, rfl⟩
      have := HE1.out
      rw [SW.out]
      omega

set_option maxRecDepth 100000 in
set_option maxHeartbeats 8000000 in
theorem set_plain (b off n cap : Nat) (q : List Int) (c : Int) (w : World) (hq : Lies w b off q) (hn : q.length = n) (hb : n ≤ 1048576) (hc0 : 0 ≤ c) (hc1 : c ≤ 255) (hbd : ∀ z ∈ q, 0 ≤ z ∧ z ≤ 255) (h1 : 1 < n) (y : Int) (hy : q[1]? = some y) (h94 : (y == 94) = false) :
    Calls Try.prog 24 #[.slice (some ⟨b, off, none⟩) n cap, .int .u8 c] w fun e w' => e = .returned (.tuple #[.int .i64 (setW q), .bool (setIn q c)]) ∧ ∃ m, w' = w.drewN m := by
  have HQ : Hid (Lies w b off q) := hq
  have HN : Hid (q.length = n) := hn
  have HBD : Hid (∀ z ∈ q, 0 ≤ z ∧ z ≤ 255) := hbd
  have HNEG : Hid (neg q = false) := by unfold Hid neg; rw [hy]; simpa using h94
  have hcy : w.cell? ⟨b, off + 1, none⟩ = some (.int .u8 y) := hq 1 y hy
  have hd1 : (1 : Int) < (n : Int) := by omega
  clear hy
  have SW : Hid (setW q = min (1 + scanN (q.drop 1) + 1) n) := by unfold Hid setW body; rw [HNEG.out, HN.out]; rfl
  have SB : Hid (setIn q c = (scanB (q.drop 1) c != false)) := by unfold Hid setIn body; rw [HNEG.out]; rfl
  clear hq hn hbd
  go_enter Try.func24, Try.ntmps24
  go_wp2
  go_quiet (fail)
  go_wp2
  go_loopw [6, 8] (fun iv bv wr => ∃ (i m : Nat) (bin : Bool), 1 ≤ i ∧ i ≤ n ∧ iv = .int .i64 i ∧ bv = .bool bin ∧ Hid (i + scanN (q.drop i) = 1 + scanN (q.drop 1)) ∧ Hid ((bin || scanB (q.drop i) c) = scanB (q.drop 1) c) ∧ wr = w.drewN m) (fun iv _ _ => n + 2 - (intOf iv).toNat)
  case atStart => exact ⟨1, _, false, Nat.le_refl _, by omega, rfl, rfl, rfl, rfl, rfl⟩
  case round =>
    obtain ⟨i, m, bin, hi1, hi2, rfl, rfl, hN, hB, rfl⟩ := hrel
    by_cases hlt : i < n
    · obtain ⟨z, hz⟩ := at_some HN.out hlt
      have hcz : w.cell? ⟨b, off + i, none⟩ = some (.int .u8 z) := HQ.out i z hz
      obtain ⟨z0, z255⟩ := HBD.out z (List.mem_of_getElem? hz)
      have hstop := stops_at z hz
      have HZ : Hid (q[i]? = some z) := hz
      clear hz
      by_cases h93 : z = 93
      · subst h93
        have hst : stops (q.drop i) = true := by rw [hstop]; rfl
        have E1 := endN hst hN.out
        have E2 := endB hst hB.out
        have HE1 : Hid (i = 1 + scanN (q.drop 1)) := E1
        have HE2 : Hid (bin = scanB (q.drop 1) c) := E2
        clear E1 E2 hst hstop
        go_wp2
        go_ret2
        exact ⟨ret_set (by have := HE1.out; rw [SW.out]; omega) (by rw [SB.out]; simp [HE2.out]), m, rfl⟩
      · have hst : stops (q.drop i) = false := by rw [hstop]; simp [h93]
        have HST : Hid (stops (q.drop i) = false) := hst
        clear hst hstop
        by_cases hesc : z = 92 ∧ i + 1 < n
        · obtain ⟨rfl, h1n⟩ := hesc
          obtain ⟨z1, hz1⟩ := at_some HN.out h1n
          have hcz1 : w.cell? ⟨b, off + (i + 1), none⟩ = some (.int .u8 z1) := HQ.out (i + 1) z1 hz1
          obtain ⟨iw, iin⟩ := item_esc (c := c) HZ.out hz1
          have R1 : Hid ((i + 2) + scanN (q.drop (i + 2)) = 1 + scanN (q.drop 1)) := stepN HST.out iw hN.out
          have R2 : Hid (((bin || (z1 == c)) || scanB (q.drop (i + 2)) c) = scanB (q.drop 1) c) := stepB HST.out iw iin hB.out
          clear hz1 iw iin h93
          cases bin
          all_goals
            go_wp2
            go_roundw
            case rel => exact ⟨i + 2, _, _, by omega, by omega, by go_num, rfl, R1, R2, rfl⟩
            case measure => simp [intOf]; omega
        · by_cases hrg : i + 2 < n ∧ q[i + 1]? = some 45 ∧ q[i + 2]? ≠ some 93
          · obtain ⟨h2n, hz1, hz2⟩ := hrg
            obtain ⟨z2, hz2'⟩ := at_some HN.out h2n
            have h293 : z2 ≠ 93 := by intro e; subst e; exact hz2 hz2'
            have hn92 : z ≠ 92 := by intro e; exact hesc ⟨e, by omega⟩
            have hcz1 : w.cell? ⟨b, off + (i + 1), none⟩ = some (.int .u8 45) := HQ.out (i + 1) 45 hz1
            have hcz2 : w.cell? ⟨b, off + (i + 2), none⟩ = some (.int .u8 z2) := HQ.out (i + 2) z2 hz2'
            obtain ⟨z20, z2255⟩ := HBD.out z2 (List.mem_of_getElem? hz2')
            obtain ⟨iw, iin⟩ := item_range (c := c) HZ.out hn92 hz1 hz2' h293
            have R1 : Hid ((i + 3) + scanN (q.drop (i + 3)) = 1 + scanN (q.drop 1)) := stepN HST.out iw hN.out
            have R2 : Hid (((bin || decide (min z z2 ≤ c ∧ c ≤ max z z2)) || scanB (q.drop (i + 3)) c) = scanB (q.drop 1) c) := stepB HST.out iw iin hB.out
            have q1 : (z == 92) = false := by simp [hn92]
            have q2 : (z2 != 93) = true := by simp [h293]
            have q3 : (z != 93) = true := by simp [h93]
            clear hz1 hz2' hz2 iw iin h93 hesc hn92 h293
            cases bin
            all_goals
              go_wp2
              go_quiet (fail)
              go_wp2
            all_goals
              go_roundw
              case rel =>
                refine ⟨i + 3, _, _, by omega, by omega, by go_num, rfl, R1, ?_, rfl⟩
                show _ = _
                rw [← R2.out]
                first
                  | rfl
                  | exact congrArg (fun t => (t || scanB (q.drop (i + 3)) c)) (rg1 (by assumption) (by assumption))
                  | exact congrArg (fun t => (t || scanB (q.drop (i + 3)) c)) (rg2 (by assumption) (by assumption))
                  | exact congrArg (fun t => (t || scanB (q.drop (i + 3)) c)) (rg3 (by assumption) (by assumption))
                  | exact congrArg (fun t => (t || scanB (q.drop (i + 3)) c)) (rg4 (by assumption) (by assumption))
              case measure => simp [intOf]; omega
          · have hio : itemW (q.drop i) = 1 ∧ itemIn (q.drop i) c = (z == c) := by
              refine item_one HZ.out ?_ ?_
              · by_cases h : z = 92
                · right; rw [HN.out]; by_cases h' : i + 1 < n
                  · exact absurd ⟨h, h'⟩ hesc
                  · omega
                · exact .inl h
              · by_cases h : i + 2 < n
                · right
                  obtain ⟨z1, hz1⟩ := at_some HN.out (show i + 1 < n by omega)
                  by_cases h45 : z1 = 45
                  · right
                    subst h45
                    cases hz2 : q[i + 2]? with
                    | none => rw [List.getElem?_eq_none_iff] at hz2; have := HN.out; omega
                    | some z2 =>
                      by_cases h93' : z2 = 93
                      · rw [h93']
                      · exact absurd ⟨h, hz1, by rw [hz2]; simpa using h93'⟩ hrg
                  · exact .inl ⟨z1, hz1, h45⟩
                · left; rw [HN.out]; omega
            have R1 : Hid ((i + 1) + scanN (q.drop (i + 1)) = 1 + scanN (q.drop 1)) := stepN HST.out hio.1 hN.out
            have R2 : Hid (((bin || (z == c)) || scanB (q.drop (i + 1)) c) = scanB (q.drop 1) c) := stepB HST.out hio.1 hio.2 hB.out
            have q3 : (z != 93) = true := by simp [h93]
            clear hio
            by_cases h92 : z = 92
            · have hlast : n = i + 1 := by
                by_cases h' : i + 1 < n
                · exact absurd ⟨h92, h'⟩ hesc
                · omega
              subst h92
              have d1 : decide ((i : Int) + 1 < (n : Int)) = false := by simp; omega
              have d2 : decide ((i : Int) + 2 < (n : Int)) = false := by simp; omega
              have hge : n ≤ i + 1 := by omega
              clear hlast hesc hrg h93
              cases bin
              all_goals
                go_wp2
                go_roundw
                case rel => exact ⟨i + 1, _, _, by omega, by omega, by go_num, rfl, R1, R2, rfl⟩
                case measure => simp [intOf]; omega
            · have q1 : (z == 92) = false := by simp [h92]
              by_cases h2n : i + 2 < n
              · obtain ⟨z1, hz1⟩ := at_some HN.out (show i + 1 < n by omega)
                have hcz1 : w.cell? ⟨b, off + (i + 1), none⟩ = some (.int .u8 z1) := HQ.out (i + 1) z1 hz1
                by_cases h45 : z1 = 45
                · subst h45
                  obtain ⟨z2, hz2⟩ := at_some HN.out h2n
                  have h293 : z2 = 93 := by
                    by_cases h : z2 = 93
                    · exact h
                    · exact absurd ⟨h2n, hz1, by rw [hz2]; simpa using h⟩ hrg
                  subst h293
                  have hcz2 : w.cell? ⟨b, off + (i + 2), none⟩ = some (.int .u8 93) := HQ.out (i + 2) 93 hz2
                  clear hz1 hz2 hesc hrg h93 h92
                  cases bin
                  all_goals
                    go_wp2
                    go_roundw
                    case rel => exact ⟨i + 1, _, _, by omega, by omega, by go_num, rfl, R1, R2, rfl⟩
                    case measure => simp [intOf]; omega
                · have q45 : (z1 == 45) = false := by simp [h45]
                  clear hz1 hesc hrg h93 h92 h45
                  cases bin
                  all_goals
                    go_wp2
                    go_roundw
                    case rel => exact ⟨i + 1, _, _, by omega, by omega, by go_num, rfl, R1, R2, rfl⟩
                    case measure => simp [intOf]; omega
              · have d2 : decide ((i : Int) + 2 < (n : Int)) = false := by simp; omega
                clear hesc hrg h93 h92
                cases bin
                all_goals
                  go_wp2
                  go_roundw
                  case rel => exact ⟨i + 1, _, _, by omega, by omega, by go_num, rfl, R1, R2, rfl⟩
                  case measure => simp [intOf]; omega
    · have hst : stops (q.drop i) = true := stops_at_end (by rw [HN.out]; omega)
      have E1 := endN hst hN.out
      have E2 := endB hst hB.out
      have HE1 : Hid (i = 1 + scanN (q.drop 1)) := E1
      have HE2 : Hid (bin = scanB (q.drop 1) c) := E2
      clear E1 E2 hst
      go_wp2
      go_ret2
      refine ⟨ret_set ?_ (by rw [SB.out]; simp [HE2.out]), m, rfl⟩
      have := HE1.out
      rw [SW.out]
      omega

set_option maxRecDepth 100000 in
set_option maxHeartbeats 8000000 in
theorem set_neg (b off n cap : Nat) (q : List Int) (c : Int) (w : World) (hq : Lies w b off q) (hn : q.length = n) (hb : n ≤ 1048576) (hc0 : 0 ≤ c) (hc1 : c ≤ 255) (hbd : ∀ z ∈ q, 0 ≤ z ∧ z ≤ 255) (h1 : 1 < n) (hy : q[1]? = some 94) :
    Calls Try.prog 24 #[.slice (some ⟨b, off, none⟩) n cap, .int .u8 c] w fun e w' => e = .returned (.tuple #[.int .i64 (setW q), .bool (setIn q c)]) ∧ ∃ m, w' = w.drewN m := by
  have HQ : Hid (Lies w b off q) := hq
  have HN : Hid (q.length = n) := hn
  have HBD : Hid (∀ z ∈ q, 0 ≤ z ∧ z ≤ 255) := hbd
  have HNEG : Hid (neg q = true) := by unfold Hid neg; rw [hy]; rfl
  have hcy : w.cell? ⟨b, off + 1, none⟩ = some (.int .u8 94) := hq 1 94 hy
  have hd1 : (1 : Int) < (n : Int) := by omega
  clear hy
  have SW : Hid (setW q = min (2 + scanN (q.drop 2) + 1) n) := by unfold Hid setW body; rw [HNEG.out, HN.out]; rfl
  have SB : Hid (setIn q c = (scanB (q.drop 2) c != true)) := by unfold Hid setIn body; rw [HNEG.out]; rfl
  clear hq hn hbd
  go_enter Try.func24, Try.ntmps24
  go_wp2
  go_quiet (fail)
  go_wp2
  go_loopw [6, 8] (fun iv bv wr => ∃ (i m : Nat) (bin : Bool), 2 ≤ i ∧ i ≤ n ∧ iv = .int .i64 i ∧ bv = .bool bin ∧ Hid (i + scanN (q.drop i) = 2 + scanN (q.drop 2)) ∧ Hid ((bin || scanB (q.drop i) c) = scanB (q.drop 2) c) ∧ wr = w.drewN m) (fun iv _ _ => n + 2 - (intOf iv).toNat)
  case atStart => exact ⟨2, _, false, Nat.le_refl _, by omega, rfl, rfl, rfl, rfl, rfl⟩
  case round =>
    obtain ⟨i, m, bin, hi1, hi2, rfl, rfl, hN, hB, rfl⟩ := hrel
    by_cases hlt : i < n
    · obtain ⟨z, hz⟩ := at_some HN.out hlt
      have hcz : w.cell? ⟨b, off + i, none⟩ = some (.int .u8 z) := HQ.out i z hz
      obtain ⟨z0, z255⟩ := HBD.out z (List.mem_of_getElem? hz)
      have hstop := stops_at z hz
      have HZ : Hid (q[i]? = some z) := hz
      clear hz
      by_cases h93 : z = 93
      · subst h93
        have hst : stops (q.drop i) = true := by rw [hstop]; rfl
        have E1 := endN hst hN.out
        have E2 := endB hst hB.out
        have HE1 : Hid (i = 2 + scanN (q.drop 2)) := E1
        have HE2 : Hid (bin = scanB (q.drop 2) c) := E2
        clear E1 E2 hst hstop
        go_wp2
        go_ret2
        exact ⟨ret_set (by have := HE1.out; rw [SW.out]; omega) (by rw [SB.out]; simp [HE2.out]), m, rfl⟩
      · have hst : stops (q.drop i) = false := by rw [hstop]; simp [h93]
        have HST : Hid (stops (q.drop i) = false) := hst
        clear hst hstop
        by_cases hesc : z = 92 ∧ i + 1 < n
        · obtain ⟨rfl, h1n⟩ := hesc
          obtain ⟨z1, hz1⟩ := at_some HN.out h1n
          have hcz1 : w.cell? ⟨b, off + (i + 1), none⟩ = some (.int .u8 z1) := HQ.out (i + 1) z1 hz1
          obtain ⟨iw, iin⟩ := item_esc (c := c) HZ.out hz1
          have R1 : Hid ((i + 2) + scanN (q.drop (i + 2)) = 2 + scanN (q.drop 2)) := stepN HST.out iw hN.out
          have R2 : Hid (((bin || (z1 == c)) || scanB (q.drop (i + 2)) c) = scanB (q.drop 2) c) := stepB HST.out iw iin hB.out
          clear hz1 iw iin h93
          cases bin
          all_goals
            go_wp2
            go_roundw
            case rel => exact ⟨i + 2, _, _, by omega, by omega, by go_num, rfl, R1, R2, rfl⟩
            case measure => simp [intOf]; omega
        · by_cases hrg : i + 2 < n ∧ q[i + 1]? = some 45 ∧ q[i + 2]? ≠ some 93
          · obtain ⟨h2n, hz1, hz2⟩ := hrg
            obtain ⟨z2, hz2'⟩ := at_some HN.out h2n
            have h293 : z2 ≠ 93 := by intro e; subst e; exact hz2 hz2'
            have hn92 : z ≠ 92 := by intro e; exact hesc ⟨e, by omega⟩
            have hcz1 : w.cell? ⟨b, off + (i + 1), none⟩ = some (.int .u8 45) := HQ.out (i + 1) 45 hz1
            have hcz2 : w.cell? ⟨b, off + (i + 2), none⟩ = some (.int .u8 z2) := HQ.out (i + 2) z2 hz2'
            obtain ⟨z20, z2255⟩ := HBD.out z2 (List.mem_of_getElem? hz2')
            obtain ⟨iw, iin⟩ := item_range (c := c) HZ.out hn92 hz1 hz2' h293
            have R1 : Hid ((i + 3) + scanN (q.drop (i + 3)) = 2 + scanN (q.drop 2)) := stepN HST.out iw hN.out
            have R2 : Hid (((bin || decide (min z z2 ≤ c ∧ c ≤ max z z2)) || scanB (q.drop (i + 3)) c) = scanB (q.drop 2) c) := stepB HST.out iw iin hB.out
            have q1 : (z == 92) = false := by simp [hn92]
            have q2 : (z2 != 93) = true := by simp [h293]
            have q3 : (z != 93) = true := by simp [h93]
            clear hz1 hz2' hz2 iw iin h93 hesc hn92 h293
            cases bin
            all_goals
              go_wp2
              go_quiet (fail)
              go_wp2
            all_goals
              go_roundw
              case rel =>
                refine ⟨i + 3, _, _, by omega, by omega, by go_num, rfl, R1, ?_, rfl⟩
                show _ = _
                rw [← R2.out]
                first
                  | rfl
                  | exact congrArg (fun t => (t || scanB (q.drop (i + 3)) c)) (rg1 (by assumption) (by assumption))
                  | exact congrArg (fun t => (t || scanB (q.drop (i + 3)) c)) (rg2 (by assumption) (by assumption))
                  | exact congrArg (fun t => (t || scanB (q.drop (i + 3)) c)) (rg3 (by assumption) (by assumption))
                  | exact congrArg (fun t => (t || scanB (q.drop (i + 3)) c)) (rg4 (by assumption) (by assumption))
              case measure => simp [intOf]; omega
          · have hio : itemW (q.drop i) = 1 ∧ itemIn (q.drop i) c = (z == c) := by
              refine item_one HZ.out ?_ ?_
              · by_cases h : z = 92
                · right; rw [HN.out]; by_cases h' : i + 1 < n
                  · exact absurd ⟨h, h'⟩ hesc
                  · omega
                · exact .inl h
              · by_cases h : i + 2 < n
                · right
                  obtain ⟨z1, hz1⟩ := at_some HN.out (show i + 1 < n by omega)
                  by_cases h45 : z1 = 45
                  · right
                    subst h45
                    cases hz2 : q[i + 2]? with
                    | none => rw [List.getElem?_eq_none_iff] at hz2; have := HN.out; omega
                    | some z2 =>
                      by_cases h93' : z2 = 93
                      · rw [h93']
                      · exact absurd ⟨h, hz1, by rw [hz2]; simpa using h93'⟩ hrg
                  · exact .inl ⟨z1, hz1, h45⟩
                · left; rw [HN.out]; omega
            have R1 : Hid ((i + 1) + scanN (q.drop (i + 1)) = 2 + scanN (q.drop 2)) := stepN HST.out hio.1 hN.out
            have R2 : Hid (((bin || (z == c)) || scanB (q.drop (i + 1)) c) = scanB (q.drop 2) c) := stepB HST.out hio.1 hio.2 hB.out
            have q3 : (z != 93) = true := by simp [h93]
            clear hio
            by_cases h92 : z = 92
            · have hlast : n = i + 1 := by
                by_cases h' : i + 1 < n
                · exact absurd ⟨h92, h'⟩ hesc
                · omega
              subst h92
              have d1 : decide ((i : Int) + 1 < (n : Int)) = false := by simp; omega
              have d2 : decide ((i : Int) + 2 < (n : Int)) = false := by simp; omega
              have hge : n ≤ i + 1 := by omega
              clear hlast hesc hrg h93
              cases bin
              all_goals
                go_wp2
                go_roundw
                case rel => exact ⟨i + 1, _, _, by omega, by omega, by go_num, rfl, R1, R2, rfl⟩
                case measure => simp [intOf]; omega
            · have q1 : (z == 92) = false := by simp [h92]
              by_cases h2n : i + 2 < n
              · obtain ⟨z1, hz1⟩ := at_some HN.out (show i + 1 < n by omega)
                have hcz1 : w.cell? ⟨b, off + (i + 1), none⟩ = some (.int .u8 z1) := HQ.out (i + 1) z1 hz1
                by_cases h45 : z1 = 45
                · subst h45
                  obtain ⟨z2, hz2⟩ := at_some HN.out h2n
                  have h293 : z2 = 93 := by
                    by_cases h : z2 = 93
                    · exact h
                    · exact absurd ⟨h2n, hz1, by rw [hz2]; simpa using h⟩ hrg
                  subst h293
                  have hcz2 : w.cell? ⟨b, off + (i + 2), none⟩ = some (.int .u8 93) := HQ.out (i + 2) 93 hz2
                  clear hz1 hz2 hesc hrg h93 h92
                  cases bin
                  all_goals
                    go_wp2
                    go_roundw
                    case rel => exact ⟨i + 1, _, _, by omega, by omega, by go_num, rfl, R1, R2, rfl⟩
                    case measure => simp [intOf]; omega
                · have q45 : (z1 == 45) = false := by simp [h45]
                  clear hz1 hesc hrg h93 h92 h45
                  cases bin
                  all_goals
                    go_wp2
                    go_roundw
                    case rel => exact ⟨i + 1, _, _, by omega, by omega, by go_num, rfl, R1, R2, rfl⟩
                    case measure => simp [intOf]; omega
              · have d2 : decide ((i : Int) + 2 < (n : Int)) = false := by simp; omega
                clear hesc hrg h93 h92
                cases bin
                all_goals
                  go_wp2
                  go_roundw
                  case rel => exact ⟨i + 1, _, _, by omega, by omega, by go_num, rfl, R1, R2, rfl⟩
                  case measure => simp [intOf]; omega
    · have hst : stops (q.drop i) = true := stops_at_end (by rw [HN.out]; omega)
      have E1 := endN hst hN.out
      have E2 := endB hst hB.out
      have HE1 : Hid (i = 2 + scanN (q.drop 2)) := E1
      have HE2 : Hid (bin = scanB (q.drop 2) c) := E2
      clear E1 E2 hst
      go_wp2
      go_ret2
      refine ⟨ret_set ?_ (by rw [SB.out]; simp [HE2.out]), m, rfl⟩
      have := HE1.out
      rw [SW.out]
      omega

theorem set_any (b off n cap : Nat) (q : List Int) (c : Int) (w : World) (hq : Lies w b off q) (hn : q.length = n) (hb : n ≤ 1048576) (hc0 : 0 ≤ c) (hc1 : c ≤ 255) (hbd : ∀ z ∈ q, 0 ≤ z ∧ z ≤ 255) :
    Calls Try.prog 24 #[.slice (some ⟨b, off, none⟩) n cap, .int .u8 c] w fun e w' => e = .returned (.tuple #[.int .i64 (setW q), .bool (setIn q c)]) ∧ ∃ m, w' = w.drewN m := by
  by_cases h1 : n ≤ 1
  · exact set_short b off n cap q c w hq hn hb hc0 hc1 hbd h1
  · obtain ⟨y, hy⟩ := at_some hn (show 1 < n by omega)
    by_cases h94 : y = 94
    · subst h94; exact set_neg b off n cap q c w hq hn hb hc0 hc1 hbd (by omega) hy
    · exact set_plain b off n cap q c w hq hn hb hc0 hc1 hbd (by omega) y hy (by simp [h94])
end Go.Proofs.Qxb6600543a
