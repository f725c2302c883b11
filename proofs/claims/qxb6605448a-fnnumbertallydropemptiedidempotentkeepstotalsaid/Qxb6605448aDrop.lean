import Derived.Test.Qxb6605448aDropParts
import Derived.BigQuiet
import Derived.Deep.QuietTactic
namespace Go.Proofs.Qxb6605448a
open Go.ChangeShapes Go.WideShapes Go.ChangeAt Go.RowKit
set_option linter.unusedVariables false

theorem tal_cells {w : World} {bt : Nat} {v0 v1 v2 v3 v4 : Value} (h : Row w bt 51 [v0, v1, v2, v3, v4]) :
    w.cell? ⟨bt, 0, none⟩ = some v0 ∧ w.cell? ⟨bt, 1, none⟩ = some v1 ∧ w.cell? ⟨bt, 2, none⟩ = some v2 ∧ w.cell? ⟨bt, 3, none⟩ = some v3 ∧ w.cell? ⟨bt, 4, none⟩ = some v4 :=
  ⟨h.cell 0, h.cell 1, h.cell 2, h.cell 3, h.cell 4⟩

/-- what the call leaves -/
structure DropEnd (w w' : World) (bt bp n f : Nat) (empt : Int) (viewed : Bool) (ps : List (Int × Int × Int)) : Prop where
  out : ∃ bk r, Row w' bt 51 [.slice (some ⟨bk, 0, none⟩) (heldTo ps f (n - f)).length n, .int .i64 0, .int .i64 0, .int .u64 empt, .bool false] ∧ Row w' bk 48 (cells3 (heldTo ps f (n - f)) ++ r)
  old : ∃ qs, qs.length = n ∧ Row w' bp 48 (cells3 qs) ∧ (viewed = true → qs = ps)
  bel : Below (min bt bp) w w'

theorem DropRel.finish {w wr : World} {bt bp bk n f : Nat} {em empt : Int} {ps : List (Int × Int × Int)} {r : List Value} {viewed : Bool}
    (h : DropRel w bt bp bk n f em empt ps wr (n - f) r) (hbt : bt ≠ bk) (hbp : bt ≠ bp) (hv : viewed = true → bk ≠ bp) (m : Nat) (hm : m = (heldTo ps f (n - f)).length) :
    DropEnd w (((wr.setCell ⟨bt, 0, none⟩ (.slice (some ⟨bk, 0, none⟩) m n)).setCell ⟨bt, 1, none⟩ (.int .i64 0)).setCell ⟨bt, 2, none⟩ (.int .i64 0)) bt bp n f empt viewed ps := by
  subst hm
  obtain ⟨qs, h1, h2, h3, h4⟩ := h.old
  refine ⟨⟨bk, r, ?_, ?_⟩, ⟨qs, h1, ?_, fun hh => h3 (hv hh)⟩, ?_⟩
  · exact ((h.tal.set 0 _).set 1 _).set 2 _
  · exact ((h.kept.setOther (by exact fun e => hbt e.symm) _).setOther (by exact fun e => hbt e.symm) _).setOther (by exact fun e => hbt e.symm) _
  · exact ((h2.setOther (by exact fun e => hbp e.symm) _).setOther (by exact fun e => hbp e.symm) _).setOther (by exact fun e => hbp e.symm) _
  · exact ((h.bel.setCell (by show _ ≤ bt; omega) _).setCell (by show _ ≤ bt; omega) _).setCell (by show _ ≤ bt; omega) _


set_option maxHeartbeats 1000000 in
theorem drop_no_lt (bt bp n f : Nat) (em empt : Int) (ps : List (Int × Int × Int)) (w : World) (hn : n ≤ 1048576) (hf : f < n)
    (ht : Row w bt 51 [.slice (some ⟨bp, 0, none⟩) n n, .int .i64 f, .int .i64 em, .int .u64 empt, .bool false]) (hp : Row w bp 48 (cells3 ps)) (hps : ps.length = n) (hne : bt ≠ bp) :
    Calls Try.prog 32 #[.pointer (some ⟨bt, 0, none⟩)] w fun e w' => e = .returned (.tuple #[]) ∧ DropEnd w w' bt bp n f empt false ps := by
  obtain ⟨i48, hi48, hz48, hs48, hb48⟩ := info_parts info48
  obtain ⟨t0, t1, t2, t3, t4⟩ := tal_cells ht
  have HT : Hid (Row w bt 51 [.slice (some ⟨bp, 0, none⟩) n n, .int .i64 f, .int .i64 em, .int .u64 empt, .bool false]) := ht
  have HP : Hid (Row w bp 48 (cells3 ps)) := hp
  have HN : Hid (ps.length = n) := hps
  have hlt0 := ht.lt
  have hlp0 := hp.lt
  have f4 := ht.free 4
  clear ht hp hps
  go_enter Try.func32, Try.ntmps32
  go_wp2
  go_quiet (fail)
  go_wp2
  have HD : Hid (DropRel w bt bp bp n f em empt ps (w.drewN nq) 0 (cells3 ps)) := by
    refine ⟨HT.out.drewN nq, ?_, ?_, ⟨ps, HN.out, HP.out.drewN nq, fun _ => rfl, fun _ _ => rfl⟩, ⟨rfl, rfl, rfl, Nat.le_refl _, fun _ _ => rfl⟩⟩
    · rw [heldTo_zero]; exact HP.out.drewN nq
    · rw [heldTo_zero, cells3_length, HN.out]; rfl
  clear t0 t1 t2 t3 t4 f4
  go_loopw [2, 33] (fun v i wr => ∃ (k : Nat) (r : List Value), k ≤ n - f ∧ i = .int .i64 k ∧ (heldTo ps f k).length ≤ k ∧ v = .slice (some ⟨bp, 0, none⟩) (heldTo ps f k).length n ∧ Hid (DropRel w bt bp bp n f em empt ps wr k r) ∧ min bt bp ≤ wr.heap.size) (fun _ i _ => n - f - (intOf i).toNat)
  case atStart => exact ⟨0, _, Nat.zero_le _, rfl, heldTo_le _ _ _, by rw [heldTo_zero]; rfl, HD, by have := HD.out.bel.size; omega⟩
  case round =>
    obtain ⟨k, r, hk, rfl, hm, rfl, hrel, hsz⟩ := hrel
    clear HD HT HP
    by_cases hlt : k < n - f
    · obtain ⟨p, hpk⟩ : ∃ p, ps[f + k]? = some p := ⟨ps[f + k]'(by rw [HN.out]; omega), by simp⟩
      obtain ⟨d1, d2, d3⟩ := hrel.out.read hpk
      have HPK : Hid (ps[f + k]? = some p) := hpk
      clear hpk
      have hkept := hrel.out.kept
      have hrlen := hrel.out.rlen
      obtain ⟨p1, p2, p3⟩ := p
      simp only at d1 d2 d3
      have HKE : Hid (Row wr bp 48 (cells3 (heldTo ps f k) ++ r)) := hkept
      have HRL : Hid (r.length = (n - (heldTo ps f k).length) * 3) := hrlen
      clear hkept hrlen
      generalize hj : (heldTo ps f k).length = j at *
      have HJ : Hid ((heldTo ps f k).length = j) := hj
      clear hj
      by_cases hpos : 0 < p2
      · go_wp2_with (at_builtin; refine wpList_append_into _ rfl (.tmp 40) (.tmp 42) 46 rfl 48 i48 3 Try.underlying46 hi48 hs48 bp j n _ rfl ((HKE.out.alloc _).alloc _) ⟨wr.heap.size + 1, 0, none⟩ 1 1 [.int .u64 p1, .int .i64 p2, .int .u64 p3] rfl rfl ?c1 ?c2 ?c3 ?c4 ?_)
        case c1 =>
          intro q u hu
          match q, hu with
          | 0, hu => simp at hu; subst hu; simp [Addr.add]
          | 1, hu => simp at hu; subst hu; simp [Addr.add]
          | 2, hu => simp at hu; subst hu; simp [Addr.add]
        case c2 => intro u hu; simp at hu; rcases hu with rfl | rfl | rfl <;> rfl
        case c3 => omega
        case c4 =>
          have h1 := HRL.out
          have h2 := HJ.out
          rw [List.length_append, cells3_length, h1, h2]
          simp
          omega
        · intro w1 hrow hgr
          have hrow' := hrow
          rw [← HJ.out] at hrow'
          obtain ⟨R, hlen⟩ := hrel.out.keep HPK.out hpos hsz (by omega) (by omega) hne _ _ hrow' hgr
          have HR : Hid (DropRel w bt bp bp n f em empt ps w1 (k + 1) (r.drop 3)) := R
          have HL : Hid ((heldTo ps f (k + 1)).length = j + 1) := by unfold Hid; rw [hlen, HJ.out]
          have hs1 : min bt bp ≤ w1.heap.size := by have := hgr.size; simp at this; omega
          clear R hlen hrow hrow' hgr hrel HKE HRL d1 d2 d3
          go_wp2
          go_roundw
          case rel => exact ⟨k + 1, _, by omega, by go_num, heldTo_le _ _ _, by rw [HL.out], HR, hs1⟩
          case measure => simp [intOf]; omega
      · go_wp2
        have R := fun o => hrel.out.skip HPK.out hpos hsz o
        have HL : (heldTo ps f (k + 1)).length = j := by
          rw [heldTo_succ _ _ _ _ HPK.out, if_neg hpos, List.append_nil, HJ.out]
        go_roundw
        case rel => exact ⟨k + 1, _, by omega, by go_num, heldTo_le _ _ _, by rw [HL], R _, by simp; omega⟩
        case measure => simp [intOf]; omega
    · obtain rfl : k = n - f := by omega
      have htal := hrel.out.tal
      obtain ⟨t0, t1, t2, t3, t4⟩ := tal_cells htal
      have g0 := htal.free 0
      have g1 := htal.free 1
      have g2 := htal.free 2
      clear htal
      have HF := DropRel.finish (viewed := false) hrel.out hne hne (by simp) _ rfl
      have HFF : Hid (DropEnd w (((wr.setCell ⟨bt, 0, none⟩ (.slice (some ⟨bp, 0, none⟩) (heldTo ps f (n - f)).length n)).setCell ⟨bt, 1, none⟩ (.int .i64 0)).setCell ⟨bt, 2, none⟩ (.int .i64 0)) bt bp n f empt false ps) := HF
      clear HF hrel
      go_wp2
      go_end0
      exact ⟨rfl, HFF.out⟩

set_option maxHeartbeats 1000000 in
theorem drop_no_eq (bt bp n : Nat) (em empt : Int) (ps : List (Int × Int × Int)) (w : World) (hn : n ≤ 1048576)
    (ht : Row w bt 51 [.slice (some ⟨bp, 0, none⟩) n n, .int .i64 n, .int .i64 em, .int .u64 empt, .bool false]) (hp : Row w bp 48 (cells3 ps)) (hps : ps.length = n) (hne : bt ≠ bp) :
    Calls Try.prog 32 #[.pointer (some ⟨bt, 0, none⟩)] w fun e w' => e = .returned (.tuple #[]) ∧ DropEnd w w' bt bp n n empt false ps := by
  obtain ⟨i48, hi48, hz48, hs48, hb48⟩ := info_parts info48
  obtain ⟨t0, t1, t2, t3, t4⟩ := tal_cells ht
  have HT : Hid (Row w bt 51 [.slice (some ⟨bp, 0, none⟩) n n, .int .i64 n, .int .i64 em, .int .u64 empt, .bool false]) := ht
  have HP : Hid (Row w bp 48 (cells3 ps)) := hp
  have HN : Hid (ps.length = n) := hps
  have hlt0 := ht.lt
  have hlp0 := hp.lt
  have f4 := ht.free 4
  clear ht hp hps
  go_enter Try.func32, Try.ntmps32
  go_wp2
  go_quiet (fail)
  go_wp2
  have HD : Hid (DropRel w bt bp bp n n em empt ps (w.drewN nq) 0 (cells3 ps)) := by
    refine ⟨HT.out.drewN nq, ?_, ?_, ⟨ps, HN.out, HP.out.drewN nq, fun _ => rfl, fun _ _ => rfl⟩, ⟨rfl, rfl, rfl, Nat.le_refl _, fun _ _ => rfl⟩⟩
    · rw [heldTo_zero]; exact HP.out.drewN nq
    · rw [heldTo_zero, cells3_length, HN.out]; rfl
  clear t0 t1 t2 t3 t4 f4
  go_loopw [2, 33] (fun v i wr => ∃ (k : Nat) (r : List Value), k ≤ n - n ∧ i = .int .i64 k ∧ (heldTo ps n k).length ≤ k ∧ v = .slice (some ⟨bp, 0, none⟩) (heldTo ps n k).length n ∧ Hid (DropRel w bt bp bp n n em empt ps wr k r) ∧ min bt bp ≤ wr.heap.size) (fun _ i _ => n - n - (intOf i).toNat)
  case atStart => exact ⟨0, _, Nat.zero_le _, rfl, heldTo_le _ _ _, by rw [heldTo_zero]; rfl, HD, by have := HD.out.bel.size; omega⟩
  case round =>
    obtain ⟨k, r, hk, rfl, hm, rfl, hrel, hsz⟩ := hrel
    clear HD HT HP
    by_cases hlt : k < n - n
    · omega
    · obtain rfl : k = n - n := by omega
      have htal := hrel.out.tal
      obtain ⟨t0, t1, t2, t3, t4⟩ := tal_cells htal
      have g0 := htal.free 0
      have g1 := htal.free 1
      have g2 := htal.free 2
      clear htal
      have HF := DropRel.finish (viewed := false) hrel.out hne hne (by simp) _ rfl
      have HFF : Hid (DropEnd w (((wr.setCell ⟨bt, 0, none⟩ (.slice (some ⟨bp, 0, none⟩) (heldTo ps n (n - n)).length n)).setCell ⟨bt, 1, none⟩ (.int .i64 0)).setCell ⟨bt, 2, none⟩ (.int .i64 0)) bt bp n n empt false ps) := HF
      clear HF hrel
      go_wp2
      go_end0
      have h := HFF.out
      rw [Nat.sub_self] at h
      exact ⟨rfl, h⟩

set_option maxHeartbeats 1000000 in
theorem drop_yes_lt (bt bp n f : Nat) (em empt : Int) (ps : List (Int × Int × Int)) (w : World) (hn : n ≤ 1048576) (hf : f < n)
    (ht : Row w bt 51 [.slice (some ⟨bp, 0, none⟩) n n, .int .i64 f, .int .i64 em, .int .u64 empt, .bool true]) (hp : Row w bp 48 (cells3 ps)) (hps : ps.length = n) (hne : bt ≠ bp) :
    Calls Try.prog 32 #[.pointer (some ⟨bt, 0, none⟩)] w fun e w' => e = .returned (.tuple #[]) ∧ DropEnd w w' bt bp n f empt true ps := by
  obtain ⟨i48, hi48, hz48, hs48, hb48⟩ := info_parts info48
  obtain ⟨t0, t1, t2, t3, t4⟩ := tal_cells ht
  have HT : Hid (Row w bt 51 [.slice (some ⟨bp, 0, none⟩) n n, .int .i64 f, .int .i64 em, .int .u64 empt, .bool true]) := ht
  have HP : Hid (Row w bp 48 (cells3 ps)) := hp
  have HN : Hid (ps.length = n) := hps
  have hlt0 := ht.lt
  have hlp0 := hp.lt
  have f4 := ht.free 4
  clear ht hp hps
  go_enter Try.func32, Try.ntmps32
  go_wp2_with (at_make; refine wpList_make_cap _ rfl _ _ 46 rfl 48 i48 (.agg #[.int .u64 0, .int .i64 0, .int .u64 0]) 3 Try.underlying46 hi48 hz48 hs48 .i64 .i64 _ n rfl rfl rfl (by rw [hb48]; omega) (by unfold maxLen; omega) ?_; intro w1 cur hcl hrow hbel; have u0 := (hbel.cell (p := ⟨bt, 0, none⟩) hlt0).trans t0; have u1 := (hbel.cell (p := ⟨bt, 1, none⟩) hlt0).trans t1; have u4 := (hbel.cell (p := ⟨bt, 4, none⟩) hlt0).trans t4; have v4 := (hbel.frozen (p := ⟨bt, 4, none⟩) hlt0).trans f4)
  go_quiet (fail)
  go_wp2
  have HD : Hid (DropRel w bt bp w.heap.size n f em empt ps ((w1.setCell ⟨bt, 4, none⟩ (.bool false)).drewN nq) 0 cur) := by
    refine ⟨?_, ?_, ?_, ⟨ps, HN.out, ?_, fun _ => rfl, fun _ _ => rfl⟩, ?_⟩
    · exact ((HT.out.below hbel hlt0).set 4 (.bool false)).drewN nq
    · rw [heldTo_zero]; exact (hrow.setOther (by show _ ≠ bt; omega) _).drewN nq
    · rw [heldTo_zero]; simpa using hcl
    · exact ((HP.out.below hbel hlp0).setOther (by exact fun e => hne e.symm) _).drewN nq
    · have := (hbel.mono (B' := min bt bp) (by omega)).setCell (p := ⟨bt, 4, none⟩) (by show _ ≤ bt; omega) (.bool false)
      exact ⟨this.os, this.tape, this.output, this.size, this.block⟩
  clear u0 u1 u4 v4 hrow hbel
  clear t0 t1 t2 t3 t4 f4
  go_loopw [2, 33] (fun v i wr => ∃ (k : Nat) (r : List Value), k ≤ n - f ∧ i = .int .i64 k ∧ (heldTo ps f k).length ≤ k ∧ v = .slice (some ⟨w.heap.size, 0, none⟩) (heldTo ps f k).length n ∧ Hid (DropRel w bt bp w.heap.size n f em empt ps wr k r) ∧ min bt bp ≤ wr.heap.size) (fun _ i _ => n - f - (intOf i).toNat)
  case atStart => exact ⟨0, _, Nat.zero_le _, rfl, heldTo_le _ _ _, by rw [heldTo_zero]; rfl, HD, by have := HD.out.bel.size; omega⟩
  case round =>
    obtain ⟨k, r, hk, rfl, hm, rfl, hrel, hsz⟩ := hrel
    clear HD HT HP
    by_cases hlt : k < n - f
    · obtain ⟨p, hpk⟩ : ∃ p, ps[f + k]? = some p := ⟨ps[f + k]'(by rw [HN.out]; omega), by simp⟩
      obtain ⟨d1, d2, d3⟩ := hrel.out.read hpk
      have HPK : Hid (ps[f + k]? = some p) := hpk
      clear hpk
      have hkept := hrel.out.kept
      have hrlen := hrel.out.rlen
      obtain ⟨p1, p2, p3⟩ := p
      simp only at d1 d2 d3
      have HKE : Hid (Row wr w.heap.size 48 (cells3 (heldTo ps f k) ++ r)) := hkept
      have HRL : Hid (r.length = (n - (heldTo ps f k).length) * 3) := hrlen
      clear hkept hrlen
      generalize hj : (heldTo ps f k).length = j at *
      have HJ : Hid ((heldTo ps f k).length = j) := hj
      clear hj
      by_cases hpos : 0 < p2
      · go_wp2_with (at_builtin; refine wpList_append_into _ rfl (.tmp 40) (.tmp 42) 46 rfl 48 i48 3 Try.underlying46 hi48 hs48 w.heap.size j n _ rfl ((HKE.out.alloc _).alloc _) ⟨wr.heap.size + 1, 0, none⟩ 1 1 [.int .u64 p1, .int .i64 p2, .int .u64 p3] rfl rfl ?c1 ?c2 ?c3 ?c4 ?_)
        case c1 =>
          intro q u hu
          match q, hu with
          | 0, hu => simp at hu; subst hu; simp [Addr.add]
          | 1, hu => simp at hu; subst hu; simp [Addr.add]
          | 2, hu => simp at hu; subst hu; simp [Addr.add]
        case c2 => intro u hu; simp at hu; rcases hu with rfl | rfl | rfl <;> rfl
        case c3 => omega
        case c4 =>
          have h1 := HRL.out
          have h2 := HJ.out
          rw [List.length_append, cells3_length, h1, h2]
          simp
          omega
        · intro w1 hrow hgr
          have hrow' := hrow
          rw [← HJ.out] at hrow'
          obtain ⟨R, hlen⟩ := hrel.out.keep HPK.out hpos hsz (by omega) (by omega) (by omega) _ _ hrow' hgr
          have HR : Hid (DropRel w bt bp w.heap.size n f em empt ps w1 (k + 1) (r.drop 3)) := R
          have HL : Hid ((heldTo ps f (k + 1)).length = j + 1) := by unfold Hid; rw [hlen, HJ.out]
          have hs1 : min bt bp ≤ w1.heap.size := by have := hgr.size; simp at this; omega
          clear R hlen hrow hrow' hgr hrel HKE HRL d1 d2 d3
          go_wp2
          go_roundw
          case rel => exact ⟨k + 1, _, by omega, by go_num, heldTo_le _ _ _, by rw [HL.out], HR, hs1⟩
          case measure => simp [intOf]; omega
      · go_wp2
        have R := fun o => hrel.out.skip HPK.out hpos hsz o
        have HL : (heldTo ps f (k + 1)).length = j := by
          rw [heldTo_succ _ _ _ _ HPK.out, if_neg hpos, List.append_nil, HJ.out]
        go_roundw
        case rel => exact ⟨k + 1, _, by omega, by go_num, heldTo_le _ _ _, by rw [HL], R _, by simp; omega⟩
        case measure => simp [intOf]; omega
    · obtain rfl : k = n - f := by omega
      have htal := hrel.out.tal
      obtain ⟨t0, t1, t2, t3, t4⟩ := tal_cells htal
      have g0 := htal.free 0
      have g1 := htal.free 1
      have g2 := htal.free 2
      clear htal
      have HF := DropRel.finish (viewed := true) hrel.out (by omega) hne (fun _ => by omega) _ rfl
      have HFF : Hid (DropEnd w (((wr.setCell ⟨bt, 0, none⟩ (.slice (some ⟨w.heap.size, 0, none⟩) (heldTo ps f (n - f)).length n)).setCell ⟨bt, 1, none⟩ (.int .i64 0)).setCell ⟨bt, 2, none⟩ (.int .i64 0)) bt bp n f empt true ps) := HF
      clear HF hrel
      go_wp2
      go_end0
      exact ⟨rfl, HFF.out⟩

set_option maxHeartbeats 1000000 in
theorem drop_yes_eq (bt bp n : Nat) (em empt : Int) (ps : List (Int × Int × Int)) (w : World) (hn : n ≤ 1048576)
    (ht : Row w bt 51 [.slice (some ⟨bp, 0, none⟩) n n, .int .i64 n, .int .i64 em, .int .u64 empt, .bool true]) (hp : Row w bp 48 (cells3 ps)) (hps : ps.length = n) (hne : bt ≠ bp) :
    Calls Try.prog 32 #[.pointer (some ⟨bt, 0, none⟩)] w fun e w' => e = .returned (.tuple #[]) ∧ DropEnd w w' bt bp n n empt true ps := by
  obtain ⟨i48, hi48, hz48, hs48, hb48⟩ := info_parts info48
  obtain ⟨t0, t1, t2, t3, t4⟩ := tal_cells ht
  have HT : Hid (Row w bt 51 [.slice (some ⟨bp, 0, none⟩) n n, .int .i64 n, .int .i64 em, .int .u64 empt, .bool true]) := ht
  have HP : Hid (Row w bp 48 (cells3 ps)) := hp
  have HN : Hid (ps.length = n) := hps
  have hlt0 := ht.lt
  have hlp0 := hp.lt
  have f4 := ht.free 4
  clear ht hp hps
  go_enter Try.func32, Try.ntmps32
  go_wp2_with (at_make; refine wpList_make_cap _ rfl _ _ 46 rfl 48 i48 (.agg #[.int .u64 0, .int .i64 0, .int .u64 0]) 3 Try.underlying46 hi48 hz48 hs48 .i64 .i64 _ n rfl rfl rfl (by rw [hb48]; omega) (by unfold maxLen; omega) ?_; intro w1 cur hcl hrow hbel; have u0 := (hbel.cell (p := ⟨bt, 0, none⟩) hlt0).trans t0; have u1 := (hbel.cell (p := ⟨bt, 1, none⟩) hlt0).trans t1; have u4 := (hbel.cell (p := ⟨bt, 4, none⟩) hlt0).trans t4; have v4 := (hbel.frozen (p := ⟨bt, 4, none⟩) hlt0).trans f4)
  go_quiet (fail)
  go_wp2
  have HD : Hid (DropRel w bt bp w.heap.size n n em empt ps ((w1.setCell ⟨bt, 4, none⟩ (.bool false)).drewN nq) 0 cur) := by
    refine ⟨?_, ?_, ?_, ⟨ps, HN.out, ?_, fun _ => rfl, fun _ _ => rfl⟩, ?_⟩
    · exact ((HT.out.below hbel hlt0).set 4 (.bool false)).drewN nq
    · rw [heldTo_zero]; exact (hrow.setOther (by show _ ≠ bt; omega) _).drewN nq
    · rw [heldTo_zero]; simpa using hcl
    · exact ((HP.out.below hbel hlp0).setOther (by exact fun e => hne e.symm) _).drewN nq
    · have := (hbel.mono (B' := min bt bp) (by omega)).setCell (p := ⟨bt, 4, none⟩) (by show _ ≤ bt; omega) (.bool false)
      exact ⟨this.os, this.tape, this.output, this.size, this.block⟩
  clear u0 u1 u4 v4 hrow hbel
  clear t0 t1 t2 t3 t4 f4
  go_loopw [2, 33] (fun v i wr => ∃ (k : Nat) (r : List Value), k ≤ n - n ∧ i = .int .i64 k ∧ (heldTo ps n k).length ≤ k ∧ v = .slice (some ⟨w.heap.size, 0, none⟩) (heldTo ps n k).length n ∧ Hid (DropRel w bt bp w.heap.size n n em empt ps wr k r) ∧ min bt bp ≤ wr.heap.size) (fun _ i _ => n - n - (intOf i).toNat)
  case atStart => exact ⟨0, _, Nat.zero_le _, rfl, heldTo_le _ _ _, by rw [heldTo_zero]; rfl, HD, by have := HD.out.bel.size; omega⟩
  case round =>
    obtain ⟨k, r, hk, rfl, hm, rfl, hrel, hsz⟩ := hrel
    clear HD HT HP
    by_cases hlt : k < n - n
    · omega
    · obtain rfl : k = n - n := by omega
      have htal := hrel.out.tal
      obtain ⟨t0, t1, t2, t3, t4⟩ := tal_cells htal
      have g0 := htal.free 0
      have g1 := htal.free 1
      have g2 := htal.free 2
      clear htal
      have HF := DropRel.finish (viewed := true) hrel.out (by omega) hne (fun _ => by omega) _ rfl
      have HFF : Hid (DropEnd w (((wr.setCell ⟨bt, 0, none⟩ (.slice (some ⟨w.heap.size, 0, none⟩) (heldTo ps n (n - n)).length n)).setCell ⟨bt, 1, none⟩ (.int .i64 0)).setCell ⟨bt, 2, none⟩ (.int .i64 0)) bt bp n n empt true ps) := HF
      clear HF hrel
      go_wp2
      go_end0
      have h := HFF.out
      rw [Nat.sub_self] at h
      exact ⟨rfl, h⟩

theorem drop_any (bt bp n f : Nat) (em empt : Int) (viewed : Bool) (ps : List (Int × Int × Int)) (w : World) (hn : n ≤ 1048576) (hf : f ≤ n)
    (ht : Row w bt 51 [.slice (some ⟨bp, 0, none⟩) n n, .int .i64 f, .int .i64 em, .int .u64 empt, .bool viewed]) (hp : Row w bp 48 (cells3 ps)) (hps : ps.length = n) (hne : bt ≠ bp) :
    Calls Try.prog 32 #[.pointer (some ⟨bt, 0, none⟩)] w fun e w' => e = .returned (.tuple #[]) ∧ DropEnd w w' bt bp n f empt viewed ps := by
  rcases Nat.lt_or_eq_of_le hf with h | h
  · cases viewed with
    | false => exact drop_no_lt bt bp n f em empt ps w hn h ht hp hps hne
    | true => exact drop_yes_lt bt bp n f em empt ps w hn h ht hp hps hne
  · subst h
    cases viewed with
    | false => exact drop_no_eq bt bp f em empt ps w hn ht hp hps hne
    | true => exact drop_yes_eq bt bp f em empt ps w hn ht hp hps hne

end Go.Proofs.Qxb6605448a
