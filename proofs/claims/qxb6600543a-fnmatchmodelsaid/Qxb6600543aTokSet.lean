import Derived.Test.Qxb6600543aTok
namespace Go.Proofs.Qxb6600543a
open Go.ChangeShapes Go.WideShapes Go.ChangeAt Go.RowKit
set_option linter.unusedVariables false

/-- The memory of zzNextTok at a set. -/
structure TS (w wr : World) (G1 G2 G3 b off : Nat) (pat : List Int) (f h : Nat → Bool) : Prop where
  tr : TR w wr G1 G2 b off pat f
  r3 : Row wr G3 33 (clsRow h)
theorem TS.mark {w wr : World} {G1 G2 G3 b off : Nat} {pat : List Int} {f h : Nat → Bool} (H : TS w wr G1 G2 G3 b off pat f h) (h1 : w.heap.size ≤ G1) (h2 : G1 < G2) (h3 : G2 < G3) (hb : b < w.heap.size) (x : Nat) (v : Bool) :
    TS w (wr.setCell ⟨G3, x, none⟩ (.bool v)) G1 G2 G3 b off pat f (upd h x v) := by
  refine ⟨⟨H.tr.r1.setOther (by show _ ≠ G3; omega) _, H.tr.r2.setOther (by show _ ≠ G3; omega) _, ?_, H.tr.bel.setCell (by show _ ≤ G3; omega) _⟩, ?_⟩
  · intro i z hz
    have e : (wr.setCell ⟨G3, x, none⟩ (.bool v)).cell? ⟨b, off + i, none⟩ = wr.cell? ⟨b, off + i, none⟩ :=
      World.cell?_of_block (Below.heap_setCell _ _ _ _ (by show b ≠ G3; omega))
    rw [e]; exact H.tr.src i z hz
  · have := H.r3.set x (.bool v)
    rwa [clsRow_set] at this
theorem TS.put {w wr : World} {G1 G2 G3 b off : Nat} {pat : List Int} {f h : Nat → Bool} (H : TS w wr G1 G2 G3 b off pat f h) (h1 : w.heap.size ≤ G1) (h2 : G1 < G2) (h3 : G2 < G3) (hb : b < w.heap.size) (x : Nat) (v : Bool) :
    TS w (wr.setCell ⟨G2, 1 + x, none⟩ (.bool v)) G1 G2 G3 b off pat (upd f x v) h :=
  ⟨H.tr.set h1 h2 hb x v, H.r3.setOther (by show _ ≠ G2; omega) _⟩
theorem TS.row {w wr : World} {G1 G2 G3 b off : Nat} {pat : List Int} {f h : Nat → Bool} (H : TS w wr G1 G2 G3 b off pat f h) (x : Nat) (hx : x < 256) : wr.cell? ⟨G3, x, none⟩ = some (.bool (h x)) := by
  rw [H.r3.cell]; exact clsRow_at _ _ hx
theorem upd_mark (h : Nat → Bool) (z x : Nat) : (h x || ((z : Int) == (x : Int))) = upd h z true x := by
  unfold upd
  by_cases e : x = z
  · subst e; simp
  · rw [if_neg e]
    have : ((z : Int) == (x : Int)) = false := by rw [beq_eq_false_iff_ne]; omega
    rw [this, Bool.or_false]
def rng (h : Nat → Bool) (lo k : Nat) : Nat → Bool := fun y => h y || (decide (lo ≤ y) && decide (y < k))
theorem rng_zero (h : Nat → Bool) (lo : Nat) : rng h lo lo = h := by
  funext y; unfold rng
  by_cases e : lo ≤ y
  · have : ¬ y < lo := by omega
    simp [this]
  · simp [e]
theorem rng_succ (h : Nat → Bool) (lo k : Nat) (hk : lo ≤ k) : upd (rng h lo k) k true = rng h lo (k + 1) := by
  funext y; unfold upd rng
  by_cases e : y = k
  · subst e; simp [hk]
  · rw [if_neg e]
    by_cases e2 : y < k
    · have : y < k + 1 := by omega
      simp [e2, this]
    · have : ¬ y < k + 1 := by omega
      simp [e2, this]
theorem rng_in (h : Nat → Bool) (z z2 x : Nat) : (h x || decide (min (z : Int) (z2 : Int) ≤ (x : Int) ∧ (x : Int) ≤ max (z : Int) (z2 : Int))) = rng h (min z z2) (max z z2 + 1) x := by
  unfold rng
  congr 1
  rw [← Bool.decide_and]
  apply decide_eq_decide.2
  omega
def outTo (h : Nat → Bool) (ng : Bool) (k : Nat) : Nat → Bool := fun y => decide (y < k) && (h y != ng)
theorem outTo_succ (h : Nat → Bool) (ng : Bool) (k : Nat) : upd (outTo h ng k) k (h k != ng) = outTo h ng (k + 1) := by
  funext y; unfold upd outTo
  by_cases e : y = k
  · subst e; simp
  · rw [if_neg e]
    by_cases e2 : y < k
    · have : y < k + 1 := by omega
      simp [e2, this]
    · have : ¬ y < k + 1 := by omega
      simp [e2, this]
theorem outTo_zero (h : Nat → Bool) (ng : Bool) : outTo h ng 0 = fun _ => false := by
  funext y; simp [outTo]


set_option maxRecDepth 100000 in
set_option maxHeartbeats 16000000 in
theorem next_setA (b off n cap p : Nat) (pat : List Int) (w : World) (hL : Lies w b off pat) (hn : pat.length = n) (hp : p < n) (hb : n ≤ 1048576) (hbd : ∀ z ∈ pat, 0 ≤ z ∧ z ≤ 255) (hz : pat[p]? = some 91) (h1 : n ≤ p + 1) :
    Calls Try.prog 20 #[.slice (some ⟨b, off, none⟩) n cap, .int .i64 p] w fun e w' => e = .returned (.tuple #[.agg (tokCells pat p).toArray, .int .i64 (p + tokW (pat.drop p) : Nat)]) ∧ Below w.heap.size w w' := by
  have hlt0 : b < w.heap.size := block_lt_of_cell (hL p _ hz)
  have HL : Hid (Lies w b off pat) := hL
  have HN : Hid (pat.length = n) := hn
  have HBD : Hid (∀ z ∈ pat, 0 ≤ z ∧ z ≤ 255) := hbd
  have hz0 : (pat.drop p)[0]? = some 91 := by rw [List.getElem?_drop]; exact hz
  have HNEG : Hid (neg (pat.drop p) = false) := by unfold Hid neg; rw [List.getElem?_drop]; rw [List.getElem?_eq_none (by omega)]; rfl
  have HC : Hid (tokCells pat p = tokRow false (fun x => tokIn (pat.drop p) (x : Int))) := by unfold Hid tokCells; rw [if_neg (by rw [hz]; simp)]
  have HI : Hid (∀ x : Int, tokIn (pat.drop p) x = (scanB (pat.drop (p + 1)) x != false)) := by
    intro x
    rw [(tok_set hz0).2]; unfold setIn body; rw [HNEG.out, List.drop_drop]; rfl
  have HW : Hid (p + tokW (pat.drop p) = min (p + 1 + scanN (pat.drop (p + 1)) + 1) n) := by
    unfold Hid
    rw [(tok_set (c := 0) hz0).1]; unfold setW body; rw [HNEG.out, List.drop_drop]
    have h1 : (pat.drop p).length = n - p := by simp [hn]
    rw [h1]
    simp only [Bool.false_eq_true, if_false]
    omega
  have HZ : Hid (pat[p]? = some 91) := hz
  have hd1 : decide ((p : Int) + 1 < (n : Int)) = false := by simp; omega
  clear hL hn hz hbd hz0
  go_enter Try.func20, Try.ntmps20
  go_wp2_with (refine wpList_alloc_row _ rfl 35 rfl _ _ zero35 ?_)
  intro w1 hr1 hb1
  go_wp2_with (refine wpList_alloc_row _ rfl 35 rfl _ _ zero35 ?_)
  intro w2 hr2 hb2
  have hs1 := hr1.lt
  have hs2 := hr2.lt
  have hT := TR.start HL.out hr1 hb1 hr2 hb2
  have HT : Hid (TR w w2 w.heap.size w1.heap.size b off pat (fun _ => false)) := hT
  clear hr1 hb1 hr2 hb2 hT
  generalize hG : w1.heap.size = G2 at *
  clear hG
  have hc2 : w2.cell? ⟨b, off + p, none⟩ = some (.int .u8 91) := HT.out.src p _ HZ.out
  go_wp2_with (refine wpList_alloc_row _ rfl 33 rfl _ _ zero33 ?_)
  intro w3 hr3 hb3
  have HS : Hid (TS w w3 w.heap.size G2 w2.heap.size b off pat (fun _ => false) (fun _ => false)) := by
    refine ⟨⟨HT.out.r1.below hb3 HT.out.r1.lt, HT.out.r2.below hb3 HT.out.r2.lt, ?_, HT.out.bel.trans (hb3.mono HT.out.bel.size)⟩, hr3⟩
    intro i z hz
    have e1 := HT.out.src i z hz
    exact (hb3.cell (p := ⟨b, off + i, none⟩) (block_lt_of_cell e1)).trans e1
  generalize hG3 : w2.heap.size = G3 at *
  clear hG3 hr3 hb3 HT hc2 
  go_wp2_with fail
  go_loopw [9] (fun jv wr => ∃ (j : Nat) (h : Nat → Bool), p + 1 ≤ j ∧ j ≤ n ∧ jv = .int .i64 j ∧ Hid (TS w wr w.heap.size G2 G3 b off pat (fun _ => false) h) ∧ Hid (j + scanN (pat.drop j) = p + 1 + scanN (pat.drop (p + 1))) ∧ Hid (∀ x : Nat, x < 256 → (h x || scanB (pat.drop j) (x : Int)) = scanB (pat.drop (p + 1)) (x : Int))) (fun jv _ => n + 1 - (intOf jv).toNat)
  case atStart => exact ⟨p + 1, _, Nat.le_refl _, by omega, by go_num, HS, rfl, fun x hx => by simp⟩
  case round =>
    obtain ⟨j, h, hj1, hj2, rfl, hS, hN, hB⟩ := hrel
    clear HS
    by_cases hlt : j < n
    · omega
    · obtain rfl : j = n := by omega
      have hst : stops (pat.drop j) = true := stops_at_end (by rw [HN.out]; exact Nat.le_refl _)
      have E1 := endN hst hN.out
      have HE1 : Hid (j = p + 1 + scanN (pat.drop (p + 1))) := E1
      have HE2 : Hid (∀ x : Nat, x < 256 → h x = scanB (pat.drop (p + 1)) (x : Int)) := fun x hx => endB hst (hB.out x hx)
      have hnx : Hid (p + tokW (pat.drop p) = j) := by unfold Hid; rw [HW.out]; omega
      clear E1 hst
      go_wp2
      go_loopw [15] (fun xv wr2 => ∃ k : Nat, k ≤ 256 ∧ xv = .int .i64 k ∧ Hid (TS w wr2 w.heap.size G2 G3 b off pat (outTo h false k) h)) (fun xv _ => 256 - (intOf xv).toNat)
      case atStart => exact ⟨0, by omega, rfl, by unfold Hid; rw [outTo_zero]; exact hS.out⟩
      case round =>
        obtain ⟨k, hk, rfl, hR⟩ := hrel
        clear hS
        by_cases hltk : k < 256
        · have hgk := hR.out.row k hltk
          have hgz := hR.out.tr.row k hltk
          have hfz := hR.out.tr.r2.free (1 + k)
          have R : Hid (TS w (wr.setCell ⟨G2, 1 + k, none⟩ (.bool (h k))) w.heap.size G2 G3 b off pat (outTo h false (k + 1)) h) := by
            have h1 := hR.out.put (Nat.le_refl _) hs1 hs2 hlt0 k (h k != false)
            rw [outTo_succ] at h1
            have e : (h k != false) = (h k) := by cases h k <;> rfl
            rw [e] at h1
            exact h1
          generalize h k = hkv at *
          go_wp2
          go_roundw
          case rel => exact ⟨k + 1, by omega, by go_num, R⟩
          case measure => simp [intOf]; omega
        · obtain rfl : k = 256 := by omega
          go_wp2_with (first
            | (refine wpList_load_tok _ rfl (.tmp 6) rfl G2 false (outTo h false 256) rfl hR.out.tr.r2 ?_)
            | (refine wpList_store_tok _ rfl (.tmp 4) (.tmp 184) rfl w.heap.size false false (outTo h false 256) (fun _ => false) rfl rfl hR.out.tr.r1 ?_; intro w9 hr9 hg9 hz9))
          refine bodyPost_ret (v := .tuple #[.agg (tokRow false (outTo h false 256)).toArray, .int .i64 ((j : Int))]) (tok_results _ rfl rfl hr9) rfl ⟨ret_tokv ?_ ?_, ?_⟩
          · rw [HC.out]
            exact tokRow_congr (fun x hx => by rw [HI.out, ← HE2.out x hx]; simp [outTo, hx])
          · have h9 := hnx.out; omega
          · exact hR.out.tr.bel.grown hg9 (by have := hR.out.tr.bel.size; exact this) (by intro k hk; simp at hk; omega)

set_option maxRecDepth 100000 in
set_option maxHeartbeats 16000000 in
theorem next_setB (b off n cap p : Nat) (pat : List Int) (w : World) (hL : Lies w b off pat) (hn : pat.length = n) (hp : p < n) (hb : n ≤ 1048576) (hbd : ∀ z ∈ pat, 0 ≤ z ∧ z ≤ 255) (hz : pat[p]? = some 91) (h1 : p + 1 < n) (y : Int) (hy : pat[p + 1]? = some y) (h94 : (y == 94) = false) :
    Calls Try.prog 20 #[.slice (some ⟨b, off, none⟩) n cap, .int .i64 p] w fun e w' => e = .returned (.tuple #[.agg (tokCells pat p).toArray, .int .i64 (p + tokW (pat.drop p) : Nat)]) ∧ Below w.heap.size w w' := by
  have hlt0 : b < w.heap.size := block_lt_of_cell (hL p _ hz)
  have HL : Hid (Lies w b off pat) := hL
  have HN : Hid (pat.length = n) := hn
  have HBD : Hid (∀ z ∈ pat, 0 ≤ z ∧ z ≤ 255) := hbd
  have hz0 : (pat.drop p)[0]? = some 91 := by rw [List.getElem?_drop]; exact hz
  have HNEG : Hid (neg (pat.drop p) = false) := by unfold Hid neg; rw [List.getElem?_drop]; rw [hy]; simpa using h94
  have HC : Hid (tokCells pat p = tokRow false (fun x => tokIn (pat.drop p) (x : Int))) := by unfold Hid tokCells; rw [if_neg (by rw [hz]; simp)]
  have HI : Hid (∀ x : Int, tokIn (pat.drop p) x = (scanB (pat.drop (p + 1)) x != false)) := by
    intro x
    rw [(tok_set hz0).2]; unfold setIn body; rw [HNEG.out, List.drop_drop]; rfl
  have HW : Hid (p + tokW (pat.drop p) = min (p + 1 + scanN (pat.drop (p + 1)) + 1) n) := by
    unfold Hid
    rw [(tok_set (c := 0) hz0).1]; unfold setW body; rw [HNEG.out, List.drop_drop]
    have h1 : (pat.drop p).length = n - p := by simp [hn]
    rw [h1]
    simp only [Bool.false_eq_true, if_false]
    omega
  have HZ : Hid (pat[p]? = some 91) := hz
  have HY : Hid (pat[p + 1]? = some y) := hy
  clear hy
  clear hL hn hz hbd hz0
  go_enter Try.func20, Try.ntmps20
  go_wp2_with (refine wpList_alloc_row _ rfl 35 rfl _ _ zero35 ?_)
  intro w1 hr1 hb1
  go_wp2_with (refine wpList_alloc_row _ rfl 35 rfl _ _ zero35 ?_)
  intro w2 hr2 hb2
  have hs1 := hr1.lt
  have hs2 := hr2.lt
  have hT := TR.start HL.out hr1 hb1 hr2 hb2
  have HT : Hid (TR w w2 w.heap.size w1.heap.size b off pat (fun _ => false)) := hT
  clear hr1 hb1 hr2 hb2 hT
  generalize hG : w1.heap.size = G2 at *
  clear hG
  have hc2 : w2.cell? ⟨b, off + p, none⟩ = some (.int .u8 91) := HT.out.src p _ HZ.out
  have hcy : w2.cell? ⟨b, off + (p + 1), none⟩ = some (.int .u8 y) := HT.out.src (p + 1) _ HY.out
  go_wp2_with (refine wpList_alloc_row _ rfl 33 rfl _ _ zero33 ?_)
  intro w3 hr3 hb3
  have HS : Hid (TS w w3 w.heap.size G2 w2.heap.size b off pat (fun _ => false) (fun _ => false)) := by
    refine ⟨⟨HT.out.r1.below hb3 HT.out.r1.lt, HT.out.r2.below hb3 HT.out.r2.lt, ?_, HT.out.bel.trans (hb3.mono HT.out.bel.size)⟩, hr3⟩
    intro i z hz
    have e1 := HT.out.src i z hz
    exact (hb3.cell (p := ⟨b, off + i, none⟩) (block_lt_of_cell e1)).trans e1
  generalize hG3 : w2.heap.size = G3 at *
  clear hG3 hr3 hb3 HT hc2 hcy
  go_wp2_with fail
  go_loopw [9] (fun jv wr => ∃ (j : Nat) (h : Nat → Bool), p + 1 ≤ j ∧ j ≤ n ∧ jv = .int .i64 j ∧ Hid (TS w wr w.heap.size G2 G3 b off pat (fun _ => false) h) ∧ Hid (j + scanN (pat.drop j) = p + 1 + scanN (pat.drop (p + 1))) ∧ Hid (∀ x : Nat, x < 256 → (h x || scanB (pat.drop j) (x : Int)) = scanB (pat.drop (p + 1)) (x : Int))) (fun jv _ => n + 1 - (intOf jv).toNat)
  case atStart => exact ⟨p + 1, _, Nat.le_refl _, by omega, by go_num, HS, rfl, fun x hx => by simp⟩
  case round =>
    obtain ⟨j, h, hj1, hj2, rfl, hS, hN, hB⟩ := hrel
    clear HS
    by_cases hlt : j < n
    · obtain ⟨z', hz⟩ := at_some HN.out hlt
      obtain ⟨z0', z255'⟩ := HBD.out z' (List.mem_of_getElem? hz)
      obtain ⟨z, rfl⟩ := nat_of z0'
      have z255 : z < 256 := by omega
      clear z0' z255'
      have hcz : wr.cell? ⟨b, off + j, none⟩ = some (.int .u8 (z : Int)) := hS.out.tr.src j _ hz
      have hstop := stops_at (z : Int) hz
      have HZj : Hid (pat[j]? = some (z : Int)) := hz
      clear hz
      by_cases h93 : (z : Int) = 93
      · have hst : stops (pat.drop j) = true := by rw [hstop, h93]; rfl
        have E1 := endN hst hN.out
        have HE1 : Hid (j = p + 1 + scanN (pat.drop (p + 1))) := E1
        have HE2 : Hid (∀ x : Nat, x < 256 → h x = scanB (pat.drop (p + 1)) (x : Int)) := fun x hx => endB hst (hB.out x hx)
        have hnx : Hid (p + tokW (pat.drop p) = j + 1) := by unfold Hid; rw [HW.out]; omega
        clear E1 hst hstop
        obtain rfl : z = 93 := by omega
        go_wp2
        go_loopw [15] (fun xv wr2 => ∃ k : Nat, k ≤ 256 ∧ xv = .int .i64 k ∧ Hid (TS w wr2 w.heap.size G2 G3 b off pat (outTo h false k) h)) (fun xv _ => 256 - (intOf xv).toNat)
        case atStart => exact ⟨0, by omega, rfl, by unfold Hid; rw [outTo_zero]; exact hS.out⟩
        case round =>
          obtain ⟨k, hk, rfl, hR⟩ := hrel
          clear hS
          by_cases hltk : k < 256
          · have hgk := hR.out.row k hltk
            have hgz := hR.out.tr.row k hltk
            have hfz := hR.out.tr.r2.free (1 + k)
            have R : Hid (TS w (wr.setCell ⟨G2, 1 + k, none⟩ (.bool (h k))) w.heap.size G2 G3 b off pat (outTo h false (k + 1)) h) := by
              have h1 := hR.out.put (Nat.le_refl _) hs1 hs2 hlt0 k (h k != false)
              rw [outTo_succ] at h1
              have e : (h k != false) = (h k) := by cases h k <;> rfl
              rw [e] at h1
              exact h1
            generalize h k = hkv at *
            go_wp2
            go_roundw
            case rel => exact ⟨k + 1, by omega, by go_num, R⟩
            case measure => simp [intOf]; omega
          · obtain rfl : k = 256 := by omega
            go_wp2_with (first
              | (refine wpList_load_tok _ rfl (.tmp 6) rfl G2 false (outTo h false 256) rfl hR.out.tr.r2 ?_)
              | (refine wpList_store_tok _ rfl (.tmp 4) (.tmp 184) rfl w.heap.size false false (outTo h false 256) (fun _ => false) rfl rfl hR.out.tr.r1 ?_; intro w9 hr9 hg9 hz9))
            refine bodyPost_ret (v := .tuple #[.agg (tokRow false (outTo h false 256)).toArray, .int .i64 ((j : Int) + 1)]) (tok_results _ rfl rfl hr9) rfl ⟨ret_tokv ?_ ?_, ?_⟩
            · rw [HC.out]
              exact tokRow_congr (fun x hx => by rw [HI.out, ← HE2.out x hx]; simp [outTo, hx])
            · have h9 := hnx.out; omega
            · exact hR.out.tr.bel.grown hg9 (by have := hR.out.tr.bel.size; exact this) (by intro k hk; simp at hk; omega)
      · have hst : stops (pat.drop j) = false := by rw [hstop, beq_eq_false_iff_ne]; exact h93
        have HST : Hid (stops (pat.drop j) = false) := hst
        have q3 : ((z : Int) != 93) = true := by rw [bne_iff_ne]; exact h93
        clear hst hstop
        by_cases hesc : (z : Int) = 92 ∧ j + 1 < n
        · obtain ⟨hz92, h1n⟩ := hesc
          obtain rfl : z = 92 := by omega
          obtain ⟨z1', hz1⟩ := at_some HN.out h1n
          obtain ⟨z10', z1255'⟩ := HBD.out z1' (List.mem_of_getElem? hz1)
          obtain ⟨z1, rfl⟩ := nat_of z10'
          have z1255 : z1 < 256 := by omega
          have hcz1 : wr.cell? ⟨b, off + (j + 1), none⟩ = some (.int .u8 (z1 : Int)) := hS.out.tr.src (j + 1) _ hz1
          have iw := (item_esc (c := 0) HZj.out hz1).1
          have R1 : Hid ((j + 2) + scanN (pat.drop (j + 2)) = p + 1 + scanN (pat.drop (p + 1))) := stepN HST.out iw hN.out
          have R2 : Hid (∀ x : Nat, x < 256 → (upd h z1 true x || scanB (pat.drop (j + 2)) (x : Int)) = scanB (pat.drop (p + 1)) (x : Int)) := fun x hx => by
            rw [← upd_mark]; exact stepB HST.out iw (item_esc HZj.out hz1).2 (hB.out x hx)
          have hgz := hS.out.row z1 z1255
          have hfz := hS.out.r3.free z1
          have R3 : Hid (TS w (wr.setCell ⟨G3, z1, none⟩ (.bool true)) w.heap.size G2 G3 b off pat (fun _ => false) (upd h z1 true)) := hS.out.mark (Nat.le_refl _) hs1 hs2 hlt0 z1 true
          clear hz1 iw h93 q3 hz92 z10' z1255'
          go_wp2
          go_roundw
          case rel => exact ⟨j + 2, _, by omega, by omega, by go_num, R3, R1, R2⟩
          case measure => simp [intOf]; omega
        · by_cases hrg : j + 2 < n ∧ pat[j + 1]? = some 45 ∧ pat[j + 2]? ≠ some 93
          · obtain ⟨h2n, hz1, hz2⟩ := hrg
            obtain ⟨z2', hz2'⟩ := at_some HN.out h2n
            obtain ⟨z20', z2255'⟩ := HBD.out z2' (List.mem_of_getElem? hz2')
            obtain ⟨z2, rfl⟩ := nat_of z20'
            have z2255 : z2 < 256 := by omega
            have h293 : (z2 : Int) ≠ 93 := by intro e; rw [e] at hz2'; exact hz2 hz2'
            have hn92 : (z : Int) ≠ 92 := by intro e; exact hesc ⟨e, by omega⟩
            have hcz1 : wr.cell? ⟨b, off + (j + 1), none⟩ = some (.int .u8 45) := hS.out.tr.src (j + 1) 45 hz1
            have hcz2 : wr.cell? ⟨b, off + (j + 2), none⟩ = some (.int .u8 (z2 : Int)) := hS.out.tr.src (j + 2) _ hz2'
            have iw := (item_range (c := 0) HZj.out hn92 hz1 hz2' h293).1
            have R1 : Hid ((j + 3) + scanN (pat.drop (j + 3)) = p + 1 + scanN (pat.drop (p + 1))) := stepN HST.out iw hN.out
            have R2 : Hid (∀ x : Nat, x < 256 → (rng h (min z z2) (max z z2 + 1) x || scanB (pat.drop (j + 3)) (x : Int)) = scanB (pat.drop (p + 1)) (x : Int)) := fun x hx => by
              rw [← rng_in]; exact stepB HST.out iw (item_range HZj.out hn92 hz1 hz2' h293).2 (hB.out x hx)
            have q1 : ((z : Int) == 92) = false := by rw [beq_eq_false_iff_ne]; exact hn92
            have q2 : ((z2 : Int) != 93) = true := by rw [bne_iff_ne]; exact h293
            clear hz1 hz2' hz2 iw h93 hesc hn92 h293 z20' z2255'
            by_cases hsw : (z2 : Int) < (z : Int)
            · have hmin : min z z2 = z2 := by omega
              have hmax : max z z2 = z := by omega
              rw [hmin, hmax] at R2
              clear hmin hmax
              go_wp2
              go_loopw [14] (fun xv wr2 => ∃ k : Nat, z2 ≤ k ∧ k ≤ z + 1 ∧ xv = .int .i64 k ∧ Hid (TS w wr2 w.heap.size G2 G3 b off pat (fun _ => false) (rng h z2 k))) (fun xv _ => z + 1 - (intOf xv).toNat)
              case atStart => exact ⟨z2, Nat.le_refl _, by omega, rfl, by unfold Hid; rw [rng_zero]; exact hS.out⟩
              case round =>
                obtain ⟨k, hk1, hk2, rfl, hR⟩ := hrel
                clear hS
                by_cases hltk : k ≤ z
                · have hgz := hR.out.row k (by omega)
                  have hfz := hR.out.r3.free k
                  have R3 : Hid (TS w (wr.setCell ⟨G3, k, none⟩ (.bool true)) w.heap.size G2 G3 b off pat (fun _ => false) (rng h z2 (k + 1))) := by
                    have h1 := hR.out.mark (Nat.le_refl _) hs1 hs2 hlt0 k true
                    rw [rng_succ _ _ _ hk1] at h1
                    exact h1
                  go_wp2
                  go_roundw
                  case rel => exact ⟨k + 1, by omega, by omega, by go_num, R3⟩
                  case measure => simp [intOf]; omega
                · obtain rfl : k = z + 1 := by omega
                  go_wp2
                  go_roundw
                  case rel => exact ⟨j + 3, _, by omega, by omega, by go_num, hR, R1, R2⟩
                  case measure => simp [intOf]; omega
            · have hmin : min z z2 = z := by omega
              have hmax : max z z2 = z2 := by omega
              rw [hmin, hmax] at R2
              clear hmin hmax
              go_wp2
              go_loopw [14] (fun xv wr2 => ∃ k : Nat, z ≤ k ∧ k ≤ z2 + 1 ∧ xv = .int .i64 k ∧ Hid (TS w wr2 w.heap.size G2 G3 b off pat (fun _ => false) (rng h z k))) (fun xv _ => z2 + 1 - (intOf xv).toNat)
              case atStart => exact ⟨z, Nat.le_refl _, by omega, rfl, by unfold Hid; rw [rng_zero]; exact hS.out⟩
              case round =>
                obtain ⟨k, hk1, hk2, rfl, hR⟩ := hrel
                clear hS
                by_cases hltk : k ≤ z2
                · have hgz := hR.out.row k (by omega)
                  have hfz := hR.out.r3.free k
                  have R3 : Hid (TS w (wr.setCell ⟨G3, k, none⟩ (.bool true)) w.heap.size G2 G3 b off pat (fun _ => false) (rng h z (k + 1))) := by
                    have h1 := hR.out.mark (Nat.le_refl _) hs1 hs2 hlt0 k true
                    rw [rng_succ _ _ _ hk1] at h1
                    exact h1
                  go_wp2
                  go_roundw
                  case rel => exact ⟨k + 1, by omega, by omega, by go_num, R3⟩
                  case measure => simp [intOf]; omega
                · obtain rfl : k = z2 + 1 := by omega
                  go_wp2
                  go_roundw
                  case rel => exact ⟨j + 3, _, by omega, by omega, by go_num, hR, R1, R2⟩
                  case measure => simp [intOf]; omega
          · have hio : ∀ c : Int, itemW (pat.drop j) = 1 ∧ itemIn (pat.drop j) c = ((z : Int) == c) := by
              intro c
              refine item_one HZj.out ?_ ?_
              · by_cases h : (z : Int) = 92
                · right; rw [HN.out]; by_cases h' : j + 1 < n
                  · exact absurd ⟨h, h'⟩ hesc
                  · omega
                · exact .inl h
              · by_cases h : j + 2 < n
                · right
                  obtain ⟨z1, hz1⟩ := at_some HN.out (show j + 1 < n by omega)
                  by_cases h45 : z1 = 45
                  · right
                    subst h45
                    cases hz2 : pat[j + 2]? with
                    | none => rw [List.getElem?_eq_none_iff] at hz2; have := HN.out; omega
                    | some z2 =>
                      by_cases h93' : z2 = 93
                      · rw [h93']
                      · exact absurd ⟨h, hz1, by rw [hz2]; simpa using h93'⟩ hrg
                  · exact .inl ⟨z1, hz1, h45⟩
                · left; rw [HN.out]; omega
            have R1 : Hid ((j + 1) + scanN (pat.drop (j + 1)) = p + 1 + scanN (pat.drop (p + 1))) := stepN HST.out (hio 0).1 hN.out
            have R2 : Hid (∀ x : Nat, x < 256 → (upd h z true x || scanB (pat.drop (j + 1)) (x : Int)) = scanB (pat.drop (p + 1)) (x : Int)) := fun x hx => by
              rw [← upd_mark]; exact stepB HST.out (hio 0).1 (hio _).2 (hB.out x hx)
            have hgz := hS.out.row z z255
            have hfz := hS.out.r3.free z
            have R3 : Hid (TS w (wr.setCell ⟨G3, z, none⟩ (.bool true)) w.heap.size G2 G3 b off pat (fun _ => false) (upd h z true)) := hS.out.mark (Nat.le_refl _) hs1 hs2 hlt0 z true
            clear hio
            by_cases h92 : (z : Int) = 92
            · have hlast : n = j + 1 := by
                by_cases h' : j + 1 < n
                · exact absurd ⟨h92, h'⟩ hesc
                · omega
              obtain rfl : z = 92 := by omega
              have d1 : decide ((j : Int) + 1 < (n : Int)) = false := by simp; omega
              have d2 : decide ((j : Int) + 2 < (n : Int)) = false := by simp; omega
              have hge : n ≤ j + 1 := by omega
              clear hlast hesc hrg h93 h92
              go_wp2
              go_roundw
              case rel => exact ⟨j + 1, _, by omega, by omega, by go_num, R3, R1, R2⟩
              case measure => simp [intOf]; omega
            · have q1 : ((z : Int) == 92) = false := by rw [beq_eq_false_iff_ne]; exact h92
              by_cases h2n : j + 2 < n
              · obtain ⟨z1, hz1⟩ := at_some HN.out (show j + 1 < n by omega)
                have hcz1 : wr.cell? ⟨b, off + (j + 1), none⟩ = some (.int .u8 z1) := hS.out.tr.src (j + 1) z1 hz1
                by_cases h45 : z1 = 45
                · subst h45
                  obtain ⟨z2, hz2⟩ := at_some HN.out h2n
                  have h293 : z2 = 93 := by
                    by_cases h : z2 = 93
                    · exact h
                    · exact absurd ⟨h2n, hz1, by rw [hz2]; simpa using h⟩ hrg
                  subst h293
                  have hcz2 : wr.cell? ⟨b, off + (j + 2), none⟩ = some (.int .u8 93) := hS.out.tr.src (j + 2) 93 hz2
                  clear hz1 hz2 hesc hrg h93 h92
                  go_wp2
                  go_roundw
                  case rel => exact ⟨j + 1, _, by omega, by omega, by go_num, R3, R1, R2⟩
                  case measure => simp [intOf]; omega
                · have q45 : (z1 == 45) = false := by simp [h45]
                  clear hz1 hesc hrg h93 h92 h45
                  go_wp2
                  go_roundw
                  case rel => exact ⟨j + 1, _, by omega, by omega, by go_num, R3, R1, R2⟩
                  case measure => simp [intOf]; omega
              · have d2 : decide ((j : Int) + 2 < (n : Int)) = false := by simp; omega
                clear hesc hrg h93 h92
                go_wp2
                go_roundw
                case rel => exact ⟨j + 1, _, by omega, by omega, by go_num, R3, R1, R2⟩
                case measure => simp [intOf]; omega
    · obtain rfl : j = n := by omega
      have hst : stops (pat.drop j) = true := stops_at_end (by rw [HN.out]; exact Nat.le_refl _)
      have E1 := endN hst hN.out
      have HE1 : Hid (j = p + 1 + scanN (pat.drop (p + 1))) := E1
      have HE2 : Hid (∀ x : Nat, x < 256 → h x = scanB (pat.drop (p + 1)) (x : Int)) := fun x hx => endB hst (hB.out x hx)
      have hnx : Hid (p + tokW (pat.drop p) = j) := by unfold Hid; rw [HW.out]; omega
      clear E1 hst
      go_wp2
      go_loopw [15] (fun xv wr2 => ∃ k : Nat, k ≤ 256 ∧ xv = .int .i64 k ∧ Hid (TS w wr2 w.heap.size G2 G3 b off pat (outTo h false k) h)) (fun xv _ => 256 - (intOf xv).toNat)
      case atStart => exact ⟨0, by omega, rfl, by unfold Hid; rw [outTo_zero]; exact hS.out⟩
      case round =>
        obtain ⟨k, hk, rfl, hR⟩ := hrel
        clear hS
        by_cases hltk : k < 256
        · have hgk := hR.out.row k hltk
          have hgz := hR.out.tr.row k hltk
          have hfz := hR.out.tr.r2.free (1 + k)
          have R : Hid (TS w (wr.setCell ⟨G2, 1 + k, none⟩ (.bool (h k))) w.heap.size G2 G3 b off pat (outTo h false (k + 1)) h) := by
            have h1 := hR.out.put (Nat.le_refl _) hs1 hs2 hlt0 k (h k != false)
            rw [outTo_succ] at h1
            have e : (h k != false) = (h k) := by cases h k <;> rfl
            rw [e] at h1
            exact h1
          generalize h k = hkv at *
          go_wp2
          go_roundw
          case rel => exact ⟨k + 1, by omega, by go_num, R⟩
          case measure => simp [intOf]; omega
        · obtain rfl : k = 256 := by omega
          go_wp2_with (first
            | (refine wpList_load_tok _ rfl (.tmp 6) rfl G2 false (outTo h false 256) rfl hR.out.tr.r2 ?_)
            | (refine wpList_store_tok _ rfl (.tmp 4) (.tmp 184) rfl w.heap.size false false (outTo h false 256) (fun _ => false) rfl rfl hR.out.tr.r1 ?_; intro w9 hr9 hg9 hz9))
          refine bodyPost_ret (v := .tuple #[.agg (tokRow false (outTo h false 256)).toArray, .int .i64 ((j : Int))]) (tok_results _ rfl rfl hr9) rfl ⟨ret_tokv ?_ ?_, ?_⟩
          · rw [HC.out]
            exact tokRow_congr (fun x hx => by rw [HI.out, ← HE2.out x hx]; simp [outTo, hx])
          · have h9 := hnx.out; omega
          · exact hR.out.tr.bel.grown hg9 (by have := hR.out.tr.bel.size; exact this) (by intro k hk; simp at hk; omega)

set_option maxRecDepth 100000 in
set_option maxHeartbeats 16000000 in
theorem next_setC (b off n cap p : Nat) (pat : List Int) (w : World) (hL : Lies w b off pat) (hn : pat.length = n) (hp : p < n) (hb : n ≤ 1048576) (hbd : ∀ z ∈ pat, 0 ≤ z ∧ z ≤ 255) (hz : pat[p]? = some 91) (h1 : p + 1 < n) (hy : pat[p + 1]? = some 94) :
    Calls Try.prog 20 #[.slice (some ⟨b, off, none⟩) n cap, .int .i64 p] w fun e w' => e = .returned (.tuple #[.agg (tokCells pat p).toArray, .int .i64 (p + tokW (pat.drop p) : Nat)]) ∧ Below w.heap.size w w' := by
  have hlt0 : b < w.heap.size := block_lt_of_cell (hL p _ hz)
  have HL : Hid (Lies w b off pat) := hL
  have HN : Hid (pat.length = n) := hn
  have HBD : Hid (∀ z ∈ pat, 0 ≤ z ∧ z ≤ 255) := hbd
  have hz0 : (pat.drop p)[0]? = some 91 := by rw [List.getElem?_drop]; exact hz
  have HNEG : Hid (neg (pat.drop p) = true) := by unfold Hid neg; rw [List.getElem?_drop]; rw [hy]; rfl
  have HC : Hid (tokCells pat p = tokRow false (fun x => tokIn (pat.drop p) (x : Int))) := by unfold Hid tokCells; rw [if_neg (by rw [hz]; simp)]
  have HI : Hid (∀ x : Int, tokIn (pat.drop p) x = (scanB (pat.drop (p + 2)) x != true)) := by
    intro x
    rw [(tok_set hz0).2]; unfold setIn body; rw [HNEG.out, List.drop_drop]; rfl
  have HW : Hid (p + tokW (pat.drop p) = min (p + 2 + scanN (pat.drop (p + 2)) + 1) n) := by
    unfold Hid
    rw [(tok_set (c := 0) hz0).1]; unfold setW body; rw [HNEG.out, List.drop_drop]
    have h1 : (pat.drop p).length = n - p := by simp [hn]
    rw [h1]
    simp only [if_true]
    omega
  have HZ : Hid (pat[p]? = some 91) := hz
  have HY : Hid (pat[p + 1]? = some 94) := hy
  clear hy
  clear hL hn hz hbd hz0
  go_enter Try.func20, Try.ntmps20
  go_wp2_with (refine wpList_alloc_row _ rfl 35 rfl _ _ zero35 ?_)
  intro w1 hr1 hb1
  go_wp2_with (refine wpList_alloc_row _ rfl 35 rfl _ _ zero35 ?_)
  intro w2 hr2 hb2
  have hs1 := hr1.lt
  have hs2 := hr2.lt
  have hT := TR.start HL.out hr1 hb1 hr2 hb2
  have HT : Hid (TR w w2 w.heap.size w1.heap.size b off pat (fun _ => false)) := hT
  clear hr1 hb1 hr2 hb2 hT
  generalize hG : w1.heap.size = G2 at *
  clear hG
  have hc2 : w2.cell? ⟨b, off + p, none⟩ = some (.int .u8 91) := HT.out.src p _ HZ.out
  have hcy : w2.cell? ⟨b, off + (p + 1), none⟩ = some (.int .u8 94) := HT.out.src (p + 1) _ HY.out
  go_wp2_with (refine wpList_alloc_row _ rfl 33 rfl _ _ zero33 ?_)
  intro w3 hr3 hb3
  have HS : Hid (TS w w3 w.heap.size G2 w2.heap.size b off pat (fun _ => false) (fun _ => false)) := by
    refine ⟨⟨HT.out.r1.below hb3 HT.out.r1.lt, HT.out.r2.below hb3 HT.out.r2.lt, ?_, HT.out.bel.trans (hb3.mono HT.out.bel.size)⟩, hr3⟩
    intro i z hz
    have e1 := HT.out.src i z hz
    exact (hb3.cell (p := ⟨b, off + i, none⟩) (block_lt_of_cell e1)).trans e1
  generalize hG3 : w2.heap.size = G3 at *
  clear hG3 hr3 hb3 HT hc2 hcy
  go_wp2_with fail
  go_loopw [9] (fun jv wr => ∃ (j : Nat) (h : Nat → Bool), p + 2 ≤ j ∧ j ≤ n ∧ jv = .int .i64 j ∧ Hid (TS w wr w.heap.size G2 G3 b off pat (fun _ => false) h) ∧ Hid (j + scanN (pat.drop j) = p + 2 + scanN (pat.drop (p + 2))) ∧ Hid (∀ x : Nat, x < 256 → (h x || scanB (pat.drop j) (x : Int)) = scanB (pat.drop (p + 2)) (x : Int))) (fun jv _ => n + 1 - (intOf jv).toNat)
  case atStart => exact ⟨p + 2, _, Nat.le_refl _, by omega, by go_num, HS, rfl, fun x hx => by simp⟩
  case round =>
    obtain ⟨j, h, hj1, hj2, rfl, hS, hN, hB⟩ := hrel
    clear HS
    by_cases hlt : j < n
    · obtain ⟨z', hz⟩ := at_some HN.out hlt
      obtain ⟨z0', z255'⟩ := HBD.out z' (List.mem_of_getElem? hz)
      obtain ⟨z, rfl⟩ := nat_of z0'
      have z255 : z < 256 := by omega
      clear z0' z255'
      have hcz : wr.cell? ⟨b, off + j, none⟩ = some (.int .u8 (z : Int)) := hS.out.tr.src j _ hz
      have hstop := stops_at (z : Int) hz
      have HZj : Hid (pat[j]? = some (z : Int)) := hz
      clear hz
      by_cases h93 : (z : Int) = 93
      · have hst : stops (pat.drop j) = true := by rw [hstop, h93]; rfl
        have E1 := endN hst hN.out
        have HE1 : Hid (j = p + 2 + scanN (pat.drop (p + 2))) := E1
        have HE2 : Hid (∀ x : Nat, x < 256 → h x = scanB (pat.drop (p + 2)) (x : Int)) := fun x hx => endB hst (hB.out x hx)
        have hnx : Hid (p + tokW (pat.drop p) = j + 1) := by unfold Hid; rw [HW.out]; omega
        clear E1 hst hstop
        obtain rfl : z = 93 := by omega
        go_wp2
        go_loopw [15] (fun xv wr2 => ∃ k : Nat, k ≤ 256 ∧ xv = .int .i64 k ∧ Hid (TS w wr2 w.heap.size G2 G3 b off pat (outTo h true k) h)) (fun xv _ => 256 - (intOf xv).toNat)
        case atStart => exact ⟨0, by omega, rfl, by unfold Hid; rw [outTo_zero]; exact hS.out⟩
        case round =>
          obtain ⟨k, hk, rfl, hR⟩ := hrel
          clear hS
          by_cases hltk : k < 256
          · have hgk := hR.out.row k hltk
            have hgz := hR.out.tr.row k hltk
            have hfz := hR.out.tr.r2.free (1 + k)
            have R : Hid (TS w (wr.setCell ⟨G2, 1 + k, none⟩ (.bool (!h k))) w.heap.size G2 G3 b off pat (outTo h true (k + 1)) h) := by
              have h1 := hR.out.put (Nat.le_refl _) hs1 hs2 hlt0 k (h k != true)
              rw [outTo_succ] at h1
              have e : (h k != true) = (!h k) := by cases h k <;> rfl
              rw [e] at h1
              exact h1
            generalize h k = hkv at *
            go_wp2
            go_roundw
            case rel => exact ⟨k + 1, by omega, by go_num, R⟩
            case measure => simp [intOf]; omega
          · obtain rfl : k = 256 := by omega
            go_wp2_with (first
              | (refine wpList_load_tok _ rfl (.tmp 6) rfl G2 false (outTo h true 256) rfl hR.out.tr.r2 ?_)
              | (refine wpList_store_tok _ rfl (.tmp 4) (.tmp 184) rfl w.heap.size false false (outTo h true 256) (fun _ => false) rfl rfl hR.out.tr.r1 ?_; intro w9 hr9 hg9 hz9))
            refine bodyPost_ret (v := .tuple #[.agg (tokRow false (outTo h true 256)).toArray, .int .i64 ((j : Int) + 1)]) (tok_results _ rfl rfl hr9) rfl ⟨ret_tokv ?_ ?_, ?_⟩
            · rw [HC.out]
              exact tokRow_congr (fun x hx => by rw [HI.out, ← HE2.out x hx]; simp [outTo, hx])
            · have h9 := hnx.out; omega
            · exact hR.out.tr.bel.grown hg9 (by have := hR.out.tr.bel.size; exact this) (by intro k hk; simp at hk; omega)
      · have hst : stops (pat.drop j) = false := by rw [hstop, beq_eq_false_iff_ne]; exact h93
        have HST : Hid (stops (pat.drop j) = false) := hst
        have q3 : ((z : Int) != 93) = true := by rw [bne_iff_ne]; exact h93
        clear hst hstop
        by_cases hesc : (z : Int) = 92 ∧ j + 1 < n
        · obtain ⟨hz92, h1n⟩ := hesc
          obtain rfl : z = 92 := by omega
          obtain ⟨z1', hz1⟩ := at_some HN.out h1n
          obtain ⟨z10', z1255'⟩ := HBD.out z1' (List.mem_of_getElem? hz1)
          obtain ⟨z1, rfl⟩ := nat_of z10'
          have z1255 : z1 < 256 := by omega
          have hcz1 : wr.cell? ⟨b, off + (j + 1), none⟩ = some (.int .u8 (z1 : Int)) := hS.out.tr.src (j + 1) _ hz1
          have iw := (item_esc (c := 0) HZj.out hz1).1
          have R1 : Hid ((j + 2) + scanN (pat.drop (j + 2)) = p + 2 + scanN (pat.drop (p + 2))) := stepN HST.out iw hN.out
          have R2 : Hid (∀ x : Nat, x < 256 → (upd h z1 true x || scanB (pat.drop (j + 2)) (x : Int)) = scanB (pat.drop (p + 2)) (x : Int)) := fun x hx => by
            rw [← upd_mark]; exact stepB HST.out iw (item_esc HZj.out hz1).2 (hB.out x hx)
          have hgz := hS.out.row z1 z1255
          have hfz := hS.out.r3.free z1
          have R3 : Hid (TS w (wr.setCell ⟨G3, z1, none⟩ (.bool true)) w.heap.size G2 G3 b off pat (fun _ => false) (upd h z1 true)) := hS.out.mark (Nat.le_refl _) hs1 hs2 hlt0 z1 true
          clear hz1 iw h93 q3 hz92 z10' z1255'
          go_wp2
          go_roundw
          case rel => exact ⟨j + 2, _, by omega, by omega, by go_num, R3, R1, R2⟩
          case measure => simp [intOf]; omega
        · by_cases hrg : j + 2 < n ∧ pat[j + 1]? = some 45 ∧ pat[j + 2]? ≠ some 93
          · obtain ⟨h2n, hz1, hz2⟩ := hrg
            obtain ⟨z2', hz2'⟩ := at_some HN.out h2n
            obtain ⟨z20', z2255'⟩ := HBD.out z2' (List.mem_of_getElem? hz2')
            obtain ⟨z2, rfl⟩ := nat_of z20'
            have z2255 : z2 < 256 := by omega
            have h293 : (z2 : Int) ≠ 93 := by intro e; rw [e] at hz2'; exact hz2 hz2'
            have hn92 : (z : Int) ≠ 92 := by intro e; exact hesc ⟨e, by omega⟩
            have hcz1 : wr.cell? ⟨b, off + (j + 1), none⟩ = some (.int .u8 45) := hS.out.tr.src (j + 1) 45 hz1
            have hcz2 : wr.cell? ⟨b, off + (j + 2), none⟩ = some (.int .u8 (z2 : Int)) := hS.out.tr.src (j + 2) _ hz2'
            have iw := (item_range (c := 0) HZj.out hn92 hz1 hz2' h293).1
            have R1 : Hid ((j + 3) + scanN (pat.drop (j + 3)) = p + 2 + scanN (pat.drop (p + 2))) := stepN HST.out iw hN.out
            have R2 : Hid (∀ x : Nat, x < 256 → (rng h (min z z2) (max z z2 + 1) x || scanB (pat.drop (j + 3)) (x : Int)) = scanB (pat.drop (p + 2)) (x : Int)) := fun x hx => by
              rw [← rng_in]; exact stepB HST.out iw (item_range HZj.out hn92 hz1 hz2' h293).2 (hB.out x hx)
            have q1 : ((z : Int) == 92) = false := by rw [beq_eq_false_iff_ne]; exact hn92
            have q2 : ((z2 : Int) != 93) = true := by rw [bne_iff_ne]; exact h293
            clear hz1 hz2' hz2 iw h93 hesc hn92 h293 z20' z2255'
            by_cases hsw : (z2 : Int) < (z : Int)
            · have hmin : min z z2 = z2 := by omega
              have hmax : max z z2 = z := by omega
              rw [hmin, hmax] at R2
              clear hmin hmax
              go_wp2
              go_loopw [14] (fun xv wr2 => ∃ k : Nat, z2 ≤ k ∧ k ≤ z + 1 ∧ xv = .int .i64 k ∧ Hid (TS w wr2 w.heap.size G2 G3 b off pat (fun _ => false) (rng h z2 k))) (fun xv _ => z + 1 - (intOf xv).toNat)
              case atStart => exact ⟨z2, Nat.le_refl _, by omega, rfl, by unfold Hid; rw [rng_zero]; exact hS.out⟩
              case round =>
                obtain ⟨k, hk1, hk2, rfl, hR⟩ := hrel
                clear hS
                by_cases hltk : k ≤ z
                · have hgz := hR.out.row k (by omega)
                  have hfz := hR.out.r3.free k
                  have R3 : Hid (TS w (wr.setCell ⟨G3, k, none⟩ (.bool true)) w.heap.size G2 G3 b off pat (fun _ => false) (rng h z2 (k + 1))) := by
                    have h1 := hR.out.mark (Nat.le_refl _) hs1 hs2 hlt0 k true
                    rw [rng_succ _ _ _ hk1] at h1
                    exact h1
                  go_wp2
                  go_roundw
                  case rel => exact ⟨k + 1, by omega, by omega, by go_num, R3⟩
                  case measure => simp [intOf]; omega
                · obtain rfl : k = z + 1 := by omega
                  go_wp2
                  go_roundw
                  case rel => exact ⟨j + 3, _, by omega, by omega, by go_num, hR, R1, R2⟩
                  case measure => simp [intOf]; omega
            · have hmin : min z z2 = z := by omega
              have hmax : max z z2 = z2 := by omega
              rw [hmin, hmax] at R2
              clear hmin hmax
              go_wp2
              go_loopw [14] (fun xv wr2 => ∃ k : Nat, z ≤ k ∧ k ≤ z2 + 1 ∧ xv = .int .i64 k ∧ Hid (TS w wr2 w.heap.size G2 G3 b off pat (fun _ => false) (rng h z k))) (fun xv _ => z2 + 1 - (intOf xv).toNat)
              case atStart => exact ⟨z, Nat.le_refl _, by omega, rfl, by unfold Hid; rw [rng_zero]; exact hS.out⟩
              case round =>
                obtain ⟨k, hk1, hk2, rfl, hR⟩ := hrel
                clear hS
                by_cases hltk : k ≤ z2
                · have hgz := hR.out.row k (by omega)
                  have hfz := hR.out.r3.free k
                  have R3 : Hid (TS w (wr.setCell ⟨G3, k, none⟩ (.bool true)) w.heap.size G2 G3 b off pat (fun _ => false) (rng h z (k + 1))) := by
                    have h1 := hR.out.mark (Nat.le_refl _) hs1 hs2 hlt0 k true
                    rw [rng_succ _ _ _ hk1] at h1
                    exact h1
                  go_wp2
                  go_roundw
                  case rel => exact ⟨k + 1, by omega, by omega, by go_num, R3⟩
                  case measure => simp [intOf]; omega
                · obtain rfl : k = z2 + 1 := by omega
                  go_wp2
                  go_roundw
                  case rel => exact ⟨j + 3, _, by omega, by omega, by go_num, hR, R1, R2⟩
                  case measure => simp [intOf]; omega
          · have hio : ∀ c : Int, itemW (pat.drop j) = 1 ∧ itemIn (pat.drop j) c = ((z : Int) == c) := by
              intro c
              refine item_one HZj.out ?_ ?_
              · by_cases h : (z : Int) = 92
                · right; rw [HN.out]; by_cases h' : j + 1 < n
                  · exact absurd ⟨h, h'⟩ hesc
                  · omega
                · exact .inl h
              · by_cases h : j + 2 < n
                · right
                  obtain ⟨z1, hz1⟩ := at_some HN.out (show j + 1 < n by omega)
                  by_cases h45 : z1 = 45
                  · right
                    subst h45
                    cases hz2 : pat[j + 2]? with
                    | none => rw [List.getElem?_eq_none_iff] at hz2; have := HN.out; omega
                    | some z2 =>
                      by_cases h93' : z2 = 93
                      · rw [h93']
                      · exact absurd ⟨h, hz1, by rw [hz2]; simpa using h93'⟩ hrg
                  · exact .inl ⟨z1, hz1, h45⟩
                · left; rw [HN.out]; omega
            have R1 : Hid ((j + 1) + scanN (pat.drop (j + 1)) = p + 2 + scanN (pat.drop (p + 2))) := stepN HST.out (hio 0).1 hN.out
            have R2 : Hid (∀ x : Nat, x < 256 → (upd h z true x || scanB (pat.drop (j + 1)) (x : Int)) = scanB (pat.drop (p + 2)) (x : Int)) := fun x hx => by
              rw [← upd_mark]; exact stepB HST.out (hio 0).1 (hio _).2 (hB.out x hx)
            have hgz := hS.out.row z z255
            have hfz := hS.out.r3.free z
            have R3 : Hid (TS w (wr.setCell ⟨G3, z, none⟩ (.bool true)) w.heap.size G2 G3 b off pat (fun _ => false) (upd h z true)) := hS.out.mark (Nat.le_refl _) hs1 hs2 hlt0 z true
            clear hio
            by_cases h92 : (z : Int) = 92
            · have hlast : n = j + 1 := by
                by_cases h' : j + 1 < n
                · exact absurd ⟨h92, h'⟩ hesc
                · omega
              obtain rfl : z = 92 := by omega
              have d1 : decide ((j : Int) + 1 < (n : Int)) = false := by simp; omega
              have d2 : decide ((j : Int) + 2 < (n : Int)) = false := by simp; omega
              have hge : n ≤ j + 1 := by omega
              clear hlast hesc hrg h93 h92
              go_wp2
              go_roundw
              case rel => exact ⟨j + 1, _, by omega, by omega, by go_num, R3, R1, R2⟩
              case measure => simp [intOf]; omega
            · have q1 : ((z : Int) == 92) = false := by rw [beq_eq_false_iff_ne]; exact h92
              by_cases h2n : j + 2 < n
              · obtain ⟨z1, hz1⟩ := at_some HN.out (show j + 1 < n by omega)
                have hcz1 : wr.cell? ⟨b, off + (j + 1), none⟩ = some (.int .u8 z1) := hS.out.tr.src (j + 1) z1 hz1
                by_cases h45 : z1 = 45
                · subst h45
                  obtain ⟨z2, hz2⟩ := at_some HN.out h2n
                  have h293 : z2 = 93 := by
                    by_cases h : z2 = 93
                    · exact h
                    · exact absurd ⟨h2n, hz1, by rw [hz2]; simpa using h⟩ hrg
                  subst h293
                  have hcz2 : wr.cell? ⟨b, off + (j + 2), none⟩ = some (.int .u8 93) := hS.out.tr.src (j + 2) 93 hz2
                  clear hz1 hz2 hesc hrg h93 h92
                  go_wp2
                  go_roundw
                  case rel => exact ⟨j + 1, _, by omega, by omega, by go_num, R3, R1, R2⟩
                  case measure => simp [intOf]; omega
                · have q45 : (z1 == 45) = false := by simp [h45]
                  clear hz1 hesc hrg h93 h92 h45
                  go_wp2
                  go_roundw
                  case rel => exact ⟨j + 1, _, by omega, by omega, by go_num, R3, R1, R2⟩
                  case measure => simp [intOf]; omega
              · have d2 : decide ((j : Int) + 2 < (n : Int)) = false := by simp; omega
                clear hesc hrg h93 h92
                go_wp2
                go_roundw
                case rel => exact ⟨j + 1, _, by omega, by omega, by go_num, R3, R1, R2⟩
                case measure => simp [intOf]; omega
    · obtain rfl : j = n := by omega
      have hst : stops (pat.drop j) = true := stops_at_end (by rw [HN.out]; exact Nat.le_refl _)
      have E1 := endN hst hN.out
      have HE1 : Hid (j = p + 2 + scanN (pat.drop (p + 2))) := E1
      have HE2 : Hid (∀ x : Nat, x < 256 → h x = scanB (pat.drop (p + 2)) (x : Int)) := fun x hx => endB hst (hB.out x hx)
      have hnx : Hid (p + tokW (pat.drop p) = j) := by unfold Hid; rw [HW.out]; omega
      clear E1 hst
      go_wp2
      go_loopw [15] (fun xv wr2 => ∃ k : Nat, k ≤ 256 ∧ xv = .int .i64 k ∧ Hid (TS w wr2 w.heap.size G2 G3 b off pat (outTo h true k) h)) (fun xv _ => 256 - (intOf xv).toNat)
      case atStart => exact ⟨0, by omega, rfl, by unfold Hid; rw [outTo_zero]; exact hS.out⟩
      case round =>
        obtain ⟨k, hk, rfl, hR⟩ := hrel
        clear hS
        by_cases hltk : k < 256
        · have hgk := hR.out.row k hltk
          have hgz := hR.out.tr.row k hltk
          have hfz := hR.out.tr.r2.free (1 + k)
          have R : Hid (TS w (wr.setCell ⟨G2, 1 + k, none⟩ (.bool (!h k))) w.heap.size G2 G3 b off pat (outTo h true (k + 1)) h) := by
            have h1 := hR.out.put (Nat.le_refl _) hs1 hs2 hlt0 k (h k != true)
            rw [outTo_succ] at h1
            have e : (h k != true) = (!h k) := by cases h k <;> rfl
            rw [e] at h1
            exact h1
          generalize h k = hkv at *
          go_wp2
          go_roundw
          case rel => exact ⟨k + 1, by omega, by go_num, R⟩
          case measure => simp [intOf]; omega
        · obtain rfl : k = 256 := by omega
          go_wp2_with (first
            | (refine wpList_load_tok _ rfl (.tmp 6) rfl G2 false (outTo h true 256) rfl hR.out.tr.r2 ?_)
            | (refine wpList_store_tok _ rfl (.tmp 4) (.tmp 184) rfl w.heap.size false false (outTo h true 256) (fun _ => false) rfl rfl hR.out.tr.r1 ?_; intro w9 hr9 hg9 hz9))
          refine bodyPost_ret (v := .tuple #[.agg (tokRow false (outTo h true 256)).toArray, .int .i64 ((j : Int))]) (tok_results _ rfl rfl hr9) rfl ⟨ret_tokv ?_ ?_, ?_⟩
          · rw [HC.out]
            exact tokRow_congr (fun x hx => by rw [HI.out, ← HE2.out x hx]; simp [outTo, hx])
          · have h9 := hnx.out; omega
          · exact hR.out.tr.bel.grown hg9 (by have := hR.out.tr.bel.size; exact this) (by intro k hk; simp at hk; omega)

theorem next_any (b off n cap p : Nat) (pat : List Int) (w : World) (hL : Lies w b off pat) (hn : pat.length = n) (hp : p < n) (hb : n ≤ 1048576) (hbd : ∀ z ∈ pat, 0 ≤ z ∧ z ≤ 255) :
    Calls Try.prog 20 #[.slice (some ⟨b, off, none⟩) n cap, .int .i64 p] w fun e w' => e = .returned (.tuple #[.agg (tokCells pat p).toArray, .int .i64 (p + tokW (pat.drop p) : Nat)]) ∧ Below w.heap.size w w' := by
  obtain ⟨z', hz⟩ := at_some hn hp
  obtain ⟨z0, z255⟩ := hbd z' (List.mem_of_getElem? hz)
  obtain ⟨z, rfl⟩ := nat_of z0
  by_cases h42 : (z : Int) = 42
  · rw [h42] at hz; exact next_star b off n cap p pat w hL hn hp hb hz
  by_cases h63 : (z : Int) = 63
  · rw [h63] at hz; exact next_any1 b off n cap p pat w hL hn hp hb hz
  by_cases h91 : (z : Int) = 91
  · rw [h91] at hz
    by_cases h1 : p + 1 < n
    · obtain ⟨y, hy⟩ := at_some hn h1
      by_cases h94 : y = 94
      · subst h94; exact next_setC b off n cap p pat w hL hn hp hb hbd hz h1 hy
      · exact next_setB b off n cap p pat w hL hn hp hb hbd hz h1 y hy (by simp [h94])
    · exact next_setA b off n cap p pat w hL hn hp hb hbd hz (by omega)
  by_cases h92 : (z : Int) = 92 ∧ p + 1 < n
  · obtain ⟨h92, h1⟩ := h92
    rw [h92] at hz
    obtain ⟨y', hy⟩ := at_some hn h1
    obtain ⟨y0, y255⟩ := hbd y' (List.mem_of_getElem? hy)
    obtain ⟨y, rfl⟩ := nat_of y0
    exact next_esc b off n cap p pat w hL hn hp hb y hz hy (by omega)
  · refine next_lit b off n cap p pat w hL hn hp hb z hz (by omega) h42 h63 h91 ?_
    by_cases h : (z : Int) = 92
    · right
      by_cases h1 : p + 1 < n
      · exact absurd ⟨h, h1⟩ h92
      · omega
    · exact .inl h
end Go.Proofs.Qxb6600543a
