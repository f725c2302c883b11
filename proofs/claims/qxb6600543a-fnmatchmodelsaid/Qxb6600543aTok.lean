import Derived.Test.Qxb6600543aByte
import Derived.Test.Qxb6600543aBig
namespace Go.Proofs.Qxb6600543a
open Go.ChangeShapes Go.WideShapes Go.ChangeAt Go.RowKit
set_option linter.unusedVariables false

/-- The token's cells at place p. -/
def tokCells (pat : List Int) (p : Nat) : List Value :=
  if pat[p]? = some 42 then tokRow true (fun _ => false) else tokRow false (fun x => tokIn (pat.drop p) (x : Int))
theorem ret_tokv {cs cs' : List Value} {x y : Int} (h : cs = cs') (h' : x = y) : Ending.returned (.tuple #[.agg cs.toArray, .int .i64 x]) = .returned (.tuple #[.agg cs'.toArray, .int .i64 y]) := by rw [h, h']
theorem tok_results {w : World} {g : Nat} {st : Bool} {f : Nat → Bool} {x : Int} (tmps : Array Value) (hp : tmps.getD 4 undef = .pointer (some ⟨g, 0, none⟩)) (hx : tmps.getD 5 undef = .int .i64 x) (hr : Row w g 35 (tokRow st f)) :
    (results Try.f20 tmps).run Try.prog w = .ok (.tuple #[.agg (tokRow st f).toArray, .int .i64 x]) w := by
  rw [results_cell_tmp (p := 4) (u := 5) (ty := 35) rfl, hp, hx]
  have hl := run_loadVar_row (P := Try.prog) w g 35 35 (tokRow st f).toArray (0, 0) _ hr Try.underlying35 rfl (by rw [size35]; simp [tokRow_length])
  simp only [asAddr, Sem.run_pure, Result.andThen_ok, hl]

/-- The memory of zzNextTok: the result's cells, the token's, the pattern's. -/
structure TR (w wr : World) (G1 G2 b off : Nat) (pat : List Int) (f : Nat → Bool) : Prop where
  r1 : Row wr G1 35 (tokRow false fun _ => false)
  r2 : Row wr G2 35 (tokRow false f)
  src : Lies wr b off pat
  bel : Below w.heap.size w wr
theorem TR.set {w wr : World} {G1 G2 b off : Nat} {pat : List Int} {f : Nat → Bool} (h : TR w wr G1 G2 b off pat f) (h1 : w.heap.size ≤ G1) (h2 : G1 < G2) (hb : b < w.heap.size) (x : Nat) (v : Bool) :
    TR w (wr.setCell ⟨G2, 1 + x, none⟩ (.bool v)) G1 G2 b off pat (upd f x v) := by
  refine ⟨h.r1.setOther (by show _ ≠ G2; omega) _, ?_, ?_, h.bel.setCell (by show _ ≤ G2; omega) _⟩
  · have := h.r2.set (1 + x) (.bool v)
    rwa [tokRow_set] at this
  · intro i z hz
    have e : (wr.setCell ⟨G2, 1 + x, none⟩ (.bool v)).cell? ⟨b, off + i, none⟩ = wr.cell? ⟨b, off + i, none⟩ :=
      World.cell?_of_block (Below.heap_setCell _ _ _ _ (by show b ≠ G2; omega))
    rw [e]; exact h.src i z hz
theorem TR.row {w wr : World} {G1 G2 b off : Nat} {pat : List Int} {f : Nat → Bool} (h : TR w wr G1 G2 b off pat f) (x : Nat) (hx : x < 256) : wr.cell? ⟨G2, 1 + x, none⟩ = some (.bool (f x)) := by
  rw [h.r2.cell]; exact tokRow_at _ _ _ hx
theorem TR.start {w w1 w2 : World} {b off : Nat} {pat : List Int} (hL : Lies w b off pat) (hr1 : Row w1 w.heap.size 35 (tokRow false fun _ => false)) (hb1 : Below w.heap.size w w1) (hr2 : Row w2 w1.heap.size 35 (tokRow false fun _ => false)) (hb2 : Below w1.heap.size w1 w2) :
    TR w w2 w.heap.size w1.heap.size b off pat (fun _ => false) :=
  ⟨hr1.below hb2 hr1.lt, hr2, fun i z hz => by
    have e0 := hL i z hz
    have e1 : w1.cell? ⟨b, off + i, none⟩ = _ := (hb1.cell (p := ⟨b, off + i, none⟩) (block_lt_of_cell e0)).trans e0
    exact (hb2.cell (p := ⟨b, off + i, none⟩) (block_lt_of_cell e1)).trans e1, hb1.trans (hb2.mono hb1.size)⟩
theorem nat_of {z : Int} (h : 0 ≤ z) : ∃ k : Nat, z = (k : Int) := Int.eq_ofNat_of_zero_le h


set_option maxRecDepth 100000 in
set_option maxHeartbeats 8000000 in
theorem next_star (b off n cap p : Nat) (pat : List Int) (w : World) (hL : Lies w b off pat) (hn : pat.length = n) (hp : p < n) (hb : n ≤ 1048576) (hz : pat[p]? = some 42) :
    Calls Try.prog 20 #[.slice (some ⟨b, off, none⟩) n cap, .int .i64 p] w fun e w' => e = .returned (.tuple #[.agg (tokCells pat p).toArray, .int .i64 (p + tokW (pat.drop p) : Nat)]) ∧ Below w.heap.size w w' := by
  have hlt0 : b < w.heap.size := block_lt_of_cell (hL p _ hz)
  have HL : Hid (Lies w b off pat) := hL
  have HN : Hid (pat.length = n) := hn
  have HC : Hid (tokCells pat p = tokRow true (fun _ => false)) := by unfold Hid tokCells; rw [if_pos hz]
  have HW : Hid (tokW (pat.drop p) = 1) := by unfold Hid tokW; simp [hz]
  have HZ : Hid (pat[p]? = some 42) := hz
  clear hL hn hz
  go_enter Try.func20, Try.ntmps20
  go_wp2_with (refine wpList_alloc_row _ rfl 35 rfl _ _ zero35 ?_)
  intro w1 hr1 hb1
  go_wp2_with (refine wpList_alloc_row _ rfl 35 rfl _ _ zero35 ?_)
  intro w2 hr2 hb2
  have hs1 := hr1.lt
  have hT := TR.start HL.out hr1 hb1 hr2 hb2
  have HT : Hid (TR w w2 w.heap.size w1.heap.size b off pat (fun _ => false)) := hT
  clear hr1 hb1 hr2 hb2 hT
  generalize hG : w1.heap.size = G2 at *
  clear hG
  have hc2 : w2.cell? ⟨b, off + p, none⟩ = some (.int .u8 42) := HT.out.src p 42 HZ.out
  have hg0 : w2.cell? ⟨G2, 0, none⟩ = some (.bool false) := HT.out.r2.cell 0
  have hf0 := HT.out.r2.free 0
  have R2 : Hid (Row (w2.setCell ⟨G2, 0, none⟩ (.bool true)) G2 35 (tokRow true fun _ => false)) := HT.out.r2.set 0 (.bool true)
  have R1 : Hid (Row (w2.setCell ⟨G2, 0, none⟩ (.bool true)) w.heap.size 35 (tokRow false fun _ => false)) := HT.out.r1.setOther (by show _ ≠ G2; omega) _
  have B2 : Hid (Below w.heap.size w (w2.setCell ⟨G2, 0, none⟩ (.bool true))) := HT.out.bel.setCell (by show _ ≤ G2; omega) _
  go_wp2_with (first
    | (refine wpList_load_tok _ rfl (.tmp 6) rfl G2 true (fun _ => false) rfl R2.out ?_)
    | (refine wpList_store_tok _ rfl (.tmp 4) (.tmp 23) rfl w.heap.size true false (fun _ => false) (fun _ => false) rfl rfl R1.out ?_; intro w3 hr3 hg3 hz3))
  refine bodyPost_ret (v := .tuple #[.agg (tokRow true fun _ => false).toArray, .int .i64 ((p : Int) + 1)]) (tok_results _ rfl rfl hr3) rfl ⟨ret_tokv HC.out.symm ?_, ?_⟩
  · rw [HW.out]; omega
  · exact B2.out.grown hg3 (by have := B2.out.size; exact this) (by intro k hk; simp at hk; omega)

set_option maxRecDepth 100000 in
set_option maxHeartbeats 8000000 in
theorem next_lit (b off n cap p : Nat) (pat : List Int) (w : World) (hL : Lies w b off pat) (hn : pat.length = n) (hp : p < n) (hb : n ≤ 1048576) (z : Nat) (hz : pat[p]? = some (z : Int)) (z255 : z < 256) (h42 : (z : Int) ≠ 42) (h63 : (z : Int) ≠ 63) (h91 : (z : Int) ≠ 91) (h92 : (z : Int) ≠ 92 ∨ n ≤ p + 1) :
    Calls Try.prog 20 #[.slice (some ⟨b, off, none⟩) n cap, .int .i64 p] w fun e w' => e = .returned (.tuple #[.agg (tokCells pat p).toArray, .int .i64 (p + tokW (pat.drop p) : Nat)]) ∧ Below w.heap.size w w' := by
  have hlt0 : b < w.heap.size := block_lt_of_cell (hL p _ hz)
  have HL : Hid (Lies w b off pat) := hL
  have HN : Hid (pat.length = n) := hn
  have hz0 : (pat.drop p)[0]? = some (z : Int) := by rw [List.getElem?_drop]; exact hz
  have hTK : ∀ x : Int, tokW (pat.drop p) = 1 ∧ tokIn (pat.drop p) x = ((z : Int) == x) := by
    intro x
    by_cases h : (z : Int) = 92
    · rw [h] at hz0 ⊢
      exact tok_bs hz0 (by rcases h92 with h' | h'; exact absurd h h'; simp; omega)
    · exact tok_lit hz0 h63 h91 h
  have HC : Hid (tokCells pat p = tokRow false (fun x => tokIn (pat.drop p) (x : Int))) := by unfold Hid tokCells; rw [if_neg (by rw [hz]; simp; omega)]
  have HW : Hid (tokW (pat.drop p) = 1) := (hTK 0).1
  have HI : Hid (∀ x : Int, tokIn (pat.drop p) x = ((z : Int) == x)) := fun x => (hTK x).2
  have HZ : Hid (pat[p]? = some (z : Int)) := hz
  have q1 : ((z : Int) == 42) = false := by rw [beq_eq_false_iff_ne]; exact h42
  have q2 : ((z : Int) == 63) = false := by rw [beq_eq_false_iff_ne]; exact h63
  have q3 : ((z : Int) != 91) = true := by rw [bne_iff_ne]; exact h91
  have q4 : ((z : Int) == 92) = false ∨ (((z : Int) == 92) = true ∧ decide ((p : Int) + 1 < (n : Int)) = false) := by
    by_cases h : (z : Int) = 92
    · right; exact ⟨by rw [beq_iff_eq]; exact h, by rcases h92 with h' | h'; exact absurd h h'; simp; omega⟩
    · left; rw [beq_eq_false_iff_ne]; exact h
  have H4 : Hid (((z : Int) == 92) = false ∨ (((z : Int) == 92) = true ∧ decide ((p : Int) + 1 < (n : Int)) = false)) := q4
  clear hz0 hTK h42 h63 h91 h92 q4
  clear hL hn hz
  go_enter Try.func20, Try.ntmps20
  go_wp2_with (refine wpList_alloc_row _ rfl 35 rfl _ _ zero35 ?_)
  intro w1 hr1 hb1
  go_wp2_with (refine wpList_alloc_row _ rfl 35 rfl _ _ zero35 ?_)
  intro w2 hr2 hb2
  have hs1 := hr1.lt
  have hT := TR.start HL.out hr1 hb1 hr2 hb2
  have HT : Hid (TR w w2 w.heap.size w1.heap.size b off pat (fun _ => false)) := hT
  clear hr1 hb1 hr2 hb2 hT
  generalize hG : w1.heap.size = G2 at *
  clear hG
  have hc2 : w2.cell? ⟨b, off + p, none⟩ = some (.int .u8 (z : Int)) := HT.out.src p _ HZ.out
  have hgz := HT.out.row z z255
  have hfz := HT.out.r2.free (1 + z)
  have R : Hid (TR w (w2.setCell ⟨G2, 1 + z, none⟩ (.bool true)) w.heap.size G2 b off pat (upd (fun _ => false) z true)) := HT.out.set (Nat.le_refl _) hs1 hlt0 z true
  rcases H4.out with q4 | ⟨q4, q5⟩
  all_goals
    go_wp2_with (first
      | (refine wpList_load_tok _ rfl (.tmp 6) rfl G2 false (upd (fun _ => false) z true) rfl R.out.r2 ?_)
      | (refine wpList_store_tok _ rfl (.tmp 4) (.tmp 62) rfl w.heap.size false false (upd (fun _ => false) z true) (fun _ => false) rfl rfl R.out.r1 ?_; intro w9 hr9 hg9 hz9))
    refine bodyPost_ret (v := .tuple #[.agg (tokRow false (upd (fun _ => false) z true)).toArray, .int .i64 ((p : Int) + 1)]) (tok_results _ rfl rfl hr9) rfl ⟨ret_tokv ?_ ?_, ?_⟩
    · rw [HC.out]; exact tokRow_congr (fun x hx => by rw [HI.out]; unfold upd; by_cases h : x = z <;> simp [h]; omega)
    · rw [HW.out]; omega
    · exact R.out.bel.grown hg9 (by have := R.out.bel.size; exact this) (by intro k hk; simp at hk; omega)

set_option maxRecDepth 100000 in
set_option maxHeartbeats 8000000 in
theorem next_esc (b off n cap p : Nat) (pat : List Int) (w : World) (hL : Lies w b off pat) (hn : pat.length = n) (hp : p < n) (hb : n ≤ 1048576) (z1 : Nat) (hz : pat[p]? = some 92) (hz1 : pat[p + 1]? = some (z1 : Int)) (z255 : z1 < 256) :
    Calls Try.prog 20 #[.slice (some ⟨b, off, none⟩) n cap, .int .i64 p] w fun e w' => e = .returned (.tuple #[.agg (tokCells pat p).toArray, .int .i64 (p + tokW (pat.drop p) : Nat)]) ∧ Below w.heap.size w w' := by
  have hlt0 : b < w.heap.size := block_lt_of_cell (hL p _ hz)
  have HL : Hid (Lies w b off pat) := hL
  have HN : Hid (pat.length = n) := hn
  have hz0 : (pat.drop p)[0]? = some 92 := by rw [List.getElem?_drop]; exact hz
  have hz1' : (pat.drop p)[1]? = some (z1 : Int) := by rw [List.getElem?_drop]; exact hz1
  have HC : Hid (tokCells pat p = tokRow false (fun x => tokIn (pat.drop p) (x : Int))) := by unfold Hid tokCells; rw [if_neg (by rw [hz]; simp)]
  have HW : Hid (tokW (pat.drop p) = 2) := (tok_esc (c := 0) hz0 hz1').1
  have HI : Hid (∀ x : Int, tokIn (pat.drop p) x = ((z1 : Int) == x)) := fun x => (tok_esc hz0 hz1').2
  have HZ : Hid (pat[p]? = some 92) := hz
  have HZ1 : Hid (pat[p + 1]? = some (z1 : Int)) := hz1
  have hp1 : p + 1 < n := by have := (List.getElem?_eq_some_iff.1 hz1).1; omega
  clear hz0 hz1' hz1
  clear hL hn hz
  go_enter Try.func20, Try.ntmps20
  go_wp2_with (refine wpList_alloc_row _ rfl 35 rfl _ _ zero35 ?_)
  intro w1 hr1 hb1
  go_wp2_with (refine wpList_alloc_row _ rfl 35 rfl _ _ zero35 ?_)
  intro w2 hr2 hb2
  have hs1 := hr1.lt
  have hT := TR.start HL.out hr1 hb1 hr2 hb2
  have HT : Hid (TR w w2 w.heap.size w1.heap.size b off pat (fun _ => false)) := hT
  clear hr1 hb1 hr2 hb2 hT
  generalize hG : w1.heap.size = G2 at *
  clear hG
  have hc2 : w2.cell? ⟨b, off + p, none⟩ = some (.int .u8 92) := HT.out.src p _ HZ.out
  have hc3 : w2.cell? ⟨b, off + (p + 1), none⟩ = some (.int .u8 (z1 : Int)) := HT.out.src (p + 1) _ HZ1.out
  have hgz := HT.out.row z1 z255
  have hfz := HT.out.r2.free (1 + z1)
  have R : Hid (TR w (w2.setCell ⟨G2, 1 + z1, none⟩ (.bool true)) w.heap.size G2 b off pat (upd (fun _ => false) z1 true)) := HT.out.set (Nat.le_refl _) hs1 hlt0 z1 true
  go_wp2_with (first
    | (refine wpList_load_tok _ rfl (.tmp 6) rfl G2 false (upd (fun _ => false) z1 true) rfl R.out.r2 ?_)
    | (refine wpList_store_tok _ rfl (.tmp 4) (.tmp 54) rfl w.heap.size false false (upd (fun _ => false) z1 true) (fun _ => false) rfl rfl R.out.r1 ?_; intro w9 hr9 hg9 hz9))
  refine bodyPost_ret (v := .tuple #[.agg (tokRow false (upd (fun _ => false) z1 true)).toArray, .int .i64 ((p : Int) + 2)]) (tok_results _ rfl rfl hr9) rfl ⟨ret_tokv ?_ ?_, ?_⟩
  · rw [HC.out]; exact tokRow_congr (fun x hx => by rw [HI.out]; unfold upd; by_cases h : x = z1 <;> simp [h]; omega)
  · rw [HW.out]; omega
  · exact R.out.bel.grown hg9 (by have := R.out.bel.size; exact this) (by intro k hk; simp at hk; omega)

set_option maxRecDepth 100000 in
set_option maxHeartbeats 8000000 in
theorem next_any1 (b off n cap p : Nat) (pat : List Int) (w : World) (hL : Lies w b off pat) (hn : pat.length = n) (hp : p < n) (hb : n ≤ 1048576) (hz : pat[p]? = some 63) :
    Calls Try.prog 20 #[.slice (some ⟨b, off, none⟩) n cap, .int .i64 p] w fun e w' => e = .returned (.tuple #[.agg (tokCells pat p).toArray, .int .i64 (p + tokW (pat.drop p) : Nat)]) ∧ Below w.heap.size w w' := by
  have hlt0 : b < w.heap.size := block_lt_of_cell (hL p _ hz)
  have HL : Hid (Lies w b off pat) := hL
  have HN : Hid (pat.length = n) := hn
  have hz0 : (pat.drop p)[0]? = some 63 := by rw [List.getElem?_drop]; exact hz
  have HC : Hid (tokCells pat p = tokRow false (fun x => tokIn (pat.drop p) (x : Int))) := by unfold Hid tokCells; rw [if_neg (by rw [hz]; simp)]
  have HW : Hid (tokW (pat.drop p) = 1) := (tok_any1 (c := 0) hz0).1
  have HI : Hid (∀ x : Int, tokIn (pat.drop p) x = true) := fun x => (tok_any1 hz0).2
  have HZ : Hid (pat[p]? = some 63) := hz
  clear hz0
  clear hL hn hz
  go_enter Try.func20, Try.ntmps20
  go_wp2_with (refine wpList_alloc_row _ rfl 35 rfl _ _ zero35 ?_)
  intro w1 hr1 hb1
  go_wp2_with (refine wpList_alloc_row _ rfl 35 rfl _ _ zero35 ?_)
  intro w2 hr2 hb2
  have hs1 := hr1.lt
  have hT := TR.start HL.out hr1 hb1 hr2 hb2
  have HT : Hid (TR w w2 w.heap.size w1.heap.size b off pat (fun _ => false)) := hT
  clear hr1 hb1 hr2 hb2 hT
  generalize hG : w1.heap.size = G2 at *
  clear hG
  have hc2 : w2.cell? ⟨b, off + p, none⟩ = some (.int .u8 63) := HT.out.src p _ HZ.out
  go_wp2
  go_loopw [8] (fun xv wr => ∃ k : Nat, k ≤ 256 ∧ xv = .int .i64 k ∧ Hid (TR w wr w.heap.size G2 b off pat (fun y => decide (y < k)))) (fun xv _ => 256 - (intOf xv).toNat)
  case atStart => exact ⟨0, by omega, rfl, by simpa using HT⟩
  case round =>
    obtain ⟨k, hk, rfl, hR⟩ := hrel
    clear HT
    by_cases hlt : k < 256
    · have hgz := hR.out.row k hlt
      have hfz := hR.out.r2.free (1 + k)
      have R : Hid (TR w (wr.setCell ⟨G2, 1 + k, none⟩ (.bool true)) w.heap.size G2 b off pat (fun y => decide (y < k + 1))) := by
        have h := hR.out.set (Nat.le_refl _) hs1 hlt0 k true
        have e : upd (fun y => decide (y < k)) k true = fun y => decide (y < k + 1) := by
          funext y; unfold upd; by_cases h : y = k
          · simp [h]
          · simp [h]; omega
        rw [e] at h
        exact h
      go_wp2
      go_roundw
      case rel => exact ⟨k + 1, by omega, by go_num, R⟩
      case measure => simp [intOf]; omega
    · obtain rfl : k = 256 := by omega
      go_wp2_with (first
        | (refine wpList_load_tok _ rfl (.tmp 6) rfl G2 false (fun y => decide (y < 256)) rfl hR.out.r2 ?_)
        | (refine wpList_store_tok _ rfl (.tmp 4) (.tmp 35) rfl w.heap.size false false (fun y => decide (y < 256)) (fun _ => false) rfl rfl hR.out.r1 ?_; intro w9 hr9 hg9 hz9))
      refine bodyPost_ret (v := .tuple #[.agg (tokRow false (fun y => decide (y < 256))).toArray, .int .i64 ((p : Int) + 1)]) (tok_results _ rfl rfl hr9) rfl ⟨ret_tokv ?_ ?_, ?_⟩
      · rw [HC.out]; exact tokRow_congr (fun x hx => by rw [HI.out]; simp [hx])
      · rw [HW.out]; omega
      · exact hR.out.bel.grown hg9 (by have := hR.out.bel.size; exact this) (by intro k hk; simp at hk; omega)
end Go.Proofs.Qxb6600543a
