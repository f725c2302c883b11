import Derived.Test.Qxb6600543aModelParts
namespace Go.Proofs.Qxb6600543a
open Go.ChangeShapes Go.WideShapes Go.ChangeAt Go.RowKit
set_option linter.unusedVariables false

theorem byte_nat (s : ByteArray) (i : Nat) (h : i < s.size) : (s[i]).toNat < 256 := (s[i]).toNat_lt

set_option maxRecDepth 100000 in
set_option maxHeartbeats 16000000 in
theorem model_any (a : Option Addr) (n cap : Nat) (pat : List Int) (s : ByteArray) (w : World) (hP : Pat w a pat) (hn : pat.length = n) (hb : n ≤ 1048576) (hs : s.size ≤ 1048576) (hbd : ∀ z ∈ pat, 0 ≤ z ∧ z ≤ 255) :
    Calls Try.prog 15 #[.slice a n cap, .string s] w fun e w' => e = .returned (.bool (glob (toks pat) (bytesOf s))) ∧ Below w.heap.size w w' := by
  obtain ⟨i4, hi4, hz04, hz14, hz24⟩ := info_parts info4
  have HP : Hid (Pat w a pat) := hP
  have HN : Hid (pat.length = n) := hn
  have HBD : Hid (∀ z ∈ pat, 0 ≤ z ∧ z ≤ 255) := hbd
  clear hP hn hbd
  go_enter Try.func15, Try.ntmps15
  go_wp2_with (at_make; refine wpList_make_row _ rfl (.tmp 16) (.tmp 16) 32 rfl 4 i4 (.bool false) rfl Try.underlying32 hi4 hz04 hz14 .i64 .i64 _ _ (s.size + 1) rfl rfl (by omega) (by omega) (by rw [hz24]; omega) (by unfold maxLen; omega) ?_)
  intro w1 hr1 hb1
  go_wp2_with (at_make; refine wpList_make_row _ rfl (.tmp 19) (.tmp 19) 32 rfl 4 i4 (.bool false) rfl Try.underlying32 hi4 hz04 hz14 .i64 .i64 _ _ (s.size + 1) rfl rfl (by omega) (by omega) (by rw [hz24]; omega) (by unfold maxLen; omega) ?_)
  intro w2 hr2 hb2
  have hs1 := hr1.lt
  have hr1' := hr1.below hb2 hs1
  have hg0 : w2.cell? ⟨w.heap.size, 0, none⟩ = some (.bool false) := by rw [hr1'.cell]; simp
  have hf0 := hr1'.free 0
  have HG : Hid (GR w (w2.setCell ⟨w.heap.size, 0, none⟩ (.bool true)) w.heap.size w1.heap.size s.size (bytesOf s) []) := by
    refine ⟨?_, ⟨_, ?_, hr2.setOther (by show w1.heap.size ≠ w.heap.size; omega) _⟩, (hb1.trans (hb2.mono hb1.size)).setCell (by exact Nat.le_refl _) _⟩
    · have h := hr1'.set 0 (.bool true)
      have e := tab_start (bytesOf s)
      rw [bytesOf_length] at e
      rwa [e] at h
    · simp
  generalize hG2 : w1.heap.size = G2 at *
  clear hG2 hr1 hb1 hr2 hb2 hr1'
  go_wp2
  go_loopw [6, 7, 8] (fun pv cv kv wr => ∃ (gp gc p : Nat) (ts : List (Option (Int → Bool))), p ≤ n ∧ w.heap.size ≤ gp ∧ w.heap.size ≤ gc ∧ gp ≠ gc ∧ kv = .int .i64 p ∧ pv = .slice (some ⟨gp, 0, none⟩) (s.size + 1) (s.size + 1) ∧ cv = .slice (some ⟨gc, 0, none⟩) (s.size + 1) (s.size + 1) ∧ Hid (GR w wr gp gc s.size (bytesOf s) ts) ∧ Hid (toks pat = ts ++ T pat p)) (fun _ _ kv _ => n - (intOf kv).toNat)
  case atStart => exact ⟨w.heap.size, G2, 0, [], Nat.zero_le _, Nat.le_refl _, by omega, by omega, rfl, rfl, rfl, HG, rfl⟩
  case round =>
    obtain ⟨gp, gc, p, ts, hp, hlp, hlc, hne, rfl, rfl, rfl, hR, hT⟩ := hrel
    clear HG hg0 hf0
    by_cases hlt : p < n
    · obtain ⟨z, hz⟩ := at_some HN.out hlt
      have HPw : Hid (Pat wr a pat) := HP.out.below hR.out.bel
      rcases HPw.out with h | ⟨b, off, rfl, hL⟩
      · exfalso; rw [h] at hz; simp at hz
      have HLw : Hid (Lies wr b off pat) := hL
      have HZ : Hid (pat[p]? = some z) := hz
      have hwd := tokW_bd (pat.drop p) (by intro e; have := congrArg List.length e; simp at this; have := HN.out; omega)
      have hw1 := hwd.1
      have hw2 : p + tokW (pat.drop p) ≤ n := by have h := hwd.2; simp [HN.out] at h; omega
      have hgp := hR.out.rp.lt
      have hgc : gc < wr.heap.size := by obtain ⟨_, _, h⟩ := hR.out.rc; exact h.lt
      clear hz hL hwd
      by_cases h42 : z = 42
      · have HC : Hid (tokCells pat p = tokRow true (fun _ => false)) := by unfold Hid tokCells; rw [if_pos (by rw [HZ.out, h42])]
        have HT' : Hid (toks pat = (ts ++ [none]) ++ T pat (p + tokW (pat.drop p))) := by
          unfold Hid
          have e1 : tokW (pat.drop p) = 1 := by unfold tokW; simp [HZ.out, h42]
          rw [hT.out, T_star pat p (by rw [HZ.out, h42]), e1]; simp
        go_wp2_with fail
        refine (next_any b off n cap p pat _ HLw.out HN.out hlt hb HBD.out).mono ?_
        rintro e w5 ⟨rfl, hb5⟩
        rw [HC.out]
        have hs5 := hb5.size
        generalize tokW (pat.drop p) = wd at *
        go_wp2_with (refine wpList_alloc_row _ rfl 35 rfl _ _ zero35 ?_)
        intro w6 hr6 hb6
        go_wp2_with (refine wpList_store_tok _ rfl (.tmp 9) (.tmp 31) rfl w5.heap.size true false (fun _ => false) (fun _ => false) rfl rfl hr6 ?_)
        intro w7 hr7 hg7 hz7
        have ht0 := hr7.cell 0
        rw [tokRow_head] at ht0
        have hs6 := hb6.size
        have hb7 : Below wr.heap.size wr w7 := (hb5.trans (hb6.mono hs5)).grown hg7 (by omega) (by intro k hk; simp at hk; omega)
        have HI : Hid (GI w w7 gp gc w5.heap.size s.size (bytesOf s) ts (ts ++ [none]) true (fun _ => false) 0) := GI.start hR.out hb7 hr7
        have hpv := HI.out.prev (j := 0) (by omega)
        obtain ⟨v0, hcv⟩ := HI.out.cur (by omega)
        have hfr := HI.out.free 0
        have hgt : w5.heap.size ≠ gc := by omega
        rw [List.take_zero] at hpv
        have HI1 : Hid (GI w (w7.setCell ⟨gc, 0, none⟩ (.bool (glob ts []))) gp gc w5.heap.size s.size (bytesOf s) ts (ts ++ [none]) true (fun _ => false) 1) := HI.out.next (by omega) hne hgt hlc _ (by rw [List.take_zero, tab_star_zero])
        generalize hG5 : w5.heap.size = G5 at *
        clear hr7 hg7 hz7 hb7 hr6 hb6 hs6 hb5 hs5 HI hG5
        go_wp2
        go_loopw [11] (fun jv wr2 => ∃ k : Nat, 1 ≤ k ∧ k ≤ s.size + 1 ∧ jv = .int .i64 k ∧ Hid (GI w wr2 gp gc G5 s.size (bytesOf s) ts (ts ++ [none]) true (fun _ => false) k)) (fun jv _ => s.size + 1 - (intOf jv).toNat)
        case atStart => exact ⟨1, Nat.le_refl _, by omega, rfl, HI1⟩
        case round =>
          obtain ⟨k, hk1, hk2, rfl, hK⟩ := hrel
          clear HI1
          by_cases hltk : k ≤ s.size
          · obtain ⟨j, rfl⟩ : ∃ j, k = j + 1 := ⟨k - 1, by omega⟩
            have hp1 := hK.out.prev (j := j + 1) (by omega)
            have hd1 := hK.out.done (j := j) (by omega)
            obtain ⟨v1, hcv1⟩ := hK.out.cur (by omega)
            have hfr1 := hK.out.free (j + 1)
            have HV : Hid (glob (ts ++ [none]) ((bytesOf s).take (j + 1)) = (glob ts ((bytesOf s).take (j + 1)) || glob (ts ++ [none]) ((bytesOf s).take j))) := tab_star_succ ts (bytesOf s) j (by rw [bytesOf_length]; omega)
            generalize glob ts ((bytesOf s).take (j + 1)) = B1 at *
            generalize glob (ts ++ [none]) ((bytesOf s).take j) = B2 at *
            have HN1 : Hid (∀ v : Bool, v = (B1 || B2) → GI w (wr.setCell ⟨gc, j + 1, none⟩ (.bool v)) gp gc G5 s.size (bytesOf s) ts (ts ++ [none]) true (fun _ => false) (j + 2)) := fun v hv => hK.out.next (by omega) hne hgt hlc v (by rw [HV.out]; exact hv)
            cases B1
            all_goals
              go_wp2
              go_roundw
              case rel => exact ⟨j + 2, by omega, by omega, by go_num, HN1.out _ rfl⟩
              case measure => simp [intOf]; omega
          · obtain rfl : k = s.size + 1 := by omega
            have HW2 := hK.out.whole
            have HWW : Hid (GR w wr gc gp s.size (bytesOf s) (ts ++ [none])) := HW2
            clear HW2
            go_wp2
            go_roundw
            case rel => exact ⟨gc, gp, p + wd, ts ++ [none], by omega, by omega, by omega, fun e => hne e.symm, by go_num, rfl, rfl, HWW, HT'⟩
            case measure => simp [intOf]; omega
      · have HC : Hid (tokCells pat p = tokRow false (fun x => tokIn (pat.drop p) (x : Int))) := by unfold Hid tokCells; rw [if_neg (by rw [HZ.out]; simpa using h42)]
        have HT' : Hid (toks pat = (ts ++ [some (tokIn (pat.drop p))]) ++ T pat (p + tokW (pat.drop p))) := by
          unfold Hid
          rw [hT.out, (T_tok pat p z HZ.out h42).1]; simp
        go_wp2_with fail
        refine (next_any b off n cap p pat _ HLw.out HN.out hlt hb HBD.out).mono ?_
        rintro e w5 ⟨rfl, hb5⟩
        rw [HC.out]
        have hs5 := hb5.size
        generalize tokW (pat.drop p) = wd at *
        generalize tokIn (pat.drop p) = tk at *
        go_wp2_with (refine wpList_alloc_row _ rfl 35 rfl _ _ zero35 ?_)
        intro w6 hr6 hb6
        go_wp2_with (refine wpList_store_tok _ rfl (.tmp 9) (.tmp 31) rfl w5.heap.size false false (fun x => tk (x : Int)) (fun _ => false) rfl rfl hr6 ?_)
        intro w7 hr7 hg7 hz7
        have ht0 := hr7.cell 0
        rw [tokRow_head] at ht0
        have hs6 := hb6.size
        have hb7 : Below wr.heap.size wr w7 := (hb5.trans (hb6.mono hs5)).grown hg7 (by omega) (by intro k hk; simp at hk; omega)
        have HI : Hid (GI w w7 gp gc w5.heap.size s.size (bytesOf s) ts (ts ++ [some tk]) false (fun x => tk (x : Int)) 0) := GI.start hR.out hb7 hr7
        have hpv := HI.out.prev (j := 0) (by omega)
        obtain ⟨v0, hcv⟩ := HI.out.cur (by omega)
        have hfr := HI.out.free 0
        have hgt : w5.heap.size ≠ gc := by omega
        rw [List.take_zero] at hpv
        have HI1 : Hid (GI w (w7.setCell ⟨gc, 0, none⟩ (.bool false)) gp gc w5.heap.size s.size (bytesOf s) ts (ts ++ [some tk]) false (fun x => tk (x : Int)) 1) := HI.out.next (by omega) hne hgt hlc _ (by rw [List.take_zero, tab_some_zero])
        generalize hG5 : w5.heap.size = G5 at *
        clear hr7 hg7 hz7 hb7 hr6 hb6 hs6 hb5 hs5 HI hG5
        go_wp2
        go_loopw [12] (fun jv wr2 => ∃ k : Nat, 1 ≤ k ∧ k ≤ s.size + 1 ∧ jv = .int .i64 k ∧ Hid (GI w wr2 gp gc G5 s.size (bytesOf s) ts (ts ++ [some tk]) false (fun x => tk (x : Int)) k)) (fun jv _ => s.size + 1 - (intOf jv).toNat)
        case atStart => exact ⟨1, Nat.le_refl _, by omega, rfl, HI1⟩
        case round =>
          obtain ⟨k, hk1, hk2, rfl, hK⟩ := hrel
          clear HI1
          by_cases hltk : k ≤ s.size
          · obtain ⟨j, rfl⟩ : ∃ j, k = j + 1 := ⟨k - 1, by omega⟩
            have hjs : j < s.size := by omega
            have hp1 := hK.out.prev (j := j) (by omega)
            obtain ⟨v1, hcv1⟩ := hK.out.cur (by omega)
            have hfr1 := hK.out.free (j + 1)
            have hbn := byte_nat s j hjs
            have htc : wr.cell? ⟨G5, 1 + (s[j]).toNat, none⟩ = some (.bool (tk ((s[j]).toNat : Int))) := by rw [hK.out.rt.cell]; exact tokRow_at _ _ _ hbn
            have HV : Hid (glob (ts ++ [some tk]) ((bytesOf s).take (j + 1)) = (glob ts ((bytesOf s).take j) && tk ((s[j]).toNat : Int))) := tab_some_succ ts tk (bytesOf s) j _ (bytesOf_at s j hjs)
            generalize glob ts ((bytesOf s).take j) = B1 at *
            have HN1 : Hid (∀ v : Bool, v = (B1 && tk ((s[j]).toNat : Int)) → GI w (wr.setCell ⟨gc, j + 1, none⟩ (.bool v)) gp gc G5 s.size (bytesOf s) ts (ts ++ [some tk]) false (fun x => tk (x : Int)) (j + 2)) := fun v hv => hK.out.next (by omega) hne hgt hlc v (by rw [HV.out]; exact hv)
            generalize tk ((s[j]).toNat : Int) = B2 at *
            cases B1
            all_goals
              go_wp2
              go_roundw
              case rel => exact ⟨j + 2, by omega, by omega, by go_num, HN1.out _ rfl⟩
              case measure => simp [intOf]; omega
          · obtain rfl : k = s.size + 1 := by omega
            have HW2 := hK.out.whole
            have HWW : Hid (GR w wr gc gp s.size (bytesOf s) (ts ++ [some tk])) := HW2
            clear HW2
            go_wp2
            go_roundw
            case rel => exact ⟨gc, gp, p + wd, ts ++ [some tk], by omega, by omega, by omega, fun e => hne e.symm, by go_num, rfl, rfl, HWW, HT'⟩
            case measure => simp [intOf]; omega
    · have hE : toks pat = ts := by rw [hT.out, T_end pat p (by rw [HN.out]; omega), List.append_nil]
      have hcl : wr.cell? ⟨gp, s.size, none⟩ = some (.bool (glob (toks pat) (bytesOf s))) := by
        rw [hR.out.rp.cell]
        have h := tabTo_at (bytesOf s) ts (s.size + 1) s.size [] (by omega)
        rw [List.append_nil, List.take_of_length_le (by rw [bytesOf_length]; exact Nat.le_refl _)] at h
        rw [h, hE]
      have HB : Hid (Below w.heap.size w wr) := hR.out.bel
      clear hE hR hT
      obtain ⟨res, hres⟩ : ∃ res, glob (toks pat) (bytesOf s) = res := ⟨_, rfl⟩
      rw [hres] at hcl
      have HRS : Hid (glob (toks pat) (bytesOf s) = res) := hres
      clear hres
      go_wp2
      go_ret
      exact ⟨ret_b HRS.out.symm, HB.out⟩
end Go.Proofs.Qxb6600543a
