import Derived.Test.Qxb6600543aByte
import Derived.Test.Qxb6600543aInv
namespace Go.Proofs.Qxb6600543a
open Go.ChangeShapes Go.WideShapes Go.ChangeAt Go.RowKit
set_option linter.unusedVariables false

def bytesOf (s : ByteArray) : List Int := s.data.toList.map fun c => (c.toNat : Int)
theorem bytesOf_length (s : ByteArray) : (bytesOf s).length = s.size := by simp [bytesOf]
theorem bytesOf_at (s : ByteArray) (i : Nat) (h : i < s.size) : (bytesOf s)[i]? = some ((s[i]).toNat : Int) := by
  have h' : i < s.data.toList.length := by simpa using h
  simp only [bytesOf, List.getElem?_map, List.getElem?_eq_getElem h', Option.map_some]
  rfl
theorem byte_bounds (s : ByteArray) (i : Nat) (h : i < s.size) : 0 ≤ ((s[i]).toNat : Int) ∧ ((s[i]).toNat : Int) ≤ 255 := by
  have := (s[i]).toNat_lt; omega
theorem drop_bd {pat : List Int} (h : ∀ z ∈ pat, 0 ≤ z ∧ z ≤ 255) (p : Nat) : ∀ z ∈ pat.drop p, 0 ≤ z ∧ z ≤ 255 := fun z hz => h z (List.mem_of_mem_drop hz)

/-- A slice of bytes reads as the pattern. -/
def Pat (w : World) (a : Option Addr) (pat : List Int) : Prop := pat = [] ∨ ∃ b off, a = some ⟨b, off, none⟩ ∧ Lies w b off pat
theorem ret_b {x y : Bool} (h : x = y) : Ending.returned (.bool x) = .returned (.bool y) := by rw [h]

set_option maxRecDepth 100000 in
set_option maxHeartbeats 4000000 in
theorem match_any (a : Option Addr) (n cap : Nat) (pat : List Int) (s : ByteArray) (w : World) (hP : Pat w a pat) (hn : pat.length = n) (hcap : n ≤ cap) (hb : n ≤ 1048576) (hs : s.size ≤ 1048576) (hbd : ∀ z ∈ pat, 0 ≤ z ∧ z ≤ 255) :
    Calls Try.prog 19 #[.slice a n cap, .string s] w fun e w' => e = .returned (.bool (glob (toks pat) (bytesOf s))) ∧ ∃ m, w' = w.drewN m := by
  have HP : Hid (Pat w a pat) := hP
  have HN : Hid (pat.length = n) := hn
  have HBD : Hid (∀ z ∈ pat, 0 ≤ z ∧ z ≤ 255) := hbd
  clear hP hn hbd
  go_enter Try.func19, Try.ntmps19
  go_wp2
  go_loopw [5, 6, 7, 8] (fun pv iv sv rv wr => ∃ (p i rt : Nat) (st : Int), p ≤ n ∧ i ≤ s.size ∧ rt ≤ i ∧ -1 ≤ st ∧ st ≤ (p : Int) ∧ pv = .int .i64 p ∧ iv = .int .i64 i ∧ sv = .int .i64 st ∧ rv = .int .i64 rt ∧ Hid (MInv pat (bytesOf s) p i st rt) ∧ Hid (Pat wr a pat) ∧ Hid (∃ m, wr = w.drewN m)) (fun _ iv sv rv _ => mes n s.size (intOf iv).toNat (intOf sv) (intOf rv).toNat)
  case atStart => exact ⟨0, 0, 0, -1, Nat.zero_le _, Nat.zero_le _, Nat.le_refl _, by omega, by omega, rfl, rfl, rfl, rfl, MInv.start _ _, HP, 0, rfl⟩
  case round =>
    obtain ⟨p, i, rt, st, hp, hi, hrt, hs0, hs1, rfl, rfl, rfl, rfl, hM, hPw, hDw⟩ := hrel
    clear HP
    by_cases hlt : i < s.size
    · obtain ⟨c0, c1⟩ := byte_bounds s i hlt
      have HC : Hid ((bytesOf s)[i]? = some ((s[i]).toNat : Int)) := bytesOf_at s i hlt
      by_cases hpn : p < n
      · obtain ⟨z, hz⟩ := at_some HN.out hpn
        rcases hPw.out with h | ⟨b, off, rfl, hL⟩
        · exfalso; rw [h] at hz; simp at hz
        have hcz : wr.cell? ⟨b, off + p, none⟩ = some (.int .u8 z) := hL p z hz
        have HZ : Hid (pat[p]? = some z) := hz
        have HL : Hid (Lies wr b off pat) := hL
        clear hz hL
        by_cases h42 : z = 42
        · subst h42
          have HM : Hid (MInv pat (bytesOf s) (p + 1) i ((p + 1 : Nat) : Int) i) := hM.out.star HZ.out
          have hlem := mes_star n s.size i st ((p + 1 : Nat) : Int) rt (by omega) (by omega)
          have HLM : Hid (mes n s.size i ((p + 1 : Nat) : Int) i < mes n s.size i st rt) := hlem
          clear hlem
          go_wp2
          go_roundw
          case rel => exact ⟨p + 1, i, i, ((p + 1 : Nat) : Int), by omega, by omega, Nat.le_refl _, by omega, by omega, by go_num, rfl, by go_num, rfl, HM, hPw, hDw⟩
          case measure => simpa [intOf] using HLM.out
        · have q42 : (z == 42) = false := by simp [h42]
          have hne : ¬ cap = p := by omega
          have hle : n - p ≤ 1048576 := by omega
          have h0n : 0 < n - p := by omega
          have HW := tokW_bd (pat.drop p) (by intro e; have := congrArg List.length e; simp at this; have := HN.out; omega)
          have HW2 : tokW (pat.drop p) ≤ n - p := by have := HN.out; have := HW.2; simp at this; omega
          have HT : Hid (∃ tk : Bool, tokIn (pat.drop p) ((s[i]).toNat : Int) = tk) := ⟨_, rfl⟩
          obtain ⟨tk, htk⟩ := HT.out
          have HTK : Hid (tokIn (pat.drop p) ((s[i]).toNat : Int) = tk) := htk
          clear HT htk HW
          go_wp2
          go_quiet ((go_at_call 22; refine Calls.quiet_of ((byte_any b (off + p) (n - p) (cap - p) (pat.drop p) _ _ (HL.out.drop p) (by simp [HN.out]) h0n hle c0 c1 (drop_bd HBD.out p)))))
          rw [HTK.out]
          cases tk with
          | true =>
            have HM : Hid (MInv pat (bytesOf s) (p + tokW (pat.drop p)) (i + 1) st rt) := hM.out.adv HZ.out h42 HC.out HTK.out
            generalize tokW (pat.drop p) = wd at *
            have HLM : Hid (mes n s.size (i + 1) st rt < mes n s.size i st rt) := mes_adv n s.size i st rt hlt
            go_wp2
            go_roundw
            case rel => exact ⟨p + wd, i + 1, rt, st, by omega, by omega, by omega, by omega, by omega, by go_num, by go_num, rfl, rfl, HM, hPw, by obtain ⟨m, rfl⟩ := hDw.out; exact ⟨m + nq, by rw [World.drewN_drewN]⟩⟩
            case measure =>
              have h := HLM.out
              simp only [intOf]
              rw [show ((i : Int) + 1).toNat = i + 1 from by omega, Int.toNat_natCast, Int.toNat_natCast]
              exact h
          | false =>
            have HMS : Hid (Miss pat p ((s[i]).toNat : Int)) := .inr ⟨z, HZ.out, h42, HTK.out⟩
            by_cases hneg : st < 0
            · obtain rfl : st = -1 := by omega
              have HD : Hid (glob (toks pat) (bytesOf s) = false) := hM.out.dead HMS.out HC.out
              go_wp2
              go_ret
              exact ⟨ret_b (by rw [HD.out]), by obtain ⟨m, rfl⟩ := hDw.out; exact ⟨m + nq, by rw [World.drewN_drewN]⟩⟩
            · obtain ⟨sp, rfl, hsp, hrn, HM⟩ := hM.out.back (by omega) HMS.out HC.out
              rw [bytesOf_length] at hrn
              have HMM : Hid (MInv pat (bytesOf s) sp (rt + 1) (sp : Int) (rt + 1)) := HM
              have HLM : Hid (mes n s.size (rt + 1) (sp : Int) (rt + 1) < mes n s.size i (sp : Int) rt) := mes_back n s.size i (sp : Int) rt hrn
              clear HM
              go_wp2
              go_roundw
              case rel => exact ⟨sp, rt + 1, rt + 1, (sp : Int), by omega, by omega, Nat.le_refl _, by omega, by omega, rfl, by go_num, rfl, by go_num, HMM, hPw, by obtain ⟨m, rfl⟩ := hDw.out; exact ⟨m + nq, by rw [World.drewN_drewN]⟩⟩
              case measure =>
                have h := HLM.out
                simp only [intOf]
                rw [show ((rt : Int) + 1).toNat = rt + 1 from by omega, Int.toNat_natCast, Int.toNat_natCast]
                exact h
      · obtain rfl : p = n := by omega
        have HMS : Hid (Miss pat p ((s[i]).toNat : Int)) := .inl (by rw [HN.out]; exact Nat.le_refl _)
        by_cases hneg : st < 0
        · obtain rfl : st = -1 := by omega
          have HD : Hid (glob (toks pat) (bytesOf s) = false) := hM.out.dead HMS.out HC.out
          go_wp2
          go_ret
          exact ⟨ret_b (by rw [HD.out]), hDw.out⟩
        · obtain ⟨sp, rfl, hsp, hrn, HM⟩ := hM.out.back (by omega) HMS.out HC.out
          rw [bytesOf_length] at hrn
          have HMM : Hid (MInv pat (bytesOf s) sp (rt + 1) (sp : Int) (rt + 1)) := HM
          have HLM : Hid (mes p s.size (rt + 1) (sp : Int) (rt + 1) < mes p s.size i (sp : Int) rt) := mes_back p s.size i (sp : Int) rt hrn
          clear HM
          go_wp2
          go_roundw
          case rel => exact ⟨sp, rt + 1, rt + 1, (sp : Int), by omega, by omega, Nat.le_refl _, by omega, by omega, rfl, by go_num, rfl, by go_num, HMM, hPw, hDw⟩
          case measure =>
            have h := HLM.out
            simp only [intOf]
            rw [show ((rt : Int) + 1).toNat = rt + 1 from by omega, Int.toNat_natCast, Int.toNat_natCast]
            exact h
    · have hG := hM.out.atEnd (by rw [bytesOf_length]; omega)
      have HG : Hid (glob (toks pat) (bytesOf s) = glob (T pat p) []) := hG
      clear hG
      go_wp2
      go_loopw [5] (fun pv wr2 => ∃ (r : Nat), r ≤ n ∧ pv = .int .i64 r ∧ Hid (glob (toks pat) (bytesOf s) = glob (T pat r) []) ∧ wr2 = wr) (fun pv _ => n - (intOf pv).toNat)
      case atStart => exact ⟨p, hp, rfl, HG, rfl⟩
      case round =>
        obtain ⟨r, hr, rfl, hGr, rfl⟩ := hrel
        by_cases hrn : r < n
        · obtain ⟨z, hz⟩ := at_some HN.out hrn
          rcases hPw.out with h | ⟨b, off, rfl, hL⟩
          · exfalso; rw [h] at hz; simp at hz
          have hcz : wr.cell? ⟨b, off + r, none⟩ = some (.int .u8 z) := hL r z hz
          have HZ : Hid (pat[r]? = some z) := hz
          clear hz hL
          by_cases h42 : z = 42
          · subst h42
            have HG2 : Hid (glob (toks pat) (bytesOf s) = glob (T pat (r + 1)) []) := by unfold Hid; rw [hGr.out, skip_star HZ.out]
            go_wp2
            go_roundw
            case rel => exact ⟨r + 1, by omega, by go_num, HG2, trivial⟩
            case measure => simp [intOf]; omega
          · have q42 : (z == 42) = false := by simp [h42]
            have HF : Hid (glob (toks pat) (bytesOf s) = false) := by unfold Hid; rw [hGr.out, skip_tok HZ.out h42]
            have hbq : ((r : Int) == (n : Int)) = false := by rw [beq_eq_false_iff_ne]; omega
            go_wp2
            go_ret
            exact ⟨ret_b (by rw [HF.out]), hDw.out⟩
        · obtain rfl : r = n := by omega
          have HF : Hid (glob (toks pat) (bytesOf s) = true) := by unfold Hid; rw [hGr.out, skip_end (by rw [HN.out]; exact Nat.le_refl _)]
          go_wp2
          go_ret
          exact ⟨ret_b (by rw [HF.out]), hDw.out⟩
end Go.Proofs.Qxb6600543a
