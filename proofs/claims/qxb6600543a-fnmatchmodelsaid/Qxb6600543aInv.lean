import Derived.Test.Qxb6600543aGlob
namespace Go.Proofs.Qxb6600543a

/-- The tokens from place p of the pattern on. -/
def T (pat : List Int) (p : Nat) : List (Option (Int → Bool)) := toks (pat.drop p)
theorem T_end (pat : List Int) (p : Nat) (h : pat.length ≤ p) : T pat p = [] := by unfold T; rw [List.drop_of_length_le h]; rfl
theorem T_star (pat : List Int) (p : Nat) (h : pat[p]? = some 42) : T pat p = none :: T pat (p + 1) := by
  have hp := (List.getElem?_eq_some_iff.1 h).1
  have h0 : (pat.drop p)[0]? = some 42 := by rw [List.getElem?_drop]; exact h
  unfold T
  rw [toks_cons _ (by intro e; rw [e] at h0; simp at h0)]
  have hw : tokW (pat.drop p) = 1 := by simp [tokW, h]
  rw [hw, List.drop_drop]
  simp [tokHd, h]
theorem T_tok (pat : List Int) (p : Nat) (z : Int) (h : pat[p]? = some z) (hz : z ≠ 42) : T pat p = some (tokIn (pat.drop p)) :: T pat (p + tokW (pat.drop p)) ∧ p + tokW (pat.drop p) ≤ pat.length := by
  have hp := (List.getElem?_eq_some_iff.1 h).1
  have h0 : (pat.drop p)[0]? = some z := by rw [List.getElem?_drop]; exact h
  have hne : pat.drop p ≠ [] := by intro e; rw [e] at h0; simp at h0
  have hb := tokW_bd _ hne
  constructor
  · unfold T
    rw [toks_cons _ hne, List.drop_drop]
    simp [tokHd, h, hz]
  · simp at hb; omega

structure MInv (pat nm : List Int) (p i : Nat) (st : Int) (rt : Nat) : Prop where
  pl : p ≤ pat.length
  il : i ≤ nm.length
  rl : rt ≤ i
  s0 : -1 ≤ st
  s1 : st ≤ (p : Int)
  inv : (st = -1 ∧ glob (toks pat) nm = glob (T pat p) (nm.drop i)) ∨
    (∃ sp : Nat, st = (sp : Int) ∧ glob (toks pat) nm = starAny (glob (T pat sp)) (nm.drop rt) ∧ ∃ fs : List (Int → Bool), T pat sp = fs.map some ++ T pat p ∧ fs.length = i - rt ∧ fsOk fs (nm.drop rt) = true)

theorem MInv.start (pat nm : List Int) : MInv pat nm 0 0 (-1) 0 :=
  ⟨Nat.zero_le _, Nat.zero_le _, Nat.le_refl _, by omega, by omega, .inl ⟨rfl, by simp [T]⟩⟩

variable {pat nm : List Int} {p i rt : Nat} {st : Int}
theorem MInv.star (h : MInv pat nm p i st rt) (hp : pat[p]? = some 42) : MInv pat nm (p + 1) i ((p + 1 : Nat) : Int) i := by
  have hpl := (List.getElem?_eq_some_iff.1 hp).1
  have hT := T_star pat p hp
  refine ⟨by omega, h.il, Nat.le_refl _, by omega, by omega, .inr ⟨p + 1, rfl, ?_, [], by simp, by simp, rfl⟩⟩
  rcases h.inv with ⟨_, h1⟩ | ⟨sp, _, h1, fs, h2, h3, h4⟩
  · rw [h1, hT]; rfl
  · have hrl := h.rl
    have hil := h.il
    rw [h1, h2, hT, star_star fs _ _ h4, List.drop_drop, h3, show rt + (i - rt) = i from by omega]
theorem MInv.adv (h : MInv pat nm p i st rt) {z c : Int} (hp : pat[p]? = some z) (hz : z ≠ 42) (hc : nm[i]? = some c) (ht : tokIn (pat.drop p) c = true) : MInv pat nm (p + tokW (pat.drop p)) (i + 1) st rt := by
  obtain ⟨hT, hle⟩ := T_tok pat p z hp hz
  obtain ⟨hi, hci⟩ := List.getElem?_eq_some_iff.1 hc
  have hrl := h.rl
  refine ⟨hle, by omega, by omega, h.s0, by have := h.s1; omega, ?_⟩
  rcases h.inv with ⟨h0, h1⟩ | ⟨sp, h0, h1, fs, h2, h3, h4⟩
  · left
    refine ⟨h0, ?_⟩
    rw [h1, hT, List.drop_eq_getElem_cons hi, hci]
    simp [glob, ht]
  · right
    refine ⟨sp, h0, h1, fs ++ [tokIn (pat.drop p)], ?_, by simp; omega, ?_⟩
    · rw [h2, hT]; simp
    · refine fsOk_snoc fs _ _ c h4 ?_ ht
      rw [List.getElem?_drop, h3, show rt + (i - rt) = i from by omega]
      exact hc
/-- The token at hand does not fit, or none is left. -/
def Miss (pat : List Int) (p : Nat) (c : Int) : Prop := pat.length ≤ p ∨ ∃ z, pat[p]? = some z ∧ z ≠ 42 ∧ tokIn (pat.drop p) c = false
theorem miss_glob {c : Int} (hm : Miss pat p c) (hc : nm[i]? = some c) : glob (T pat p) (nm.drop i) = false := by
  obtain ⟨hi, hci⟩ := List.getElem?_eq_some_iff.1 hc
  rw [List.drop_eq_getElem_cons hi, hci]
  rcases hm with h | ⟨z, h1, h2, h3⟩
  · rw [T_end pat p h]; rfl
  · rw [(T_tok pat p z h1 h2).1]; simp [glob, h3]
theorem MInv.dead (h : MInv pat nm p i (-1) rt) {c : Int} (hm : Miss pat p c) (hc : nm[i]? = some c) : glob (toks pat) nm = false := by
  rcases h.inv with ⟨_, h1⟩ | ⟨sp, h0, _⟩
  · rw [h1]; exact miss_glob hm hc
  · omega
theorem MInv.back (h : MInv pat nm p i st rt) (hst : 0 ≤ st) {c : Int} (hm : Miss pat p c) (hc : nm[i]? = some c) : ∃ sp : Nat, st = (sp : Int) ∧ sp ≤ p ∧ rt < nm.length ∧ MInv pat nm sp (rt + 1) st (rt + 1) := by
  rcases h.inv with ⟨h0, _⟩ | ⟨sp, h0, h1, fs, h2, h3, h4⟩
  · omega
  · have hrl := h.rl
    have hi := (List.getElem?_eq_some_iff.1 hc).1
    have hs1 := h.s1
    have hpl := h.pl
    refine ⟨sp, h0, by omega, by omega, ⟨by omega, by omega, Nat.le_refl _, h.s0, by omega, .inr ⟨sp, h0, ?_, [], by simp, by simp, rfl⟩⟩⟩
    have hg : glob (T pat sp) (nm.drop rt) = false := by
      rw [h2, glob_fs, h4, Bool.true_and, List.drop_drop, h3, show rt + (i - rt) = i from by omega]
      exact miss_glob hm hc
    rw [h1, List.drop_eq_getElem_cons (show rt < nm.length by omega)]
    rw [List.drop_eq_getElem_cons (show rt < nm.length by omega)] at hg
    simp only [starAny, hg, Bool.false_or]
theorem MInv.atEnd (h : MInv pat nm p i st rt) (hi : i = nm.length) : glob (toks pat) nm = glob (T pat p) [] := by
  rcases h.inv with ⟨_, h1⟩ | ⟨sp, _, h1, fs, h2, h3, h4⟩
  · rw [h1, List.drop_of_length_le (by omega)]
  · rw [h1, h2]
    exact star_end fs _ _ h4 (by simp; omega)
theorem skip_star (hp : pat[p]? = some 42) : glob (T pat p) [] = glob (T pat (p + 1)) [] := by rw [T_star pat p hp]; rfl
theorem skip_tok {z : Int} (hp : pat[p]? = some z) (hz : z ≠ 42) : glob (T pat p) [] = false := by rw [(T_tok pat p z hp hz).1]; rfl
theorem skip_end (h : pat.length ≤ p) : glob (T pat p) [] = true := by rw [T_end pat p h]; rfl

/-- A measure that each round lowers. -/
def mes (L N i : Nat) (st : Int) (rt : Nat) : Nat := ((L : Int) - st).toNat * ((N + 2) * (N + 2)) + (N - rt) * (N + 2) + (N - i)
theorem mes_adv (L N i : Nat) (st : Int) (rt : Nat) (h : i < N) : mes L N (i + 1) st rt < mes L N i st rt := by unfold mes; omega
theorem mes_back (L N i : Nat) (st : Int) (rt : Nat) (h : rt < N) : mes L N (rt + 1) st (rt + 1) < mes L N i st rt := by
  unfold mes
  have e : (N - rt) * (N + 2) = (N - (rt + 1)) * (N + 2) + (N + 2) := by
    rw [show N - rt = (N - (rt + 1)) + 1 from by omega, Nat.add_mul, Nat.one_mul]
  omega
theorem mes_star (L N i : Nat) (st st' : Int) (rt : Nat) (h : st < st') (h' : st' ≤ L) : mes L N i st' i < mes L N i st rt := by
  unfold mes
  obtain ⟨A, hA⟩ : ∃ A, ((L : Int) - st').toNat = A := ⟨_, rfl⟩
  obtain ⟨B, hB⟩ : ∃ B, ((L : Int) - st).toNat = A + 1 + B := ⟨((L : Int) - st).toNat - A - 1, by omega⟩
  have h2 : (N + 2) * (N + 2) = N * (N + 2) + 2 * (N + 2) := Nat.add_mul N 2 (N + 2)
  rw [hA, hB]
  obtain ⟨D, hD⟩ : ∃ D, (N + 2) * (N + 2) = D := ⟨_, rfl⟩
  rw [hD] at h2 ⊢
  have e1 : (A + 1 + B) * D = A * D + D + B * D := by rw [Nat.add_mul, Nat.add_mul, Nat.one_mul]
  rw [e1]
  have h1 : (N - i) * (N + 2) ≤ N * (N + 2) := Nat.mul_le_mul_right _ (by omega)
  omega
end Go.Proofs.Qxb6600543a
