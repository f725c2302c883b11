import Derived.Test.Qxb6600543aMem
import Derived.ProofKit
namespace Go.Proofs.Qxb6600543a
open Go.ChangeShapes Go.WideShapes Go.ChangeAt Go.RowKit
set_option linter.unusedVariables false

/-- A slice of integers that came in (the frame's own words). -/
def RowIn (k : IntKind) (w : World) (a : Option Addr) (len cap : Nat) (zs : List Int) : Prop :=
  (a = none ∧ len = 0 ∧ cap = 0 ∧ zs = []) ∨
  ∃ x, a = some x ∧ len ≤ cap ∧ cap ≤ maxLen ∧ zs.length = cap ∧ (∀ i, i < zs.length → w.cell? (x.add i) = some (.int k (zs.getD i 0))) ∧ ∀ n ∈ zs, (Lit.int k n).wf = true

theorem RowIn.came {k : IntKind} {w : World} {a : Option Addr} {len cap : Nat} {zs : List Int} (h : RowIn k w a len cap zs) :
    Came w k a (zs.take len) ∧ (zs.take len).length = len ∧ len ≤ maxLen := by
  rcases h with ⟨rfl, rfl, rfl, rfl⟩ | ⟨x, rfl, h1, h2, h3, h4, _⟩
  · exact ⟨⟨fun _ => rfl, .inl rfl⟩, rfl, Nat.zero_le _⟩
  · refine ⟨⟨fun h => (by cases h), ?_⟩, by simp; omega, Nat.le_trans h1 h2⟩
    by_cases h0 : len = 0
    · left; subst h0; simp
    · right
      have hx := h4 0 (by omega)
      obtain ⟨b, off, sp⟩ := x
      have hsp : sp = none := by
        simp only [Addr.add, if_true, World.cell?] at hx
        split at hx
        · cases sp with
          | none => rfl
          | some s => simp at hx
        · cases hx
      subst hsp
      refine ⟨b, off, rfl, fun i z hz => ?_⟩
      obtain ⟨hi, hz'⟩ := List.getElem?_eq_some_iff.1 hz
      have hi2 : i < zs.length := by simp at hi; omega
      have := h4 i hi2
      rw [Addr.add_lit] at this
      rw [this]
      simp at hz'
      simp [List.getD, hi2, hz']

end Go.Proofs.Qxb6600543a
