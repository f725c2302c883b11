import Derived.Test.Qxb6600543aTokSet
import Derived.Test.Qxb6600543aMatch
namespace Go.Proofs.Qxb6600543a
open Go.ChangeShapes Go.WideShapes Go.ChangeAt Go.RowKit
set_option linter.unusedVariables false

theorem info4 : (Try.prog.info? 4).map (fun i => (i.zero, i.size, i.bytes)) = some (some (.bool false), 1, 1) := by kernel_rfl

theorem Pat.below {w w' : World} {a : Option Addr} {pat : List Int} (h : Pat w a pat) (hb : Below w.heap.size w w') : Pat w' a pat := by
  rcases h with h | ⟨b, off, e, hL⟩
  · exact .inl h
  · exact .inr ⟨b, off, e, fun i z hz => (hb.cell (p := ⟨b, off + i, none⟩) (block_lt_of_cell (hL i z hz))).trans (hL i z hz)⟩

/-- The first k places of the table for the tokens ts. -/
def tabTo (nm : List Int) (ts : List (Option (Int → Bool))) (k : Nat) : List Value := (List.range k).map fun j => .bool (glob ts (nm.take j))
theorem tabTo_length (nm : List Int) (ts : List (Option (Int → Bool))) (k : Nat) : (tabTo nm ts k).length = k := by simp [tabTo]
theorem tabTo_at (nm : List Int) (ts : List (Option (Int → Bool))) (k j : Nat) (r : List Value) (h : j < k) : (tabTo nm ts k ++ r)[j]? = some (.bool (glob ts (nm.take j))) := by
  rw [List.getElem?_append_left (by rw [tabTo_length]; exact h)]
  simp [tabTo, h]
theorem tabTo_set (nm : List Int) (ts : List (Option (Int → Bool))) (k : Nat) (x : Value) (r : List Value) : (tabTo nm ts k ++ x :: r).set k (.bool (glob ts (nm.take k))) = tabTo nm ts (k + 1) ++ r := by
  rw [List.set_append_right _ _ (by rw [tabTo_length]; exact Nat.le_refl _), tabTo_length, Nat.sub_self, List.set_cons_zero]
  have : tabTo nm ts (k + 1) = tabTo nm ts k ++ [.bool (glob ts (nm.take k))] := by simp [tabTo, List.range_succ]
  rw [this]; simp
theorem tab_start (nm : List Int) : (List.replicate (nm.length + 1) (Value.bool false)).set 0 (.bool true) = tabTo nm [] (nm.length + 1) := by
  apply List.ext_getElem?
  intro i
  by_cases hi : i < nm.length + 1
  · have h1 : (tabTo nm [] (nm.length + 1))[i]? = some (.bool (glob [] (nm.take i))) := by
      have := tabTo_at nm [] (nm.length + 1) i [] hi
      rwa [List.append_nil] at this
    rw [h1]
    cases i with
    | zero => simp [glob]
    | succ j =>
      rw [tab_nil_succ nm j (by omega), List.getElem?_set_ne (by omega), List.getElem?_replicate, if_pos (by omega)]
  · rw [List.getElem?_eq_none (by simp; omega), List.getElem?_eq_none (by rw [tabTo_length]; omega)]

/-- The memory of zzGlobModel between two tokens. -/
structure GR (w wr : World) (gp gc N : Nat) (nm : List Int) (ts : List (Option (Int → Bool))) : Prop where
  rp : Row wr gp 4 (tabTo nm ts (N + 1))
  rc : ∃ cs : List Value, cs.length = N + 1 ∧ Row wr gc 4 cs
  bel : Below w.heap.size w wr
/-- .. and while the next row of the table is filled. -/
structure GI (w wr : World) (gp gc gt N : Nat) (nm : List Int) (ts ts' : List (Option (Int → Bool))) (st : Bool) (f : Nat → Bool) (k : Nat) : Prop where
  rp : Row wr gp 4 (tabTo nm ts (N + 1))
  rc : ∃ r : List Value, r.length = N + 1 - k ∧ Row wr gc 4 (tabTo nm ts' k ++ r)
  rt : Row wr gt 35 (tokRow st f)
  bel : Below w.heap.size w wr
variable {w wr w1 : World} {gp gc gt N k : Nat} {nm : List Int} {ts ts' : List (Option (Int → Bool))} {st : Bool} {f : Nat → Bool}
theorem GI.next (h : GI w wr gp gc gt N nm ts ts' st f k) (hk : k < N + 1) (h1 : gp ≠ gc) (h2 : gt ≠ gc) (h3 : w.heap.size ≤ gc) (v : Bool) (hv : v = glob ts' (nm.take k)) :
    GI w (wr.setCell ⟨gc, k, none⟩ (.bool v)) gp gc gt N nm ts ts' st f (k + 1) := by
  obtain ⟨r, hr, hrow⟩ := h.rc
  subst hv
  refine ⟨h.rp.setOther (by exact h1) _, ?_, h.rt.setOther (by exact h2) _, h.bel.setCell (by exact h3) _⟩
  cases r with
  | nil => simp at hr; omega
  | cons x r =>
    refine ⟨r, by simp at hr; omega, ?_⟩
    have := hrow.set k (.bool (glob ts' (nm.take k)))
    rwa [tabTo_set] at this
theorem GI.cur (h : GI w wr gp gc gt N nm ts ts' st f k) (hk : k < N + 1) : ∃ v, wr.cell? ⟨gc, k, none⟩ = some v := by
  obtain ⟨r, hr, hrow⟩ := h.rc
  rw [hrow.cell]
  exact ⟨_, List.getElem?_eq_getElem (by rw [List.length_append, tabTo_length, hr]; omega)⟩
theorem GI.free (h : GI w wr gp gc gt N nm ts ts' st f k) (j : Nat) : wr.frozen? ⟨gc, j, none⟩ = false := by
  obtain ⟨r, hr, hrow⟩ := h.rc
  exact hrow.free j
theorem GI.prev (h : GI w wr gp gc gt N nm ts ts' st f k) {j : Nat} (hj : j < N + 1) : wr.cell? ⟨gp, j, none⟩ = some (.bool (glob ts (nm.take j))) := by
  rw [h.rp.cell]
  have := tabTo_at nm ts (N + 1) j [] hj
  rwa [List.append_nil] at this
theorem GI.done (h : GI w wr gp gc gt N nm ts ts' st f k) {j : Nat} (hj : j < k) : wr.cell? ⟨gc, j, none⟩ = some (.bool (glob ts' (nm.take j))) := by
  obtain ⟨r, hr, hrow⟩ := h.rc
  rw [hrow.cell]; exact tabTo_at nm ts' k j r hj
theorem GI.whole (h : GI w wr gp gc gt N nm ts ts' st f (N + 1)) : GR w wr gc gp N nm ts' := by
  obtain ⟨r, hr, hrow⟩ := h.rc
  have : r = [] := List.eq_nil_of_length_eq_zero (by omega)
  subst this
  rw [List.append_nil] at hrow
  exact ⟨hrow, ⟨_, tabTo_length _ _ _, h.rp⟩, h.bel⟩
theorem GI.start (h : GR w wr gp gc N nm ts) (hb : Below wr.heap.size wr w1) (hgt : Row w1 gt 35 (tokRow st f)) : GI w w1 gp gc gt N nm ts ts' st f 0 := by
  obtain ⟨cs, hl, hr⟩ := h.rc
  refine ⟨h.rp.below hb h.rp.lt, ⟨cs, by omega, ?_⟩, hgt, h.bel.trans (hb.mono h.bel.size)⟩
  exact hr.below hb hr.lt
end Go.Proofs.Qxb6600543a
