import Derived.WalkKit
import Derived.Below
import Derived.OneCell
import Derived.Laws.CopyOwn
import Derived.Deep.Quiet
import Derived.Deep.Draws
namespace Go.Proofs.Qxb6600543a
open Go.RowKit

/-- Block b of the world is a row of the cells cs, none of them frozen. -/
def Row (w : World) (b : Nat) (e : TypeId) (cs : List Value) : Prop := w.heap[b]? = some (.cells cs.toArray e (0, 0))

theorem Row.cell {w : World} {b : Nat} {e : TypeId} {cs : List Value} (h : Row w b e cs) (j : Nat) : w.cell? ⟨b, j, none⟩ = cs[j]? := by
  rw [cell_of_row w b j _ e (0, 0) h]; simp
theorem Row.free {w : World} {b : Nat} {e : TypeId} {cs : List Value} (h : Row w b e cs) (j : Nat) : w.frozen? ⟨b, j, none⟩ = false :=
  frozen_of_row w b j _ e h
theorem Row.lt {w : World} {b : Nat} {e : TypeId} {cs : List Value} (h : Row w b e cs) : b < w.heap.size := lt_of_block h
theorem Row.set {w : World} {b : Nat} {e : TypeId} {cs : List Value} (h : Row w b e cs) (j : Nat) (v : Value) : Row (w.setCell ⟨b, j, none⟩ v) b e (cs.set j v) := by
  have := heap_setCell_same w b j _ e v h
  unfold Row
  rw [this]; simp
theorem Row.setOther {w : World} {b : Nat} {e : TypeId} {cs : List Value} (h : Row w b e cs) {a : Addr} (ha : b ≠ a.block) (v : Value) : Row (w.setCell a v) b e cs := by
  unfold Row; rw [heap_setCell_other w a b v ha]; exact h
theorem Row.alloc {w : World} {b : Nat} {e : TypeId} {cs : List Value} (h : Row w b e cs) (o : Obj) : Row (w.alloc o) b e cs := by
  unfold Row; rw [Below.heap_alloc w o b h.lt]; exact h
theorem Row.new (w : World) (e : TypeId) (cs : List Value) : Row (w.alloc (.cells cs.toArray e)) w.heap.size e cs := heap_alloc_new w _
theorem Row.below {w w' : World} {b B : Nat} {e : TypeId} {cs : List Value} (h : Row w b e cs) (hb : Below B w w') (hB : b < B) : Row w' b e cs := by
  unfold Row; rw [hb.block b hB]; exact h
theorem Row.drew {w : World} {b : Nat} {e : TypeId} {cs : List Value} (h : Row w b e cs) : Row w.drew b e cs := h
theorem Row.drewN {w : World} {b : Nat} {e : TypeId} {cs : List Value} (h : Row w b e cs) (n : Nat) : Row (w.drewN n) b e cs := h
theorem Row.setRow {w : World} {b : Nat} {e : TypeId} {cs : List Value} (h : Row w b e cs) (cs' : List Value) : Row (w.setRow b cs'.toArray) b e cs' :=
  setRow_heap w b _ _ e _ h
theorem Row.setRowOther {w : World} {b g : Nat} {e : TypeId} {cs : List Value} (h : Row w b e cs) (hg : b ≠ g) (cs' : Array Value) : Row (w.setRow g cs') b e cs := by
  unfold Row; rw [setRow_other w g b cs' hg]; exact h

/-- A slice that begins at the head of a row of its own, or is nil (then it is empty). -/
def Sl (w : World) (a : Option Addr) (n : Nat) (e : TypeId) (cs : List Value) : Prop :=
  (a = none ∧ n = 0) ∨ ∃ b, a = some ⟨b, 0, none⟩ ∧ Row w b e cs
theorem Sl.below {w w' : World} {a : Option Addr} {n : Nat} {e : TypeId} {cs : List Value} (h : Sl w a n e cs) (hb : Below w.heap.size w w') : Sl w' a n e cs := by
  rcases h with h | ⟨b, h1, h2⟩
  · exact .inl h
  · exact .inr ⟨b, h1, h2.below hb h2.lt⟩
theorem Sl.pos {w : World} {a : Option Addr} {n : Nat} {e : TypeId} {cs : List Value} (h : Sl w a n e cs) (hn : 0 < n) : ∃ b, a = some ⟨b, 0, none⟩ ∧ Row w b e cs := by
  rcases h with ⟨_, h⟩ | h
  · omega
  · exact h

/-- The first k of xs, then zeros. -/
def part (xs : List Value) (z : Value) (k : Nat) : List Value := xs.take k ++ List.replicate (xs.length - k) z
theorem part_zero (xs : List Value) (z : Value) : part xs z 0 = List.replicate xs.length z := by simp [part]
theorem part_full (xs : List Value) (z : Value) : part xs z xs.length = xs := by simp [part]
theorem part_set (xs : List Value) (z v : Value) (k : Nat) (h : xs[k]? = some v) : (part xs z k).set k v = part xs z (k + 1) := by
  obtain ⟨hk, rfl⟩ := List.getElem?_eq_some_iff.1 h
  unfold part
  rw [List.set_append]
  have h1 : ¬ k < (xs.take k).length := by simp; omega
  rw [if_neg h1]
  have e1 : k - (xs.take k).length = 0 := by simp; omega
  rw [e1, List.take_succ_eq_append_getElem hk]
  obtain ⟨m, hm⟩ : ∃ m, xs.length - k = m + 1 := ⟨xs.length - k - 1, by omega⟩
  have hm' : xs.length - (k + 1) = m := by omega
  rw [hm, hm', List.replicate_succ, List.set_cons_zero, List.append_assoc]
  rfl

/-- A slice of integers that came in: empty, or its cells lie at the address. -/
def Came (w : World) (k : IntKind) (a : Option Addr) (xs : List Int) : Prop :=
  (a = none → xs = []) ∧ (xs = [] ∨ ∃ b off, a = some ⟨b, off, none⟩ ∧ ∀ i z, xs[i]? = some z → w.cell? ⟨b, off + i, none⟩ = some (.int k z))

section
variable {P : Program} (w : World)
/-- 'make([]T, n)', T of one cell: the world behind bears a row of zeros. -/
theorem wpList_make_row {ops : Array Oper} {rest : List Oper} {o : Oper} {a : Act} {Q : Exit → Act → World → Prop}
    (hg : o.guard = none) (l c : Operand) (t : TypeId) (hop : o.op = Op.makeSlice t l c)
    (e : TypeId) (i : TypeInfo) (z : Value) (hz : z.cells = #[z]) (h1 : P.underlying t = some (.slice e)) (h2 : P.info? e = some i) (h3 : i.zero = some z) (h4 : i.size = 1)
    (kl kc : IntKind) (L C : Int) (n : Nat) (hl : a.eval l = .int kl L) (hc : a.eval c = .int kc C) (hL : L = (n : Int)) (hC : C = (n : Int)) (b2 : i.bytes * n ≤ 281474976710656) (b3 : n ≤ maxLen)
    (hK : ∀ w', Row w' w.heap.size e (List.replicate n z) → Below w.heap.size w w' → wpList P ops Q rest (a.put o.dst (.slice (some ⟨w.heap.size, 0, none⟩) n n)) w') :
    wpList P ops Q (o :: rest) a w := by
  refine wpList_make_full w hg l c t hop w.heap.size e i z 1 h1 h2 h3 h4 kl kc L C n hl hc hL hC b2 b3 (Nat.le_refl _) ?_
  intro w' hown hgr
  refine hK w' ?_ ((Below.refl _ _).grown hgr (Nat.le_refl _) (by simp))
  rcases hown.2 with ⟨h0, _⟩ | ⟨g, cap, cur, hv, _, hh, _, _, hcs, htake⟩
  · cases h0
  · cases hv
    unfold Row
    rw [hh, ← toList_madeCells_one z n, ← hz]
    have h5 : cur.toList = (madeCells z.cells (n * 1)).toList := by
      rw [← htake, List.take_of_length_le (by simp; omega)]
    rw [Nat.mul_one] at h5
    rw [← h5]
end

end Go.Proofs.Qxb6600543a
