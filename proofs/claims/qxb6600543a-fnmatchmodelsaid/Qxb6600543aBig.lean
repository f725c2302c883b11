import Derived.Test.Qxb6600543aRows
import Derived.Test.Qxb6600543aMem
import Derived.Deep.WholeRow
import Derived.Laws.ResultCell
namespace Go.Proofs.Qxb6600543a
open Go.RowKit
set_option linter.unusedVariables false

/-- The cells of a class of bytes. -/
def clsRow (f : Nat → Bool) : List Value := (List.range 256).map fun x => .bool (f x)
/-- The cells of a token. -/
def tokRow (st : Bool) (f : Nat → Bool) : List Value := .bool st :: clsRow f
theorem clsRow_length (f : Nat → Bool) : (clsRow f).length = 256 := by simp [clsRow]
theorem tokRow_length (st : Bool) (f : Nat → Bool) : (tokRow st f).length = 257 := by simp [tokRow, clsRow]
theorem clsRow_at (f : Nat → Bool) (x : Nat) (h : x < 256) : (clsRow f)[x]? = some (.bool (f x)) := by simp [clsRow, h]
theorem tokRow_at (st : Bool) (f : Nat → Bool) (x : Nat) (h : x < 256) : (tokRow st f)[1 + x]? = some (.bool (f x)) := by
  rw [Nat.add_comm]; simp [tokRow, clsRow, h]
theorem tokRow_head (st : Bool) (f : Nat → Bool) : (tokRow st f)[0]? = some (.bool st) := rfl
def upd (f : Nat → Bool) (x : Nat) (v : Bool) : Nat → Bool := fun y => if y = x then v else f y
theorem clsRow_set (f : Nat → Bool) (x : Nat) (v : Bool) : (clsRow f).set x (.bool v) = clsRow (upd f x v) := by
  apply List.ext_getElem?
  intro i
  rw [List.getElem?_set]
  by_cases hi : i < 256
  · rw [clsRow_at _ i hi, clsRow_at _ i hi, clsRow_length]
    by_cases h : x = i
    · subst h; simp [upd, hi]
    · have h' : ¬ i = x := fun e => h e.symm
      simp [upd, h, h']
  · have h1 : (clsRow f)[i]? = none := List.getElem?_eq_none (by rw [clsRow_length]; omega)
    have h2 : (clsRow (upd f x v))[i]? = none := List.getElem?_eq_none (by rw [clsRow_length]; omega)
    rw [h1, h2, clsRow_length]
    by_cases h : x = i
    · subst h; simp [hi]
    · simp [h]
theorem tokRow_set (st : Bool) (f : Nat → Bool) (x : Nat) (v : Bool) : (tokRow st f).set (1 + x) (.bool v) = tokRow st (upd f x v) := by
  rw [Nat.add_comm]; simp [tokRow, clsRow_set]
theorem tokRow_setHead (st v : Bool) (f : Nat → Bool) : (tokRow st f).set 0 (.bool v) = tokRow v f := rfl
theorem clsRow_congr {f g : Nat → Bool} (h : ∀ x, x < 256 → f x = g x) : clsRow f = clsRow g := by
  unfold clsRow
  apply List.map_congr_left
  intro x hx
  rw [h x (by simpa using hx)]
theorem tokRow_congr {st : Bool} {f g : Nat → Bool} (h : ∀ x, x < 256 → f x = g x) : tokRow st f = tokRow st g := by
  unfold tokRow; rw [clsRow_congr h]
theorem clsRow_one (f : Nat → Bool) : ∀ u ∈ clsRow f, u.oneCell' = true := by
  intro u hu
  obtain ⟨x, _, rfl⟩ := List.mem_map.1 hu
  rfl
theorem tokRow_one (st : Bool) (f : Nat → Bool) : (tokRow st f).toArray.all (·.oneCell') = true := by
  rw [Array.all_eq_true_iff_forall_mem]
  intro u hu
  have hu' : u ∈ tokRow st f := by simpa using hu
  unfold tokRow at hu'
  rcases List.mem_cons.1 hu' with rfl | h
  · rfl
  · exact clsRow_one f u h

theorem zero33 : (Try.prog.info? 33).map (fun i => (i.zero, i.size)) = some (some (.agg (clsRow fun _ => false).toArray), 256) := by kernel_rfl
theorem zero35 : (Try.prog.info? 35).map (fun i => (i.zero, i.size)) = some (some (.agg (tokRow false fun _ => false).toArray), 257) := by kernel_rfl
theorem size35 : (Try.prog.info? 35).map (·.size) = some 257 := by kernel_rfl

section
variable {P : Program} (w : World)
theorem wpList_alloc_row {ops : Array Oper} {rest : List Oper} {o : Oper} {a : Act} {Q : Exit → Act → World → Prop} (hg : o.guard = none) (t : TypeId) (ho : o.op = .alloc t)
    (cs : List Value) (sz : Nat) (hz : (P.info? t).map (fun i => (i.zero, i.size)) = some (some (.agg cs.toArray), sz))
    (hK : ∀ w', Row w' w.heap.size t cs → Below w.heap.size w w' → wpList P ops Q rest (a.put o.dst (.pointer (some ⟨w.heap.size, 0, none⟩))) w') : wpList P ops Q (o :: rest) a w := by
  refine wpList_plain hg fun K hK' => ?_
  have hzv := (zero_of_info hz).1 w
  unfold Oper.wp execOp
  simp only [ho, Instr.alloc, Sem.run_bind, hzv, Result.andThen_ok, newVar, newRow, newObj, Value.cells]
  refine hK' _ _ (hK _ (Row.new w t cs) ?_)
  exact (Below.refl _ _).alloc (Nat.le_refl _) _

theorem wpList_store_tok {ops : Array Oper} {rest : List Oper} {o : Oper} {a : Act} {Q : Exit → Act → World → Prop} (hg : o.guard = none) (x y : Operand) (ho : o.op = .store 35 x y)
    (g : Nat) (st st0 : Bool) (f f0 : Nat → Bool) (hx : a.eval x = .pointer (some ⟨g, 0, none⟩)) (hy : a.eval y = .agg (tokRow st f).toArray) (hr : Row w g 35 (tokRow st0 f0))
    (hK : ∀ w', Row w' g 35 (tokRow st f) → w.grownBy w' (some g) → w'.heap.size = w.heap.size → wpList Try.prog ops Q rest (a.put o.dst undef) w') : wpList Try.prog ops Q (o :: rest) a w := by
  refine wpList_plain hg fun K hK' => ?_
  refine wp_store_row 35 x y ho g (tokRow st f).toArray hx hy 35 (tokRow st0 f0).toArray hr (by rw [size35]; simp [tokRow_length]) (by simp [tokRow_length]) (tokRow_one st f) ?_
  exact hK' _ _ (hK _ (hr.setRow _) ⟨rfl, rfl, rfl, by simp, fun k _ hk => setRow_other w g k _ (fun e => hk (by simp [e]))⟩ (by simp))

theorem wpList_load_tok {ops : Array Oper} {rest : List Oper} {o : Oper} {a : Act} {Q : Exit → Act → World → Prop} (hg : o.guard = none) (x : Operand) (ho : o.op = .load 35 x)
    (g : Nat) (st : Bool) (f : Nat → Bool) (hx : a.eval x = .pointer (some ⟨g, 0, none⟩)) (hr : Row w g 35 (tokRow st f))
    (hK : wpList Try.prog ops Q rest (a.put o.dst (.agg (tokRow st f).toArray)) w) : wpList Try.prog ops Q (o :: rest) a w :=
  wpList_load_row hg 35 x ho g hx 35 (tokRow st f).toArray (0, 0) _ hr Try.underlying35 rfl (by rw [size35]; simp [tokRow_length]) hK
end
end Go.Proofs.Qxb6600543a
