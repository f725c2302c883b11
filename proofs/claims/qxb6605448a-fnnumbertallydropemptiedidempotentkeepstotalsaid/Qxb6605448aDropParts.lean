import Derived.Test.Qxb6605448aTally
namespace Go.Proofs.Qxb6605448a
open Go.ChangeShapes Go.WideShapes Go.ChangeAt Go.RowKit

theorem info48 : (Try.prog.info? 48).map (fun i => (i.zero, i.size, i.bytes)) = some (some (.agg #[.int .u64 0, .int .i64 0, .int .u64 0]), 3, 24) := by kernel_rfl

theorem Row.grown {w w' : World} {b : Nat} {g : Option Nat} {e : TypeId} {cs : List Value} (h : Row w b e cs) (hg : w.grownBy w' g) (hb : some b ≠ g) : Row w' b e cs := by
  unfold Row; rw [hg.block b h.lt hb]; exact h

section
variable {P : Program} (w : World)
/-- 'append' into a row that has room: the row behind is told whole. -/
theorem wpList_append_into {ops : Array Oper} {rest : List Oper} {o : Oper} {a : Act} {Q : Exit → Act → World → Prop}
    (hg : o.guard = none) (s x : Operand) (t : TypeId) (hop : o.op = Op.call { callee := Callee.builtin Builtin.append, args := #[s, x], argTypes := #[t, t] })
    (e : TypeId) (i : TypeInfo) (size : Nat) (h1 : P.underlying t = some (.slice e)) (h2 : P.info? e = some i) (h4 : i.size = size)
    (g k cap : Nat) (cur : List Value) (hs : a.eval s = .slice (some ⟨g, 0, none⟩) k cap) (hrow : Row w g e cur) (ad : Addr) (m c : Nat) (news : List Value) (hx : a.eval x = .slice (some ad) m c) (hn : news.length = m * size)
    (hc : ∀ j u, news[j]? = some u → w.cell? (ad.add j) = some u) (h1c : ∀ u ∈ news, u.oneCell' = true) (b1 : k + m ≤ cap) (b2 : k * size + news.length ≤ cur.length)
    (hK : ∀ w', Row w' g e (cur.take (k * size) ++ news ++ cur.drop (k * size + news.length)) → w.grownBy w' (some g) → wpList P ops Q rest (a.put o.dst (.slice (some ⟨g, 0, none⟩) (k + m) cap)) w') :
    wpList P ops Q (o :: rest) a w := by
  subst h4
  refine wpList_plain hg fun K hK' => ?_
  have hrun := run_append_room (P := P) w t o.type e i h1 h2 g k cap cur.toArray hrow ad m c news hn hc h1c b1 (by simpa using b2)
  unfold Oper.wp
  simp only [execOp, hop, resolve, invoke, builtin, Sem.run_bind, Sem.run_pure, Result.andThen_ok, List.map_toArray, List.map_cons, List.map_nil, hs, hx, hrun]
  refine hK' _ _ (hK _ ?_ ⟨rfl, rfl, rfl, by simp, fun k _ hk => setRow_other w g k _ (fun e => hk (by simp [e]))⟩)
  exact hrow.setRow _

/-- 'make([]T, 0, n)': the world behind bears a row with room for n. -/
theorem wpList_make_cap {ops : Array Oper} {rest : List Oper} {o : Oper} {a : Act} {Q : Exit → Act → World → Prop}
    (hg : o.guard = none) (l c : Operand) (t : TypeId) (hop : o.op = Op.makeSlice t l c)
    (e : TypeId) (i : TypeInfo) (z : Value) (size : Nat) (h1 : P.underlying t = some (.slice e)) (h2 : P.info? e = some i) (h3 : i.zero = some z) (h4 : i.size = size)
    (kl kc : IntKind) (C : Int) (n : Nat) (hl : a.eval l = .int kl 0) (hc : a.eval c = .int kc C) (hC : C = (n : Int)) (b2 : i.bytes * n ≤ 281474976710656) (b3 : n ≤ maxLen)
    (hK : ∀ w' cur, cur.length = n * size → Row w' w.heap.size e cur → Below w.heap.size w w' → wpList P ops Q rest (a.put o.dst (.slice (some ⟨w.heap.size, 0, none⟩) 0 n)) w') :
    wpList P ops Q (o :: rest) a w := by
  refine wpList_make_own w hg l c t hop w.heap.size e i z size h1 h2 h3 h4 kl kc C n hl hc hC b2 b3 (Nat.le_refl _) ?_
  intro w' hown hgr
  rcases hown.2 with ⟨h0, _⟩ | ⟨g, cap, cur, hv, _, hh, _, _, hcs, htake⟩
  · cases h0
  · cases hv
    exact hK w' cur.toList (by simpa using hcs) (by unfold Row; simpa using hh) ((Below.refl _ _).grown hgr (Nat.le_refl _) (by simp))

/-- 'make([]T, n)', T of any size: a row of the right length. -/
theorem wpList_make_any {ops : Array Oper} {rest : List Oper} {o : Oper} {a : Act} {Q : Exit → Act → World → Prop}
    (hg : o.guard = none) (l c : Operand) (t : TypeId) (hop : o.op = Op.makeSlice t l c)
    (e : TypeId) (i : TypeInfo) (z : Value) (size : Nat) (h1 : P.underlying t = some (.slice e)) (h2 : P.info? e = some i) (h3 : i.zero = some z) (h4 : i.size = size)
    (kl kc : IntKind) (L C : Int) (n : Nat) (hl : a.eval l = .int kl L) (hc : a.eval c = .int kc C) (hL : L = (n : Int)) (hC : C = (n : Int)) (b2 : i.bytes * n ≤ 281474976710656) (b3 : n ≤ maxLen)
    (hK : ∀ w' cur, cur.length = n * size → Row w' w.heap.size e cur → Below w.heap.size w w' → wpList P ops Q rest (a.put o.dst (.slice (some ⟨w.heap.size, 0, none⟩) n n)) w') :
    wpList P ops Q (o :: rest) a w := by
  refine wpList_make_full w hg l c t hop w.heap.size e i z size h1 h2 h3 h4 kl kc L C n hl hc hL hC b2 b3 (Nat.le_refl _) ?_
  intro w' hown hgr
  rcases hown.2 with ⟨h0, _⟩ | ⟨g, cap, cur, hv, _, hh, _, _, hcs, htake⟩
  · cases h0
  · cases hv
    exact hK w' cur.toList (by simpa using hcs) (by unfold Row; simpa using hh) ((Below.refl _ _).grown hgr (Nat.le_refl _) (by simp))
end

/-- Of the first k places from f on, those that are held. -/
def heldTo (ps : List (Int × Int × Int)) (f k : Nat) : List (Int × Int × Int) := ((ps.drop f).take k).filter fun p => decide (0 < p.2.1)
theorem heldTo_zero (ps : List (Int × Int × Int)) (f : Nat) : heldTo ps f 0 = [] := by simp [heldTo]
theorem heldTo_le (ps : List (Int × Int × Int)) (f k : Nat) : (heldTo ps f k).length ≤ k := by
  have := List.length_filter_le (fun p : Int × Int × Int => decide (0 < p.2.1)) ((ps.drop f).take k)
  have h2 : ((ps.drop f).take k).length ≤ k := by simp; omega
  unfold heldTo; omega
theorem heldTo_succ (ps : List (Int × Int × Int)) (f k : Nat) (p : Int × Int × Int) (h : ps[f + k]? = some p) :
    heldTo ps f (k + 1) = heldTo ps f k ++ if 0 < p.2.1 then [p] else [] := by
  have h1 : (ps.drop f)[k]? = some p := by rw [List.getElem?_drop]; exact h
  obtain ⟨hk, hp⟩ := List.getElem?_eq_some_iff.1 h1
  unfold heldTo
  rw [List.take_succ_eq_append_getElem hk, List.filter_append, hp]
  by_cases h0 : 0 < p.2.1 <;> simp [h0]

theorem cells3_take (ps : List (Int × Int × Int)) (r : List Value) : (cells3 ps ++ r).take (ps.length * 3) = cells3 ps := by
  rw [← cells3_length]; simp
theorem cells3_drop (ps : List (Int × Int × Int)) (k : Nat) : (cells3 ps).drop (k * 3) = cells3 (ps.drop k) := by
  induction ps generalizing k with
  | nil => simp [cells3]
  | cons p ps ih =>
    cases k with
    | zero => simp
    | succ k =>
      rw [show (k + 1) * 3 = k * 3 + 3 from by omega]
      simpa [cells3] using ih k

structure DropRel (w0 : World) (bt bp bk n f : Nat) (em empt : Int) (ps : List (Int × Int × Int)) (wr : World) (k : Nat) (r : List Value) : Prop where
  tal : Row wr bt 51 [.slice (some ⟨bp, 0, none⟩) n n, .int .i64 f, .int .i64 em, .int .u64 empt, .bool false]
  kept : Row wr bk 48 (cells3 (heldTo ps f k) ++ r)
  rlen : r.length = (n - (heldTo ps f k).length) * 3
  old : ∃ qs, qs.length = n ∧ Row wr bp 48 (cells3 qs) ∧ (bk ≠ bp → qs = ps) ∧ ∀ i, f + k ≤ i → qs[i]? = ps[i]?
  bel : Below (min bt bp) w0 wr

variable {w0 wr w1 : World} {bt bp bk n f k : Nat} {em empt : Int} {ps : List (Int × Int × Int)} {r : List Value} {p : Int × Int × Int}

theorem DropRel.read (h : DropRel w0 bt bp bk n f em empt ps wr k r) (hp : ps[f + k]? = some p) :
    wr.cell? ⟨bp, f * 3 + k * 3, none⟩ = some (.int .u64 p.1) ∧ wr.cell? ⟨bp, f * 3 + k * 3 + 1, none⟩ = some (.int .i64 p.2.1) ∧ wr.cell? ⟨bp, f * 3 + k * 3 + 2, none⟩ = some (.int .u64 p.2.2) := by
  obtain ⟨qs, hl, hr, _, hq⟩ := h.old
  have h1 := (hq (f + k) (Nat.le_refl _)).trans hp
  obtain ⟨c1, c2, c3⟩ := cells3_at qs [] (f + k) p h1
  rw [List.append_nil] at c1 c2 c3
  rw [show f * 3 + k * 3 = (f + k) * 3 from by omega, hr.cell, hr.cell, hr.cell]
  exact ⟨c1, c2, c3⟩

/-- a place that is not held: a new block alone. -/
theorem DropRel.skip (h : DropRel w0 bt bp bk n f em empt ps wr k r) (hp : ps[f + k]? = some p) (hc : ¬ 0 < p.2.1) (hsz : min bt bp ≤ wr.heap.size) (o : Obj) :
    DropRel w0 bt bp bk n f em empt ps (wr.alloc o) (k + 1) r := by
  have e := heldTo_succ ps f k p hp
  rw [if_neg hc, List.append_nil] at e
  obtain ⟨qs, h1, h2, h3, h4⟩ := h.old
  exact ⟨h.tal.alloc o, by rw [e]; exact h.kept.alloc o, by rw [e]; exact h.rlen, ⟨qs, h1, h2.alloc o, h3, fun i hi => h4 i (by omega)⟩, h.bel.alloc hsz o⟩

/-- a place that is held: two new blocks, and the append into the row. -/
theorem DropRel.keep (h : DropRel w0 bt bp bk n f em empt ps wr k r) (hp : ps[f + k]? = some p) (hc : 0 < p.2.1) (hsz : min bt bp ≤ wr.heap.size) (hk : f + k < n)
    (hbk : min bt bp ≤ bk) (hbt : bt ≠ bk) (o1 o2 : Obj)
    (hrow : Row w1 bk 48 ((cells3 (heldTo ps f k) ++ r).take ((heldTo ps f k).length * 3) ++ .int .u64 p.1 :: .int .i64 p.2.1 :: .int .u64 p.2.2 :: (cells3 (heldTo ps f k) ++ r).drop ((heldTo ps f k).length * 3 + 3)))
    (hg : ((wr.alloc o1).alloc o2).grownBy w1 (some bk)) :
    DropRel w0 bt bp bk n f em empt ps w1 (k + 1) (r.drop 3) ∧ (heldTo ps f (k + 1)).length = (heldTo ps f k).length + 1 := by
  have e := heldTo_succ ps f k p hp
  rw [if_pos hc] at e
  have hle := heldTo_le ps f k
  have e1 : ((cells3 (heldTo ps f k) ++ r).take ((heldTo ps f k).length * 3) ++ .int .u64 p.1 :: .int .i64 p.2.1 :: .int .u64 p.2.2 :: (cells3 (heldTo ps f k) ++ r).drop ((heldTo ps f k).length * 3 + 3)) = cells3 (heldTo ps f (k + 1)) ++ r.drop 3 := by
    rw [cells3_take, e, cells3_append, List.drop_append, cells3_length]
    rw [List.drop_of_length_le (by rw [cells3_length]; omega), show (heldTo ps f k).length * 3 + 3 - (heldTo ps f k).length * 3 = 3 from by omega]
    simp [cells3]
  rw [e1] at hrow
  have elen : (heldTo ps f (k + 1)).length = (heldTo ps f k).length + 1 := by rw [e]; simp
  refine ⟨⟨?_, hrow, ?_, ?_, ?_⟩, elen⟩
  · exact ((h.tal.alloc o1).alloc o2).grown hg (by simpa using hbt)
  · rw [elen, List.length_drop, h.rlen]; omega
  · obtain ⟨qs, h1, h2, h3, h4⟩ := h.old
    by_cases hb : bk = bp
    · subst hb
      have e2 : cells3 qs = cells3 (heldTo ps f k) ++ r := by
        have a1 : wr.heap[bk]? = _ := h.kept
        have a2 : wr.heap[bk]? = _ := h2
        rw [a1] at a2
        simpa using a2.symm
      have e3 : r = cells3 (qs.drop (heldTo ps f k).length) := by
        rw [← cells3_drop, e2, ← cells3_length]; simp
      have e4 : r.drop 3 = cells3 (qs.drop ((heldTo ps f k).length + 1)) := by
        rw [e3]
        have := cells3_drop (qs.drop (heldTo ps f k).length) 1
        rw [Nat.one_mul, List.drop_drop] at this
        exact this
      refine ⟨heldTo ps f (k + 1) ++ qs.drop ((heldTo ps f k).length + 1), ?_, ?_, fun hh => absurd rfl hh, ?_⟩
      · rw [List.length_append, elen, List.length_drop]; omega
      · rw [cells3_append, ← e4]; exact hrow
      · intro i hi
        rw [List.getElem?_append_right (by omega), List.getElem?_drop, ← h4 i (by omega), elen]
        congr 1; omega
    · exact ⟨qs, h1, ((h2.alloc o1).alloc o2).grown hg (by simpa using fun hh => hb hh.symm), h3, fun i hi => h4 i (by omega)⟩
  · exact ((h.bel.alloc hsz o1).alloc (by simp; omega) o2).grown hg (by simp; omega) (by intro q hq; simp at hq; omega)

end Go.Proofs.Qxb6605448a
