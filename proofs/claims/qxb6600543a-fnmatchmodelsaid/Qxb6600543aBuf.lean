import Derived.Test.Qxb6600543aMem
import Derived.Deep.AppendSrc
import Derived.Deep.RegionLaw
namespace Go.Proofs.Qxb6600543a
open Go.RowKit
set_option linter.unusedVariables false

/-- A buffer of bytes of the call's own: the slice at the head of block g holds xs; its row is as long as its capacity. -/
structure Buf (w : World) (e : TypeId) (base g n cap : Nat) (xs : List Int) : Prop where
  row : ∃ r : List Value, Row w g e (xs.map (Value.int .u8) ++ r) ∧ r.length = cap - n
  len : xs.length = n
  fits : n ≤ cap
  base : base ≤ g

variable {w w' : World} {e : TypeId} {base g n cap : Nat} {xs : List Int}

theorem Buf.lt (h : Buf w e base g n cap xs) : g < w.heap.size := by
  obtain ⟨r, hr, _⟩ := h.row; exact hr.lt
theorem Buf.cell (h : Buf w e base g n cap xs) {j : Nat} {z : Int} (hz : xs[j]? = some z) : w.cell? ⟨g, j, none⟩ = some (.int .u8 z) := by
  obtain ⟨r, hr, _⟩ := h.row
  have hj := (List.getElem?_eq_some_iff.1 hz).1
  rw [hr.cell, List.getElem?_append_left (by simpa using hj)]
  simp [hz]
theorem Buf.alloc (h : Buf w e base g n cap xs) (o : Obj) : Buf (w.alloc o) e base g n cap xs := by
  obtain ⟨r, hr, hl⟩ := h.row
  exact ⟨⟨r, hr.alloc o, hl⟩, h.len, h.fits, h.base⟩
theorem Buf.drew (h : Buf w e base g n cap xs) : Buf w.drew e base g n cap xs := ⟨h.row, h.len, h.fits, h.base⟩
theorem Buf.drewN (h : Buf w e base g n cap xs) (q : Nat) : Buf (w.drewN q) e base g n cap xs := ⟨h.row, h.len, h.fits, h.base⟩
theorem Buf.below (h : Buf w e base g n cap xs) (hb : Below w.heap.size w w') : Buf w' e base g n cap xs := by
  obtain ⟨r, hr, hl⟩ := h.row
  exact ⟨⟨r, hr.below hb hr.lt, hl⟩, h.len, h.fits, h.base⟩
theorem Buf.mono {base' : Nat} (h : Buf w e base g n cap xs) (hb : base' ≤ base) : Buf w e base' g n cap xs := ⟨h.row, h.len, h.fits, Nat.le_trans hb h.base⟩

theorem ints_one (ns : List Int) : ∀ u ∈ ns.map (Value.int .u8), u.oneCell' = true := by
  intro u hu
  obtain ⟨_, _, rfl⟩ := List.mem_map.1 hu
  rfl

section
variable {P : Program} (w : World)

/-- There is room: a row told whole, whatever the source. -/
theorem run_append_row_src (t tx ty e : TypeId) (i : TypeInfo) (ht : P.underlying t = some (.slice e)) (hi : P.info? e = some i)
    (g sLen sCap : Nat) (cur : Array Value) (hg : w.heap[g]? = some (.cells cur e (0, 0))) (x : Value) (m : Nat) (news : List Value) (hs : Src P i.size tx x m news w)
    (hroom : sLen + m ≤ sCap) (hfit : sLen * i.size + news.length ≤ cur.size) :
    (Builtin.append_ #[t, tx] ty #[.slice (some ⟨g, 0, none⟩) sLen sCap, x]).run P w =
      .ok (.slice (some ⟨g, 0, none⟩) (sLen + m) sCap) (w.setRow g (cur.toList.take (sLen * i.size) ++ news ++ cur.toList.drop (sLen * i.size + news.length)).toArray) := by
  have hst := run_storeCells_at P g (sLen * i.size) e news 0 cur w hg (by simpa using hfit) hs.one
  simp only [Nat.add_zero] at hst
  rcases hs.kind with ⟨e', hk⟩ | hk <;> simp [Builtin.append_, run_underlying ht, run_underlying hk, sizeOf, typeInfo, hi, hs.len, hroom, hs.cells, Addr.add_lit, hst]

/-- It grows: the new row. -/
theorem run_append_new_src (t tx ty e : TypeId) (i : TypeInfo) (z : Value) (ht : P.underlying t = some (.slice e)) (hi : P.info? e = some i) (hz : i.zero = some z) (hsz : i.size = 1) (hby : i.bytes = 1) (hzc : z.cells.size = 1)
    (ao : Option Addr) (n cap : Nat) (xs : List Int) (hlen : xs.length = n) (hao : ao = none → n = 0) (hcells : ∀ b, ao = some b → ∀ j u, (xs.map (Value.int .u8))[j]? = some u → w.cell? (b.add j) = some u)
    (x : Value) (m : Nat) (ns : List Int) (hs : Src P 1 tx x m (ns.map (Value.int .u8)) w) (hfull : cap < n + m) (hb : n + m ≤ 1073741824) :
    ∃ cap' w', (Builtin.append_ #[t, tx] ty #[.slice ao n cap, x]).run P w = .ok (.slice (some ⟨w.heap.size, 0, none⟩) (n + m) cap') w' ∧ Buf w' e w.heap.size w.heap.size (n + m) cap' (xs ++ ns) ∧ w.grownBy w' none := by
  have hns : ns.length = m := by have := hs.newsLen; simpa using this
  have hold : (Builtin.firstCells i.size n (.slice ao n cap)).run P w.drew = .ok (xs.map (Value.int .u8)).toArray w.drew := by
    cases ao with
    | none =>
      have h0 := hao rfl
      subst h0
      have hx : xs = [] := List.eq_nil_of_length_eq_zero hlen
      subst hx
      exact run_firstCells_none w.drew i.size 0 0 cap
    | some b => exact run_firstCells_some w.drew i.size n b n cap _ (by simp [hlen, hsz]) (fun j u hu => hcells b rfl j u hu)
  have hr := run_append_grow_src (P := P) w t tx ty e i z ht hi hz ao n cap (xs.map (Value.int .u8)) hold x m (ns.map (Value.int .u8)) (by rw [hsz]; exact hs) hfull (by omega) (growslice_fits hfull (by rw [hby]; omega))
  have hge := grownCap_ge w (n + m) cap e
  refine ⟨_, _, hr, ⟨⟨(Builtin.zeroCells z.cells (grownCap w (n + m) cap e - (n + m))).toList, ?_, ?_⟩, by simp [hlen, hns], hge, Nat.le_refl _⟩, ⟨rfl, rfl, rfl, by simp, fun k hk _ => Below.heap_alloc w.drew _ k hk⟩⟩
  · have h1 := heap_alloc_new w.drew (.cells ((xs.map (Value.int .u8) ++ ns.map (Value.int .u8)).toArray ++ Builtin.zeroCells z.cells (grownCap w (n + m) cap e - (n + m))) e)
    show _ = _
    rw [show w.heap.size = w.drew.heap.size from rfl, h1]
    congr 2
    apply Array.ext'
    simp
  · simp [size_zeroCells, hzc]

/-- 'append' to a buffer, whatever the source: it may grow. -/
theorem run_append_buf (t tx ty e : TypeId) (i : TypeInfo) (z : Value) (ht : P.underlying t = some (.slice e)) (hi : P.info? e = some i) (hz : i.zero = some z) (hsz : i.size = 1) (hby : i.bytes = 1) (hzc : z.cells.size = 1)
    (base g n cap : Nat) (xs : List Int) (hB : Buf w e base g n cap xs) (x : Value) (m : Nat) (ns : List Int) (hs : Src P 1 tx x m (ns.map (Value.int .u8)) w) (hb : n + m ≤ 1073741824) (hbase : base ≤ w.heap.size) :
    ∃ g' cap' w', (Builtin.append_ #[t, tx] ty #[.slice (some ⟨g, 0, none⟩) n cap, x]).run P w = .ok (.slice (some ⟨g', 0, none⟩) (n + m) cap') w' ∧ Buf w' e base g' (n + m) cap' (xs ++ ns) ∧ w.grownBy w' (some g) := by
  have hns : ns.length = m := by have := hs.newsLen; simpa using this
  by_cases hroom : n + m ≤ cap
  · obtain ⟨r, hrow, hrl⟩ := hB.row
    have hl := hB.len
    have hr := run_append_row_src (P := P) w t tx ty e i ht hi g n cap _ hrow x m (ns.map (Value.int .u8)) (by rw [hsz]; exact hs) hroom (by simp [hsz, hl, hrl, hns]; omega)
    refine ⟨g, cap, _, hr, ⟨⟨r.drop m, ?_, by simp [hrl]; omega⟩, by simp [hl, hns], hroom, hB.base⟩, ⟨rfl, rfl, rfl, by simp, fun k _ hk => setRow_other w g k _ (fun e => hk (by simp [e]))⟩⟩
    have h1 := hrow.setRow ((xs ++ ns).map (Value.int .u8) ++ r.drop m)
    have h2 : (((xs.map (Value.int .u8) ++ r).toArray.toList.take (n * i.size) ++ ns.map (Value.int .u8) ++ (xs.map (Value.int .u8) ++ r).toArray.toList.drop (n * i.size + (ns.map (Value.int .u8)).length))) = (xs ++ ns).map (Value.int .u8) ++ r.drop m := by
      rw [hsz, Nat.mul_one, List.length_map, hns]
      have e1 : (xs.map (Value.int .u8)).length = n := by simp [hl]
      rw [show (xs.map (Value.int .u8) ++ r).toArray.toList = xs.map (Value.int .u8) ++ r from rfl]
      rw [List.take_append_of_le_length (by omega), List.take_of_length_le (by omega), List.drop_append, e1, List.drop_of_length_le (by omega), show n + m - n = m from by omega]
      simp
    rw [h2]
    exact h1
  · have hcell : ∀ b, (some (⟨g, 0, none⟩ : Addr)) = some b → ∀ j u, (xs.map (Value.int .u8))[j]? = some u → w.cell? (b.add j) = some u := by
      intro b hb j u hu
      obtain rfl := Option.some.inj hb
      rw [Addr.add_lit, Nat.zero_add]
      simp at hu
      obtain ⟨zz, hzz, rfl⟩ := hu
      exact hB.cell hzz
    obtain ⟨cap', w', h1, h2, h3⟩ := run_append_new_src (P := P) w t tx ty e i z ht hi hz hsz hby hzc (some ⟨g, 0, none⟩) n cap xs hB.len (by simp) hcell x m ns hs (by omega) hb
    exact ⟨_, cap', w', h1, h2.mono hbase, ⟨h3.os, h3.tape, h3.output, h3.size, fun k hk _ => h3.block k hk (by simp)⟩⟩

/-- The same for the walk. -/
theorem wpList_append_buf {ops : Array Oper} {rest : List Oper} {o : Oper} {a : Act} {Q : Exit → Act → World → Prop}
    (hg : o.guard = none) (s x : Operand) (t tx : TypeId) (hop : o.op = Op.call { callee := Callee.builtin Builtin.append, args := #[s, x], argTypes := #[t, tx] })
    (e : TypeId) (i : TypeInfo) (z : Value) (ht : P.underlying t = some (.slice e)) (hi : P.info? e = some i) (hz : i.zero = some z) (hsz : i.size = 1) (hby : i.bytes = 1) (hzc : z.cells.size = 1)
    (base g n cap : Nat) (xs : List Int) (hs : a.eval s = .slice (some ⟨g, 0, none⟩) n cap) (hB : Buf w e base g n cap xs) (xv : Value) (hx : a.eval x = xv) (m : Nat) (ns : List Int) (hsrc : Src P 1 tx xv m (ns.map (Value.int .u8)) w) (hb : n + m ≤ 1073741824) (hbase : base ≤ w.heap.size)
    (hK : ∀ g' cap' w', Buf w' e base g' (n + m) cap' (xs ++ ns) → w.grownBy w' (some g) → wpList P ops Q rest (a.put o.dst (.slice (some ⟨g', 0, none⟩) (n + m) cap')) w') :
    wpList P ops Q (o :: rest) a w := by
  subst hx
  refine wpList_plain hg fun K hK' => ?_
  obtain ⟨g', cap', w', hrun, r1, r2⟩ := run_append_buf (P := P) w t tx o.type e i z ht hi hz hsz hby hzc base g n cap xs hB _ m ns hsrc hb hbase
  unfold Oper.wp
  simp only [execOp, hop, resolve, invoke, builtin, Sem.run_bind, Sem.run_pure, Result.andThen_ok, List.map_toArray, List.map_cons, List.map_nil, hs, hrun]
  exact hK' _ _ (hK g' cap' w' r1 r2)

/-- The first append, to a slice without room. -/
theorem wpList_append_new {ops : Array Oper} {rest : List Oper} {o : Oper} {a : Act} {Q : Exit → Act → World → Prop}
    (hg : o.guard = none) (s x : Operand) (t tx : TypeId) (hop : o.op = Op.call { callee := Callee.builtin Builtin.append, args := #[s, x], argTypes := #[t, tx] })
    (e : TypeId) (i : TypeInfo) (z : Value) (ht : P.underlying t = some (.slice e)) (hi : P.info? e = some i) (hz : i.zero = some z) (hsz : i.size = 1) (hby : i.bytes = 1) (hzc : z.cells.size = 1)
    (ao : Option Addr) (n cap : Nat) (xs : List Int) (hs : a.eval s = .slice ao n cap) (hlen : xs.length = n) (hao : ao = none → n = 0) (hcells : ∀ b, ao = some b → ∀ j u, (xs.map (Value.int .u8))[j]? = some u → w.cell? (b.add j) = some u)
    (xv : Value) (hx : a.eval x = xv) (m : Nat) (ns : List Int) (hsrc : Src P 1 tx xv m (ns.map (Value.int .u8)) w) (hfull : cap < n + m) (hb : n + m ≤ 1073741824)
    (hK : ∀ cap' w', Buf w' e w.heap.size w.heap.size (n + m) cap' (xs ++ ns) → w.grownBy w' none → wpList P ops Q rest (a.put o.dst (.slice (some ⟨w.heap.size, 0, none⟩) (n + m) cap')) w') :
    wpList P ops Q (o :: rest) a w := by
  subst hx
  refine wpList_plain hg fun K hK' => ?_
  obtain ⟨cap', w', hrun, r1, r2⟩ := run_append_new_src (P := P) w t tx o.type e i z ht hi hz hsz hby hzc ao n cap xs hlen hao hcells _ m ns hsrc hfull hb
  unfold Oper.wp
  simp only [execOp, hop, resolve, invoke, builtin, Sem.run_bind, Sem.run_pure, Result.andThen_ok, List.map_toArray, List.map_cons, List.map_nil, hs, hrun]
  exact hK' _ _ (hK cap' w' r1 r2)

/-- As one step of a region that draws its order. -/
theorem step_append_buf {ops : Array Oper} {o : Oper} {a : Act} {K : Act → World → Prop} {Q : Exit → Act → World → Prop} {E : Prop}
    (hg : o.guard = none) (s x : Operand) (t tx : TypeId) (hop : o.op = Op.call { callee := Callee.builtin Builtin.append, args := #[s, x], argTypes := #[t, tx] })
    (e : TypeId) (i : TypeInfo) (z : Value) (ht : P.underlying t = some (.slice e)) (hi : P.info? e = some i) (hz : i.zero = some z) (hsz : i.size = 1) (hby : i.bytes = 1) (hzc : z.cells.size = 1)
    (base g n cap : Nat) (xs : List Int) (hs : a.eval s = .slice (some ⟨g, 0, none⟩) n cap) (hB : Buf w e base g n cap xs) (xv : Value) (hx : a.eval x = xv) (m : Nat) (ns : List Int) (hsrc : Src P 1 tx xv m (ns.map (Value.int .u8)) w) (hb : n + m ≤ 1073741824) (hbase : base ≤ w.heap.size)
    (hK : ∀ g' cap' w', Buf w' e base g' (n + m) cap' (xs ++ ns) → w.grownBy w' (some g) → K (a.put o.dst (.slice (some ⟨g', 0, none⟩) (n + m) cap')) w') :
    if Region.wanted o (yielded ops a.tmps) = true then Oper.wp P o a w K Q else E := by
  subst hx
  have hw : Region.wanted o (yielded ops a.tmps) = true := by simp [Region.wanted, hg]
  rw [if_pos hw]
  obtain ⟨g', cap', w', hrun, r1, r2⟩ := run_append_buf (P := P) w t tx o.type e i z ht hi hz hsz hby hzc base g n cap xs hB _ m ns hsrc hb hbase
  unfold Oper.wp
  simp only [execOp, hop, resolve, invoke, builtin, Sem.run_bind, Sem.run_pure, Result.andThen_ok, List.map_toArray, List.map_cons, List.map_nil, hs, hrun]
  exact hK g' cap' w' r1 r2
end

end Go.Proofs.Qxb6600543a
