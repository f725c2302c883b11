import Derived.Test.Qxb6600543aSet
namespace Go.Proofs.Qxb6600543a
open Go.ChangeShapes Go.WideShapes Go.ChangeAt Go.RowKit
set_option linter.unusedVariables false

theorem ret_tok {a : Int} {x : Bool} {n : Nat} {y : Bool} (h : a = (n : Int)) (h' : x = y) : Ending.returned (.tuple #[.int .i64 a, .bool x]) = .returned (.tuple #[.int .i64 (n : Int), .bool y]) := by rw [h, h']

section
variable {q : List Int} {c : Int}
theorem tok_any1 (h : q[0]? = some 63) : tokW q = 1 ∧ tokIn q c = true := by
  simp [tokW, tokIn, h]
theorem tok_set (h : q[0]? = some 91) : tokW q = setW q ∧ tokIn q c = setIn q c := by
  simp [tokW, tokIn, h]
theorem tok_esc {z1 : Int} (h : q[0]? = some 92) (h1 : q[1]? = some z1) : tokW q = 2 ∧ tokIn q c = (z1 == c) := by
  obtain ⟨hi, hz⟩ := List.getElem?_eq_some_iff.1 h1
  simp [tokW, tokIn, h, hi, hz, List.getD]
theorem tok_bs (h : q[0]? = some 92) (h1 : q.length ≤ 1) : tokW q = 1 ∧ tokIn q c = (92 == c) := by
  have h2 : ¬ 1 < q.length := by omega
  simp [tokW, tokIn, h, h2, List.getD]
theorem tok_lit {z : Int} (h : q[0]? = some z) (h63 : z ≠ 63) (h91 : z ≠ 91) (h92 : z ≠ 92) : tokW q = 1 ∧ tokIn q c = (z == c) := by
  simp [tokW, tokIn, h, h63, h91, h92, List.getD]
end

set_option maxHeartbeats 2000000 in
theorem byte_any (b off n cap : Nat) (q : List Int) (c : Int) (w : World) (hq : Lies w b off q) (hn : q.length = n) (h0 : 0 < n) (hb : n ≤ 1048576) (hc0 : 0 ≤ c) (hc1 : c ≤ 255) (hbd : ∀ z ∈ q, 0 ≤ z ∧ z ≤ 255) :
    Calls Try.prog 22 #[.slice (some ⟨b, off, none⟩) n cap, .int .u8 c] w fun e w' => e = .returned (.tuple #[.int .i64 (tokW q), .bool (tokIn q c)]) ∧ ∃ m, w' = w.drewN m := by
  obtain ⟨z, hz⟩ := at_some hn h0
  have hcz : w.cell? ⟨b, off, none⟩ = some (.int .u8 z) := hq 0 z hz
  have HQ : Hid (Lies w b off q) := hq
  have HN : Hid (q.length = n) := hn
  have HBD : Hid (∀ z ∈ q, 0 ≤ z ∧ z ≤ 255) := hbd
  have HZ : Hid (q[0]? = some z) := hz
  clear hq hn hbd hz
  by_cases h63 : z = 63
  · subst h63
    obtain ⟨e1, e2⟩ := tok_any1 (c := c) HZ.out
    have E : Hid (tokW q = 1 ∧ tokIn q c = true) := ⟨e1, e2⟩
    clear e1 e2
    go_enter Try.func22, Try.ntmps22
    go_wp2
    go_ret2
    exact ⟨ret_tok (by rw [E.out.1]; rfl) (by rw [E.out.2]), 0, rfl⟩
  by_cases h91 : z = 91
  · subst h91
    obtain ⟨e1, e2⟩ := tok_set (c := c) HZ.out
    have E : Hid (tokW q = setW q ∧ tokIn q c = setIn q c) := ⟨e1, e2⟩
    clear e1 e2
    go_enter Try.func22, Try.ntmps22
    go_wp2_with fail
    refine (set_any b off n cap q c _ HQ.out HN.out hb hc0 hc1 HBD.out).mono ?_
    rintro e w' ⟨rfl, m, rfl⟩
    go_wp2
    go_ret2
    exact ⟨ret_tok (by rw [E.out.1]) (by rw [E.out.2]), m, rfl⟩
  by_cases h92 : z = 92
  · subst h92
    by_cases h1 : 1 < n
    · obtain ⟨z1, hz1⟩ := at_some HN.out h1
      have hcz1 : w.cell? ⟨b, off + 1, none⟩ = some (.int .u8 z1) := HQ.out 1 z1 hz1
      obtain ⟨e1, e2⟩ := tok_esc (c := c) HZ.out hz1
      have E : Hid (tokW q = 2 ∧ tokIn q c = (z1 == c)) := ⟨e1, e2⟩
      clear e1 e2 hz1
      go_enter Try.func22, Try.ntmps22
      go_wp2
      go_quiet (fail)
      go_wp2
      go_ret2
      exact ⟨ret_tok (by rw [E.out.1]; rfl) (by rw [E.out.2]), nq, rfl⟩
    · obtain ⟨e1, e2⟩ := tok_bs (c := c) HZ.out (by rw [HN.out]; omega)
      have E : Hid (tokW q = 1 ∧ tokIn q c = (92 == c)) := ⟨e1, e2⟩
      clear e1 e2
      go_enter Try.func22, Try.ntmps22
      go_wp2
      go_quiet (fail)
      go_wp2
      go_ret2
      exact ⟨ret_tok (by rw [E.out.1]; rfl) (by rw [E.out.2]), nq, rfl⟩
  · obtain ⟨e1, e2⟩ := tok_lit (c := c) HZ.out h63 h91 h92
    have E : Hid (tokW q = 1 ∧ tokIn q c = (z == c)) := ⟨e1, e2⟩
    have q1 : (z == 63) = false := by simp [h63]
    have q2 : (z == 91) = false := by simp [h91]
    have q3 : (z == 92) = false := by simp [h92]
    clear e1 e2 h63 h91 h92
    go_enter Try.func22, Try.ntmps22
    go_wp2
    go_quiet (fail)
    go_wp2
    go_ret2
    exact ⟨ret_tok (by rw [E.out.1]; rfl) (by rw [E.out.2]), nq, rfl⟩
end Go.Proofs.Qxb6600543a
