namespace Go.Proofs.Qxb6600543a

/-- g holds at some end of the list. -/
def starAny (g : List Int → Bool) : List Int → Bool
  | [] => g []
  | c :: n => g (c :: n) || starAny g n

/-- A list of tokens (none: a star; some f: one byte of a class) matches a name. -/
def glob : List (Option (Int → Bool)) → List Int → Bool
  | [], n => n.isEmpty
  | none :: ts, n => starAny (glob ts) n
  | some _ :: _, [] => false
  | some f :: ts, c :: n => f c && glob ts n

theorem starAny_iff (g : List Int → Bool) (n : List Int) : starAny g n = true ↔ ∃ r, r ≤ n.length ∧ g (n.drop r) = true := by
  induction n with
  | nil =>
    constructor
    · intro h; exact ⟨0, Nat.le_refl _, h⟩
    · rintro ⟨r, _, h⟩
      rw [List.drop_nil] at h
      exact h
  | cons c n ih =>
    simp only [starAny, Bool.or_eq_true, ih]
    constructor
    · rintro (h | ⟨r, hr, h⟩)
      · exact ⟨0, Nat.zero_le _, h⟩
      · exact ⟨r + 1, by simp; omega, h⟩
    · rintro ⟨r, hr, h⟩
      cases r with
      | zero => exact .inl h
      | succ r => exact .inr ⟨r, by simp at hr; omega, h⟩

theorem bool_iff {a b : Bool} (h : a = true ↔ b = true) : a = b := by
  cases a <;> cases b <;> simp_all

def fsOk : List (Int → Bool) → List Int → Bool
  | [], _ => true
  | _ :: _, [] => false
  | f :: fs, c :: m => f c && fsOk fs m
theorem fsOk_len (fs : List (Int → Bool)) (m : List Int) (h : fsOk fs m = true) : fs.length ≤ m.length := by
  induction fs generalizing m with
  | nil => simp
  | cons f fs ih =>
    cases m with
    | nil => simp [fsOk] at h
    | cons c m =>
      simp [fsOk] at h
      have := ih m h.2
      simp; omega
theorem fsOk_snoc (fs : List (Int → Bool)) (m : List Int) (f : Int → Bool) (c : Int) (h : fsOk fs m = true) (hc : m[fs.length]? = some c) (hf : f c = true) : fsOk (fs ++ [f]) m = true := by
  induction fs generalizing m with
  | nil =>
    cases m with
    | nil => simp at hc
    | cons d m => simp at hc; subst hc; simp [fsOk, hf]
  | cons g fs ih =>
    cases m with
    | nil => simp [fsOk] at h
    | cons d m =>
      simp [fsOk] at h
      simp at hc
      simp [fsOk, h.1, ih m h.2 hc]
theorem glob_fs (fs : List (Int → Bool)) (ts : List (Option (Int → Bool))) (m : List Int) : glob (fs.map some ++ ts) m = (fsOk fs m && glob ts (m.drop fs.length)) := by
  induction fs generalizing m with
  | nil => simp [fsOk]
  | cons f fs ih =>
    cases m with
    | nil => simp [glob, fsOk]
    | cons c m => simp [glob, fsOk, ih, Bool.and_assoc]

/-- A second star: the first need take no more. -/
theorem star_star (fs : List (Int → Bool)) (ts : List (Option (Int → Bool))) (m : List Int) (h : fsOk fs m = true) :
    starAny (glob (fs.map some ++ none :: ts)) m = starAny (glob ts) (m.drop fs.length) := by
  apply bool_iff
  rw [starAny_iff, starAny_iff]
  have hl := fsOk_len fs m h
  constructor
  · rintro ⟨r, hr, hg⟩
    rw [glob_fs, Bool.and_eq_true] at hg
    obtain ⟨h1, h2⟩ := hg
    have h2' : starAny (glob ts) ((m.drop r).drop fs.length) = true := h2
    rw [starAny_iff] at h2'
    obtain ⟨q, hq, h3⟩ := h2'
    have h4 := fsOk_len _ _ h1
    simp at h4 hq
    refine ⟨r + q, by simp; omega, ?_⟩
    rw [List.drop_drop, List.drop_drop] at h3
    rw [List.drop_drop, show fs.length + (r + q) = r + (fs.length + q) from by omega]
    exact h3
  · rintro ⟨r, hr, hg⟩
    refine ⟨0, Nat.zero_le _, ?_⟩
    rw [List.drop_zero, glob_fs, h, Bool.true_and]
    show starAny (glob ts) (m.drop fs.length) = true
    rw [starAny_iff]
    exact ⟨r, hr, hg⟩
/-- The name is at its end: the star takes no more. -/
theorem star_end (fs : List (Int → Bool)) (ts : List (Option (Int → Bool))) (m : List Int) (h : fsOk fs m = true) (hl : m.length = fs.length) :
    starAny (glob (fs.map some ++ ts)) m = glob ts [] := by
  apply bool_iff
  rw [starAny_iff]
  constructor
  · rintro ⟨r, hr, hg⟩
    rw [glob_fs, Bool.and_eq_true] at hg
    obtain ⟨h1, h2⟩ := hg
    have h4 := fsOk_len _ _ h1
    simp at h4
    rw [List.drop_of_length_le (by simp; omega)] at h2
    exact h2
  · intro hg
    refine ⟨0, Nat.zero_le _, ?_⟩
    rw [List.drop_zero, glob_fs, h, Bool.true_and, List.drop_of_length_le (by omega)]
    exact hg

/-! ### the tables of the other matcher -/
theorem glob_append (ts us : List (Option (Int → Bool))) (m : List Int) : glob (ts ++ us) m = true ↔ ∃ r, r ≤ m.length ∧ glob ts (m.take r) = true ∧ glob us (m.drop r) = true := by
  induction ts generalizing m with
  | nil =>
    constructor
    · intro h; exact ⟨0, Nat.zero_le _, by simp [glob], by simpa using h⟩
    · rintro ⟨r, hr, h1, h2⟩
      have h1' : (m.take r) = [] := by simpa [glob] using h1
      have : r = 0 ∨ m = [] := by simpa using h1'
      rcases this with rfl | rfl
      · simpa using h2
      · simpa using h2
  | cons t ts ih =>
    cases t with
    | none =>
      show starAny (glob (ts ++ us)) m = true ↔ _
      rw [starAny_iff]
      constructor
      · rintro ⟨r, hr, h⟩
        obtain ⟨q, hq, h1, h2⟩ := (ih _).1 h
        simp at hq
        refine ⟨r + q, by omega, ?_, by rw [List.drop_drop] at h2; exact h2⟩
        show starAny (glob ts) (m.take (r + q)) = true
        rw [starAny_iff]
        refine ⟨r, by simp; omega, ?_⟩
        rw [List.drop_take, show r + q - r = q from by omega]
        exact h1
      · rintro ⟨r, hr, h1, h2⟩
        have h1' : starAny (glob ts) (m.take r) = true := h1
        rw [starAny_iff] at h1'
        obtain ⟨q, hq, h3⟩ := h1'
        simp at hq
        refine ⟨q, by omega, (ih _).2 ⟨r - q, by simp; omega, ?_, ?_⟩⟩
        · rw [List.drop_take] at h3; exact h3
        · rw [List.drop_drop, show q + (r - q) = r from by omega]; exact h2
    | some f =>
      cases m with
      | nil =>
        constructor
        · intro h; simp [glob] at h
        · rintro ⟨r, hr, h1, h2⟩; simp [glob] at h1
      | cons c m =>
        show (f c && glob (ts ++ us) m) = true ↔ _
        rw [Bool.and_eq_true, ih]
        constructor
        · rintro ⟨hf, r, hr, h1, h2⟩
          exact ⟨r + 1, by simp; omega, by simp [glob, hf, h1], by simpa using h2⟩
        · rintro ⟨r, hr, h1, h2⟩
          cases r with
          | zero => simp [glob] at h1
          | succ r =>
            simp [glob] at h1
            exact ⟨h1.1, r, by simp at hr; omega, h1.2, by simpa using h2⟩

theorem glob_star_one (m : List Int) : glob [none] m = true := by
  show starAny (glob []) m = true
  rw [starAny_iff]
  exact ⟨m.length, Nat.le_refl _, by simp [glob]⟩

/-- The table's first place. -/
theorem tab_nil_zero : glob [] ([] : List Int) = true := rfl
theorem tab_nil_succ (name : List Int) (j : Nat) (h : j < name.length) : glob [] (name.take (j + 1)) = false := by
  cases name with
  | nil => simp at h
  | cons c n => simp [glob]
theorem tab_star_zero (ts : List (Option (Int → Bool))) : glob (ts ++ [none]) [] = glob ts [] := by
  apply bool_iff
  rw [glob_append]
  constructor
  · rintro ⟨r, hr, h1, _⟩; simpa using h1
  · intro h; exact ⟨0, Nat.le_refl _, by simpa using h, glob_star_one _⟩
theorem tab_star_succ (ts : List (Option (Int → Bool))) (name : List Int) (j : Nat) (hj : j < name.length) : glob (ts ++ [none]) (name.take (j + 1)) = (glob ts (name.take (j + 1)) || glob (ts ++ [none]) (name.take j)) := by
  apply bool_iff
  rw [Bool.or_eq_true, glob_append, glob_append]
  constructor
  · rintro ⟨r, hr, h1, _⟩
    simp at hr
    rw [List.take_take] at h1
    by_cases h : r = j + 1
    · subst h; left; simpa using h1
    · right
      refine ⟨r, by simp; omega, ?_, glob_star_one _⟩
      rw [List.take_take, Nat.min_eq_left (by omega)]
      rw [Nat.min_eq_left (by omega)] at h1
      exact h1
  · rintro (h | ⟨r, hr, h1, _⟩)
    · exact ⟨j + 1, by simp; omega, by rw [List.take_take, Nat.min_self]; exact h, glob_star_one _⟩
    · simp at hr
      refine ⟨r, by simp; omega, ?_, glob_star_one _⟩
      rw [List.take_take, Nat.min_eq_left (by omega)] at h1
      rw [List.take_take, Nat.min_eq_left (by omega)]
      exact h1
theorem glob_one (f : Int → Bool) (m : List Int) : glob [some f] m = true ↔ ∃ c, m = [c] ∧ f c = true := by
  cases m with
  | nil => simp [glob]
  | cons c m =>
    cases m with
    | nil => simp [glob]
    | cons d m => simp [glob]
theorem tab_some_zero (ts : List (Option (Int → Bool))) (f : Int → Bool) : glob (ts ++ [some f]) [] = false := by
  cases h : glob (ts ++ [some f]) [] with
  | false => rfl
  | true =>
    rw [glob_append] at h
    obtain ⟨r, _, _, h2⟩ := h
    rw [glob_one] at h2
    obtain ⟨c, hc, _⟩ := h2
    simp at hc
theorem tab_some_succ (ts : List (Option (Int → Bool))) (f : Int → Bool) (name : List Int) (j : Nat) (c : Int) (hc : name[j]? = some c) : glob (ts ++ [some f]) (name.take (j + 1)) = (glob ts (name.take j) && f c) := by
  obtain ⟨hj, hcj⟩ := List.getElem?_eq_some_iff.1 hc
  apply bool_iff
  rw [Bool.and_eq_true, glob_append]
  have hl : (name.take (j + 1)).length = j + 1 := by simp; omega
  constructor
  · rintro ⟨r, hr, h1, h2⟩
    rw [glob_one] at h2
    obtain ⟨d, hd, hf⟩ := h2
    have hlen := congrArg List.length hd
    simp at hlen
    have hrj : r = j := by omega
    subst hrj
    have hdc : d = c := by
      have := congrArg (fun l => l[0]?) hd
      simp [List.getElem?_drop, hc] at this
      omega
    subst hdc
    rw [List.take_take, Nat.min_eq_left (by omega)] at h1
    exact ⟨h1, hf⟩
  · rintro ⟨h1, hf⟩
    refine ⟨j, by omega, ?_, ?_⟩
    · rw [List.take_take, Nat.min_eq_left (by omega)]; exact h1
    · rw [glob_one]
      refine ⟨c, ?_, hf⟩
      rw [List.take_succ_eq_append_getElem hj, hcj, List.drop_append_of_le_length (by simp; omega)]
      simp

/-! ### tokens of a pattern -/
/-- One item of a set, at the head of what is left of it. -/
def itemW (r : List Int) : Nat :=
  if r[0]? = some 92 ∧ 1 < r.length then 2 else if 2 < r.length ∧ r[1]? = some 45 ∧ r[2]? ≠ some 93 then 3 else 1
def itemIn (r : List Int) (c : Int) : Bool :=
  if r[0]? = some 92 ∧ 1 < r.length then r.getD 1 0 == c
  else if 2 < r.length ∧ r[1]? = some 45 ∧ r[2]? ≠ some 93 then decide (min (r.getD 0 0) (r.getD 2 0) ≤ c ∧ c ≤ max (r.getD 0 0) (r.getD 2 0)) else r.getD 0 0 == c
/-- A set ends here. -/
def stops (r : List Int) : Bool := r.isEmpty || r[0]? == some 93
def scanNF : Nat → List Int → Nat
  | 0, _ => 0
  | f + 1, r => if stops r = true then 0 else itemW r + scanNF f (r.drop (itemW r))
def scanBF : Nat → List Int → Int → Bool
  | 0, _, _ => false
  | f + 1, r, c => if stops r = true then false else itemIn r c || scanBF f (r.drop (itemW r)) c
def scanN (r : List Int) : Nat := scanNF r.length r
def scanB (r : List Int) (c : Int) : Bool := scanBF r.length r c

theorem itemW_pos (r : List Int) : 1 ≤ itemW r := by unfold itemW; split <;> (try split) <;> omega
theorem stops_false {r : List Int} (h : stops r = false) : r ≠ [] ∧ r[0]? ≠ some 93 := by
  unfold stops at h
  simp at h
  exact ⟨by intro e; simp [e] at h, h.2⟩
theorem itemW_le (r : List Int) (h : stops r = false) : itemW r ≤ r.length := by
  have h0 := (stops_false h).1
  have : 0 < r.length := List.length_pos_iff.2 h0
  unfold itemW; split
  · omega
  · split <;> omega
theorem scanNF_fuel (f g : Nat) (r : List Int) (hf : r.length ≤ f) (hg : r.length ≤ g) : scanNF f r = scanNF g r := by
  induction f generalizing g r with
  | zero =>
    have : r = [] := List.eq_nil_of_length_eq_zero (by omega)
    subst this
    cases g <;> simp [scanNF, stops]
  | succ f ih =>
    cases g with
    | zero =>
      have : r = [] := List.eq_nil_of_length_eq_zero (by omega)
      subst this
      simp [scanNF, stops]
    | succ g =>
      have hw := itemW_pos r
      have e := ih g (r.drop (itemW r)) (by simp; omega) (by simp; omega)
      simp only [scanNF, e]
theorem scanBF_fuel (f g : Nat) (r : List Int) (c : Int) (hf : r.length ≤ f) (hg : r.length ≤ g) : scanBF f r c = scanBF g r c := by
  induction f generalizing g r with
  | zero =>
    have : r = [] := List.eq_nil_of_length_eq_zero (by omega)
    subst this
    cases g <;> simp [scanBF, stops]
  | succ f ih =>
    cases g with
    | zero =>
      have : r = [] := List.eq_nil_of_length_eq_zero (by omega)
      subst this
      simp [scanBF, stops]
    | succ g =>
      have hw := itemW_pos r
      have e := ih g (r.drop (itemW r)) (by simp; omega) (by simp; omega)
      simp only [scanBF, e]
theorem scanN_stop {r : List Int} (h : stops r = true) : scanN r = 0 := by
  unfold scanN
  cases hr : r.length with
  | zero => rfl
  | succ n => simp [scanNF, h]
theorem scanB_stop {r : List Int} (h : stops r = true) (c : Int) : scanB r c = false := by
  unfold scanB
  cases hr : r.length with
  | zero => rfl
  | succ n => simp [scanBF, h]
theorem scanN_go {r : List Int} (h : stops r = false) : scanN r = itemW r + scanN (r.drop (itemW r)) := by
  have h1 := itemW_pos r
  have h2 := itemW_le r h
  unfold scanN
  cases hr : r.length with
  | zero => omega
  | succ n =>
    simp only [scanNF, h]
    rw [scanNF_fuel n (r.drop (itemW r)).length _ (by simp; omega) (Nat.le_refl _)]
    simp
theorem scanB_go {r : List Int} (h : stops r = false) (c : Int) : scanB r c = (itemIn r c || scanB (r.drop (itemW r)) c) := by
  have h1 := itemW_pos r
  have h2 := itemW_le r h
  unfold scanB
  cases hr : r.length with
  | zero => omega
  | succ n =>
    simp only [scanBF, h]
    rw [scanBF_fuel n (r.drop (itemW r)).length _ c (by simp; omega) (Nat.le_refl _)]
    simp
theorem scanN_le (r : List Int) : scanN r ≤ r.length := by
  suffices h : ∀ n (r : List Int), r.length ≤ n → scanN r ≤ r.length from h r.length r (Nat.le_refl _)
  intro n
  induction n with
  | zero =>
    intro r h
    have : r = [] := List.eq_nil_of_length_eq_zero (by omega)
    subst this; simp [scanN, scanNF]
  | succ n ih =>
    intro r h
    cases hs : stops r with
    | true => rw [scanN_stop hs]; omega
    | false =>
      have h1 := itemW_pos r
      have h2 := itemW_le r hs
      have h3 := ih (r.drop (itemW r)) (by simp; omega)
      rw [scanN_go hs]
      simp at h3
      omega

/-- The set that q begins with: is it turned about; where its items begin. -/
def neg (q : List Int) : Bool := q[1]? == some 94
def body (q : List Int) : List Int := q.drop (if neg q = true then 2 else 1)
def setW (q : List Int) : Nat := min ((if neg q = true then 2 else 1) + scanN (body q) + 1) q.length
def setIn (q : List Int) (c : Int) : Bool := scanB (body q) c != neg q

/-- The token that q, not empty, begins with. -/
def tokW (q : List Int) : Nat := if q[0]? = some 91 then setW q else if q[0]? = some 92 ∧ 1 < q.length then 2 else 1
def tokIn (q : List Int) (c : Int) : Bool :=
  if q[0]? = some 63 then true else if q[0]? = some 91 then setIn q c else if q[0]? = some 92 ∧ 1 < q.length then q.getD 1 0 == c else q.getD 0 0 == c
def tokHd (q : List Int) : Option (Int → Bool) := if q[0]? = some 42 then none else some (tokIn q)
def toksF : Nat → List Int → List (Option (Int → Bool))
  | 0, _ => []
  | f + 1, q => if q.isEmpty = true then [] else tokHd q :: toksF f (q.drop (tokW q))
def toks (q : List Int) : List (Option (Int → Bool)) := toksF q.length q

theorem tokW_bd (q : List Int) (h : q ≠ []) : 1 ≤ tokW q ∧ tokW q ≤ q.length := by
  have h0 : 0 < q.length := List.length_pos_iff.2 h
  unfold tokW setW
  constructor
  · split
    · omega
    · split <;> omega
  · split
    · omega
    · split <;> omega
theorem toksF_fuel (f g : Nat) (q : List Int) (hf : q.length ≤ f) (hg : q.length ≤ g) : toksF f q = toksF g q := by
  induction f generalizing g q with
  | zero =>
    have : q = [] := List.eq_nil_of_length_eq_zero (by omega)
    subst this
    cases g <;> simp [toksF]
  | succ f ih =>
    cases g with
    | zero =>
      have : q = [] := List.eq_nil_of_length_eq_zero (by omega)
      subst this
      simp [toksF]
    | succ g =>
      by_cases hq : q = []
      · subst hq; simp [toksF]
      · have hw := (tokW_bd q hq).1
        have e := ih g (q.drop (tokW q)) (by simp; omega) (by simp; omega)
        simp only [toksF, e]
theorem toks_nil : toks [] = [] := rfl
theorem toks_cons (q : List Int) (h : q ≠ []) : toks q = tokHd q :: toks (q.drop (tokW q)) := by
  obtain ⟨h1, h2⟩ := tokW_bd q h
  unfold toks
  cases hr : q.length with
  | zero => omega
  | succ n =>
    simp only [toksF]
    rw [toksF_fuel n (q.drop (tokW q)).length _ (by simp; omega) (Nat.le_refl _)]
    simp [h]

/-! ### a pattern that escapes every byte -/
def escAll (s : List Int) : List Int := s.flatMap fun c => [92, c]
theorem toks_escAll (s : List Int) : toks (escAll s) = s.map fun c => some fun d => c == d := by
  induction s with
  | nil => rfl
  | cons c s ih =>
    have e : escAll (c :: s) = 92 :: c :: escAll s := by simp [escAll]
    rw [e, toks_cons _ (by simp)]
    have h1 : tokW (92 :: c :: escAll s) = 2 := by simp [tokW]
    have h2 : tokHd (92 :: c :: escAll s) = some fun d => c == d := by
      simp [tokHd]
      funext d
      simp [tokIn]
    rw [h1, h2]
    simp [ih]
theorem glob_lits (s t : List Int) : glob (s.map fun c => some fun d => c == d) t = (s == t) := by
  induction s generalizing t with
  | nil => cases t <;> simp [glob]
  | cons c s ih =>
    cases t with
    | nil => simp [glob]
    | cons d t => simp [glob, ih]
end Go.Proofs.Qxb6600543a
