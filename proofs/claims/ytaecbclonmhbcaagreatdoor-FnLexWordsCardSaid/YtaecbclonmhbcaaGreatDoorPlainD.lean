/- FnLexDelims, the plain law: what a lexer tells of a row of opened brackets. -/
import Derived.Test.YtaecbclonmhbcaaGreatDoorSteps
namespace Go.Proofs.YtaecbclonmhbcaaGreatDoor

/-- The bytes of a row, up to the first brace. -/
def rowB : List Bool → List Int
  | [] => []
  | true :: _ => [123]
  | false :: r => 91 :: rowB r
/-- The calls over these bytes. -/
def rowC (l : List Int) : List (Int × Int) := l.flatMap fun c => [(2, c), (1, c)]

/-- No token is held, and no error; place p is next. -/
structure Lx.Next (x : Lx) (d : List Int) (p : Nat) : Prop where
  d : x.d = d
  pos : x.pos = p
  kind : x.kind = 0
  sep : x.sep = 0
  err : x.err = .nil

section
variable {x : Lx} {d : List Int} {p : Nat}
theorem Lx.Next.ok (h : x.Next d p) : x.ok = true := by unfold Lx.ok; rw [h.err]; rfl
theorem Lx.Next.peek (h : x.Next d p) : x.peek = x.fetch := by
  have := h.ok
  simp [Lx.peek, h.kind, this]
theorem Lx.Next.peekOpen (h : x.Next d p) (hp : p < d.length) (hc : d.getD p 0 = 123 ∨ d.getD p 0 = 91) :
    x.peek = { x with start := p, fst := true, kind := 1, delim := d.getD p 0, pos := p + 1 } := by
  rw [h.peek]
  unfold Lx.fetch
  rw [h.d, h.pos, drop_cons_getD d p hp, scan_open hc, sepFail_zero (by exact h.sep)]
theorem peek_held {x : Lx} (h : x.kind ≠ 0) : x.peek = x := by simp [Lx.peek, h]

theorem Lx.Next.delim (h : x.Next d p) (hp : p < d.length) (hc : d.getD p 0 = 123 ∨ d.getD p 0 = 91) (c : Int) :
    x.peek.delimP c = x.delimP c ∧ (x.delimP c).err.num = (if d.getD p 0 = c then 0 else 2) ∧ (d.getD p 0 = c → (x.delimP c).Next d (p + 1)) := by
  have hk := h.peekOpen hp hc
  have hpp : x.peek.peek = x.peek := peek_held (by rw [hk]; show (1 : Nat) ≠ 0; decide)
  have ho : x.peek.ok = true := by rw [hk]; exact h.ok
  have hd : x.peek.delim = d.getD p 0 := by rw [hk]
  refine ⟨by unfold Lx.delimP; rw [hpp], ?_, ?_⟩
  · unfold Lx.delimP Lx.delimS
    have he : x.peek.consume.err = .nil := by rw [hk]; exact h.err
    have he' : x.peek.consume.ok = true := ho
    rw [ho, hd]
    clear hd ho hk
    generalize d.getD p 0 = y
    by_cases e : y = c
    · subst e
      simp [he, Er.num]
    · simp [e, Lx.fail, he', Er.num]
  · intro e
    unfold Lx.delimP Lx.delimS
    rw [ho, hd]
    simp only [e, bne_self_eq_false, Bool.not_true, Bool.or_self, Bool.false_eq_true, if_false]
    rw [hk]
    exact ⟨h.d, rfl, rfl, h.sep, h.err⟩

theorem Lx.Next.rows : ∀ (l : List Int) (x : Lx) (p : Nat), x.Next d p → d.drop p = l → (∀ c ∈ l, c = 123 ∨ c = 91) → ∀ k, k < l.length →
    ((gots (rowC l) x).getD (2 * k) (0, 0, 0)).1 = 1 ∧ ((gots (rowC l) x).getD (2 * k + 1) (0, 0, 0)).2.1 = 0 ∧ ((gots (rowC l) x).getD (2 * k + 1) (0, 0, 0)).2.2 = p + k + 1
  | [], _, _, _, _, _, k, hk => absurd hk (by simp)
  | c :: l, x, p, h, hl, hb, k, hk => by
    have hp : p < d.length := by
      have := congrArg List.length hl
      simp at this; omega
    have hcd : d.getD p 0 = c := by
      have := drop_cons_getD d p hp
      rw [hl] at this
      exact (List.cons.inj this).1.symm
    have hrest : d.drop (p + 1) = l := by
      have := drop_cons_getD d p hp
      rw [hl] at this
      exact (List.cons.inj this).2.symm
    have hc : d.getD p 0 = 123 ∨ d.getD p 0 = 91 := by rw [hcd]; exact hb c (by simp)
    obtain ⟨e1, e2, e3⟩ := h.delim hp hc c
    have hk1 := h.peekOpen hp hc
    have hN : callN (2, c) x = 1 := by
      have ho : x.peek.ok = true := by rw [hk1]; exact h.ok
      have hd : x.peek.delim = c := by rw [hk1]; exact hcd
      simp [callN, Lx.isDelim, ho, hd, b01]
    have hX2 : callX (2, c) x = x.peek := by simp [callX]
    have hX1 : callX (1, c) x.peek = x.delimP c := by simp only [callX, if_true]; exact e1
    have hg : gots (rowC (c :: l)) x = (callN (2, c) x, (callX (2, c) x).err.num, ((callX (2, c) x).pos : Int)) :: (callN (1, c) x.peek, (x.delimP c).err.num, ((x.delimP c).pos : Int)) :: gots (rowC l) (x.delimP c) := by
      show gots ((2, c) :: (1, c) :: rowC l) x = _
      simp only [gots, hX2, hX1]
    have hnext := e3 hcd
    rw [hg]
    cases k with
    | zero =>
      refine ⟨by simpa using hN, ?_, ?_⟩
      · rw [hcd, if_pos rfl] at e2
        exact e2
      · have := hnext.pos
        simp [this]
    | succ k =>
      have := Lx.Next.rows l _ (p + 1) hnext hrest (fun y hy => hb y (by simp [hy])) k (by simpa using hk)
      rw [show 2 * (k + 1) = 2 * k + 1 + 1 from by omega]
      simp only [List.getD_cons_succ]
      refine ⟨this.1, this.2.1, by rw [this.2.2]; push_cast; omega⟩

theorem begin_next (l : List Int) : (Lx.begin l false).Next l 0 := ⟨rfl, rfl, rfl, rfl, rfl⟩
theorem rowB_mem : ∀ (r : List Bool) (c : Int), c ∈ rowB r → c = 123 ∨ c = 91
  | [], _, h => by simp [rowB] at h
  | true :: _, c, h => by simp [rowB] at h; exact .inl h
  | false :: r, c, h => by
    simp only [rowB, List.mem_cons] at h
    rcases h with h | h
    · exact .inr h
    · exact rowB_mem r c h
theorem rowB_length : ∀ r : List Bool, (rowB r).length ≤ r.length
  | [] => by simp [rowB]
  | true :: r => by simp [rowB]
  | false :: r => by have := rowB_length r; simp [rowB]; exact this
theorem rowC_length (l : List Int) : (rowC l).length = 2 * l.length := by
  induction l with
  | nil => rfl
  | cons c l ih => simp only [rowC, List.flatMap_cons, List.length_append, List.length_cons, List.length_nil] at ih ⊢; omega

/-- The whole law: each bracket where it stands. -/
theorem delims_rows (r : List Bool) (k : Nat) (hk : k < (rowB r).length) :
    ((gots (rowC (rowB r)) (Lx.begin (rowB r) false)).getD (2 * k) (0, 0, 0)).1 = 1 ∧ ((gots (rowC (rowB r)) (Lx.begin (rowB r) false)).getD (2 * k + 1) (0, 0, 0)).2.1 = 0 ∧
      ((gots (rowC (rowB r)) (Lx.begin (rowB r) false)).getD (2 * k + 1) (0, 0, 0)).2.2 = k + 1 := by
  have h := Lx.Next.rows (rowB r) _ 0 (begin_next (rowB r)) rfl (rowB_mem r) k hk
  simpa using h
/-- .. and another one is refused. -/
theorem delims_one (r : List Bool) (h : 0 < (rowB r).length) (c : Int) : (callX (1, c) (Lx.begin (rowB r) false)).err.num = (if (rowB r).getD 0 0 = c then 0 else 2) := by
  have hm : (rowB r).getD 0 0 = 123 ∨ (rowB r).getD 0 0 = 91 := by
    refine rowB_mem r _ ?_
    rw [List.getD, List.getElem?_eq_getElem h]
    exact List.getElem_mem h
  have := ((begin_next (rowB r)).delim h hm c).2.1
  simpa [callX] using this
end
end Go.Proofs.YtaecbclonmhbcaaGreatDoor
