/- FnLexWords, the plain law: what a lexer tells of a word behind blanks. -/
import Derived.Test.YtaecbclonmhbcaaGreatDoorPlainD
namespace Go.Proofs.YtaecbclonmhbcaaGreatDoor

theorem scan_blanks : ∀ (bl : List Int) (x : Lx) (cs : List Int), (∀ c ∈ bl, c = 32 ∨ c = 9 ∨ c = 13 ∨ c = 10) →
    Lx.scan x (bl ++ cs) = Lx.scan { x with pos := x.pos + bl.length, start := x.start + bl.length } cs
  | [], _, _, _ => rfl
  | b :: bl, x, cs, h => by
    rw [List.cons_append, scan_blank (h b (by simp)), scan_blanks bl _ cs (fun c hc => h c (by simp [hc]))]
    simp only [List.length_cons]
    rw [show x.pos + 1 + bl.length = x.pos + (bl.length + 1) from by omega, show x.start + 1 + bl.length = x.start + (bl.length + 1) from by omega]

/-- The words, by a number. -/
def wordOf (k : Nat) : List Int := if k = 0 then [116, 114, 117, 101] else if k = 1 then [102, 97, 108, 115, 101] else [110, 117, 108, 108]
def wordsD (bl : List Int) (k : Nat) (tail : List Int) : List Int := bl ++ (wordOf k ++ 44 :: tail)

theorem wordAt_at (bl ws tail : List Int) (c : Int) : wordAt (bl ++ (c :: ws ++ 44 :: tail)) bl.length ws = true := by
  have h1 : (bl ++ (c :: ws ++ 44 :: tail)).drop (bl.length + 1) = ws ++ 44 :: tail := by
    rw [← List.drop_drop, List.drop_left]; rfl
  have h2 : (bl ++ (c :: ws ++ 44 :: tail)).drop (bl.length + 1 + ws.length) = 44 :: tail := by
    rw [← List.drop_drop, h1, List.drop_left]
  unfold wordAt
  rw [h1, h2]
  simp [headEnd, isEndB, isBl]

section
variable {bl tail : List Int} {k : Nat}
/-- The lexer behind the word. -/
structure Lx.Word (x : Lx) (bl : List Int) (k : Nat) : Prop where
  kind : x.kind = if k = 2 then 5 else 4
  bv : k ≠ 2 → x.bv = decide (k = 0)
  err : x.err = .nil
  pos : x.pos = bl.length + (wordOf k).length

theorem words_peek (hb : ∀ c ∈ bl, c = 32 ∨ c = 9 ∨ c = 13 ∨ c = 10) (hk : k < 3) : ((Lx.begin (wordsD bl k tail) false).peek).Word bl k := by
  have hn := begin_next (wordsD bl k tail)
  rw [hn.peek]
  have hf : (Lx.begin (wordsD bl k tail) false).fetch = Lx.scan { Lx.begin (wordsD bl k tail) false with pos := 0 + bl.length, start := 0 + bl.length } (wordOf k ++ 44 :: tail) := by
    show Lx.scan _ (wordsD bl k tail) = _
    unfold wordsD
    rw [scan_blanks bl _ _ hb]
    rfl
  rw [hf]
  have hk' : k = 0 ∨ k = 1 ∨ k = 2 := by omega
  rcases hk' with rfl | rfl | rfl
  · show (Lx.scan _ (116 :: _)).Word bl 0
    rw [scan_t, sepFail_zero rfl]
    have := wordAt_at bl [114, 117, 101] tail 116
    unfold Lx.word
    rw [if_pos (by show wordAt (wordsD bl 0 tail) (0 + bl.length) _ = true; rw [Nat.zero_add]; exact this)]
    exact ⟨rfl, fun _ => rfl, rfl, by show 0 + bl.length + 1 + 3 = _; simp [wordOf]⟩
  · show (Lx.scan _ (102 :: _)).Word bl 1
    rw [scan_f, sepFail_zero rfl]
    have := wordAt_at bl [97, 108, 115, 101] tail 102
    unfold Lx.word
    rw [if_pos (by show wordAt (wordsD bl 1 tail) (0 + bl.length) _ = true; rw [Nat.zero_add]; exact this)]
    exact ⟨rfl, fun _ => rfl, rfl, by show 0 + bl.length + 1 + 4 = _; simp [wordOf]⟩
  · show (Lx.scan _ (110 :: _)).Word bl 2
    rw [scan_n, sepFail_zero rfl]
    have := wordAt_at bl [117, 108, 108] tail 110
    unfold Lx.word
    rw [if_pos (by show wordAt (wordsD bl 2 tail) (0 + bl.length) _ = true; rw [Nat.zero_add]; exact this)]
    exact ⟨rfl, fun h => absurd rfl h, rfl, by show 0 + bl.length + 1 + 3 = _; simp [wordOf]⟩

theorem Lx.Word.ok {x : Lx} (h : x.Word bl k) : x.ok = true := by unfold Lx.ok; rw [h.err]; rfl
theorem Lx.Word.peek {x : Lx} (h : x.Word bl k) : x.peek = x := peek_held (by rw [h.kind]; split <;> decide)

/-- What the three questions tell. -/
theorem words_gots (hb : ∀ c ∈ bl, c = 32 ∨ c = 9 ∨ c = 13 ∨ c = 10) (hk : k < 3) :
    ((gots [(42, 0), (4, 0), (4, 0)] (Lx.begin (wordsD bl k tail) false)).getD 1 (0, 0, 0)).1 = b01 (decide (k = 2)) ∧
      ((gots [(42, 0), (4, 0), (4, 0)] (Lx.begin (wordsD bl k tail) false)).getD 2 (0, 0, 0)).1 = b01 (decide (k = 2)) := by
  have h := words_peek (tail := tail) hb hk
  generalize hx : Lx.begin (wordsD bl k tail) false = x at h
  have h1 : callX (42, 0) x = x.peek := by simp [callX]
  have h2 : callX (4, 0) x.peek = x.peek := by simp [callX, h.peek]
  have h3 : callN (4, 0) x.peek = b01 (decide (k = 2)) := by
    have : x.peek.isNull = decide (k = 2) := by
      unfold Lx.isNull
      rw [h.peek, h.ok, h.kind]
      split <;> simp_all
    simp [callN, this]
  simp only [gots, h1, h2, h3, List.getD_cons_succ, List.getD_cons_zero, and_self]

/-- The word itself. -/
theorem words_one (hb : ∀ c ∈ bl, c = 32 ∨ c = 9 ∨ c = 13 ∨ c = 10) (hk : k < 3) :
    (callX (if k = 2 then 3 else 15, 0) (Lx.begin (wordsD bl k tail) false)).err.num = 0 ∧
      (callX (if k = 2 then 3 else 15, 0) (Lx.begin (wordsD bl k tail) false)).pos = bl.length + (wordOf k).length ∧
      (k ≠ 2 → callN (15, 0) (Lx.begin (wordsD bl k tail) false) = b01 (decide (k = 0))) := by
  have h := words_peek (tail := tail) hb hk
  generalize hx : Lx.begin (wordsD bl k tail) false = x at h
  by_cases e : k = 2
  · subst e
    have h1 : callX (3, 0) x = x.peek.consume := by
      have : x.peek.kind = 5 := h.kind
      simp [callX, Lx.null, Lx.nullS, h.ok, this]
    rw [if_pos rfl, h1]
    refine ⟨by show x.peek.err.num = 0; rw [h.err]; rfl, h.pos, fun n => absurd rfl n⟩
  · have hk4 : x.peek.kind = 4 := by rw [h.kind, if_neg e]
    have h1 : callX (15, 0) x = x.peek.consume := by simp [callX, Lx.bool, Lx.boolS, h.ok, hk4]
    rw [if_neg e, h1]
    refine ⟨by show x.peek.err.num = 0; rw [h.err]; rfl, h.pos, fun n => ?_⟩
    have : x.boolV = decide (k = 0) := by
      unfold Lx.boolV Lx.boolR
      rw [h.ok, hk4]
      simpa using h.bv e
    simp [callN, this]
end
end Go.Proofs.YtaecbclonmhbcaaGreatDoor
