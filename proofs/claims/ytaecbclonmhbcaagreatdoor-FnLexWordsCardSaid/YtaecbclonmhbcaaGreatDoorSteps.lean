/- A row of calls, as plain functions; and a call, whichever. -/
import Derived.Test.YtaecbclonmhbcaaGreatDoorCall
import Derived.Test.YtaecbclonmhbcaaGreatDoorFine
namespace Go.Proofs.YtaecbclonmhbcaaGreatDoor
open Go.RowKit

/-- What a call (its number, its N) tells, and what it makes of a lexer with one error: 1 Delim, 2 IsDelim, 3 Null, 4 IsNull, 15 Bool, 42 CurrentToken. -/
def callN (c : Int × Int) (x : Lx) : Int :=
  if c.1 = 2 then b01 (x.isDelim c.2) else if c.1 = 4 then b01 x.isNull else if c.1 = 42 then x.current else if c.1 = 15 then b01 x.boolV else 0
def callX (c : Int × Int) (x : Lx) : Lx :=
  if c.1 = 1 then x.delimP c.2 else if c.1 = 3 then x.null else if c.1 = 15 then x.bool else x.peek
structure OkCall (c : Int × Int) : Prop where
  op : c.1 = 1 ∨ c.1 = 2 ∨ c.1 = 3 ∨ c.1 = 4 ∨ c.1 = 15 ∨ c.1 = 42
  n : 0 ≤ c.2 ∧ c.2 ≤ 255

/-- The states, and what is told: N, the error's kind, the place. -/
def gots : List (Int × Int) → Lx → List (Int × Int × Int)
  | [], _ => []
  | c :: cs, x => (callN c x, (callX c x).err.num, ((callX c x).pos : Int)) :: gots cs (callX c x)
def runX (cs : List (Int × Int)) (x : Lx) : Lx := cs.foldl (fun y c => callX c y) x

theorem gots_length : ∀ (cs : List (Int × Int)) (x : Lx), (gots cs x).length = cs.length
  | [], _ => rfl
  | c :: cs, x => by simp [gots, gots_length cs]
theorem gots_snoc (c : Int × Int) : ∀ (cs : List (Int × Int)) (x : Lx), gots (cs ++ [c]) x = gots cs x ++ [(callN c (runX cs x), (callX c (runX cs x)).err.num, ((callX c (runX cs x)).pos : Int))]
  | [], _ => rfl
  | d :: cs, x => by
    show _ :: gots (cs ++ [c]) (callX d x) = _
    rw [gots_snoc c cs (callX d x)]
    rfl
theorem runX_snoc (c : Int × Int) (cs : List (Int × Int)) (x : Lx) : runX (cs ++ [c]) x = callX c (runX cs x) := by simp [runX]

section
variable {x : Lx}
theorem current_small (h : x.Fine) : x.current ≤ 255 := by
  have := (peek_fine h).kind
  unfold Lx.current Lx.currentR
  split <;> omega
theorem delimS_same (c : Int) : x.Same (x.delimS c) := by unfold Lx.delimS; split; exact fail_same.of rfl rfl rfl; exact ⟨rfl, rfl, rfl⟩
theorem nullS_same : x.Same x.nullS := by
  unfold Lx.nullS
  split
  · exact fail_same.trans ⟨rfl, rfl, rfl⟩
  · exact ⟨rfl, rfl, rfl⟩
theorem boolS_same : x.Same x.boolS := by unfold Lx.boolS; split; exact fail_same; exact ⟨rfl, rfl, rfl⟩
theorem callX_same (c : Int × Int) : x.Same (callX c x) := by
  unfold callX
  split
  · exact peek_same.trans (delimS_same _)
  split
  · exact peek_same.trans nullS_same
  split
  · exact peek_same.trans boolS_same
  · exact peek_same
theorem delimS_wf (h : x.Wf) (c : Int) : (x.delimS c).Wf := by unfold Lx.delimS; split; exact h.consume.fail; exact h.consume
theorem nullS_wf (h : x.Wf) : x.nullS.Wf := by
  unfold Lx.nullS
  split
  · exact h.fail.consume
  · exact h.consume
theorem boolS_wf (h : x.Wf) : x.boolS.Wf := by unfold Lx.boolS; split; exact h.fail; exact h.consume
theorem callX_wf (h : x.Wf) (c : Int × Int) : (callX c x).Wf := by
  unfold callX
  split
  · exact delimS_wf (peek_wf h) _
  split
  · exact nullS_wf (peek_wf h)
  split
  · exact boolS_wf (peek_wf h)
  · exact peek_wf h
theorem delimS_fine (h : x.Fine) (c : Int) : (x.delimS c).Fine := by unfold Lx.delimS; split; exact fail_fine (consume_fine h); exact consume_fine h
theorem nullS_fine (h : x.Fine) : x.nullS.Fine := by
  unfold Lx.nullS
  split
  · exact consume_fine (fail_fine h)
  · exact consume_fine h
theorem boolS_fine (h : x.Fine) : x.boolS.Fine := by unfold Lx.boolS; split; exact fail_fine h; exact consume_fine h
theorem callX_fine (h : x.Fine) (c : Int × Int) : (callX c x).Fine := by
  unfold callX
  split
  · exact delimS_fine (peek_fine h) _
  split
  · exact nullS_fine (peek_fine h)
  split
  · exact boolS_fine (peek_fine h)
  · exact peek_fine h
end

section
variable {w : World} {b : Nat} {ae : Sur} {ao : Addr} {x : Lx} {vd vt ve vm : Value}
theorem call_any (h : LexAt w b ae ao x vd vt ve vm) (hw : x.Wf) (hm : x.multi = false) (hf : x.Fine) (c : Int × Int) (hc : OkCall c) (p : Option Addr) (sn sc : Nat) :
    Calls Tryz.prog 26 #[.pointer (some ⟨b, 0, none⟩), callV c.1 c.2 (.slice p sn sc)] w fun e w' => CallDone w b ae ao (callX c x) vd vm (callN c x) e w' := by
  have hno := (callX_fine hf c).err
  obtain ⟨op, n⟩ := c
  obtain ⟨hop, hn⟩ := hc
  rcases hop with e | e | e | e | e | e <;> simp only at e hn <;> subst e
  · exact call_delim h hw hm n hn p sn sc hno
  · exact call_isDelim h hw hm n hn p sn sc hno
  · exact call_null h hw hm n p sn sc hno
  · exact call_isNull h hw hm n p sn sc hno
  · exact call_bool h hw hm n p sn sc hno
  · exact call_current h hw hm n (current_small hf) p sn sc hno
end
end Go.Proofs.YtaecbclonmhbcaaGreatDoor
