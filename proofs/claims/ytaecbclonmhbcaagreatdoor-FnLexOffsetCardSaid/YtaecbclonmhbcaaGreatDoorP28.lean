/- No call of reading brings the error that is added from without; kinds stay small. Plain. The token's bytes are bytes of the text. Plain. A number's token is not empty, and of the signs that stand in numbers. Plain. SkipRecursive's scan, and where a token ends. Plain. The place of the lexer goes on and on, in whatever mode. Plain. What holds of a lexer between calls, in whatever mode; what errInvalidToken does to it. Plain. impl.kind, impl.one, and the lexer's Error, GetPos. -/
import Derived.Test.YtaecbclonmhbcaaGreatDoorP27
import Derived.Test.YtaecbclonmhbcaaGreatDoorP01
import Derived.Test.YtaecbclonmhbcaaGreatDoorP16
import Derived.LaidEql
import Derived.Stop.Asserts
set_option linter.unusedVariables false
set_option linter.unusedSimpArgs false
namespace Go.Proofs.YtaecbclonmhbcaaGreatDoor
structure Lx.Fine (x : Lx) : Prop where
  kind : x.kind ≤ 5
  err : x.err ≠ .other
section
variable {x : Lx}
theorem Lx.Fine.as {y : Lx} (h : x.Fine) (hk : y.kind ≤ 5) (he : y.err = x.err) : y.Fine := ⟨hk, by rw [he]; exact h.err⟩
theorem fail_fine (h : x.Fine) : x.fail.Fine := by unfold Lx.fail; split; exact ⟨h.kind, by simp⟩; exact h
theorem sepFail_fine (h : x.Fine) : x.sepFail.Fine := by unfold Lx.sepFail; split; exact fail_fine h; exact h
theorem word_fine (h : x.Fine) (ws : List Int) : (x.word ws).Fine := by unfold Lx.word; split; exact h.as h.kind rfl; exact fail_fine h
theorem fetchNumber_fine (h : x.Fine) : x.fetchNumber.Fine := by
  unfold Lx.fetchNumber
  split
  · exact h.as h.kind rfl
  · split
    · exact h.as h.kind rfl
    · exact fail_fine (h.as h.kind rfl)
theorem fetchString_fine (h : x.Fine) : x.fetchString.Fine := by
  unfold Lx.fetchString
  split
  · exact h.as h.kind rfl
  · exact fail_fine (h.as h.kind rfl)
theorem scan_fine : ∀ (cs : List Int) (x : Lx), x.Fine → (Lx.scan x cs).Fine
  | [], x, h => ⟨h.kind, by simp [Lx.scan]⟩
  | c :: cs, x, h => by
    unfold Lx.scan
    split
    · split
      · exact scan_fine cs _ (h.as h.kind rfl)
      · exact scan_fine cs _ (fail_fine h)
    split
    · exact scan_fine cs _ (h.as h.kind rfl)
    split
    · exact fetchString_fine ((sepFail_fine h).as (by show (2 : Nat) ≤ 5; decide) rfl)
    split
    · exact (sepFail_fine h).as (by show (1 : Nat) ≤ 5; decide) rfl
    split
    · split
      · exact (fail_fine h).as (by show (1 : Nat) ≤ 5; decide) rfl
      · exact h.as (by show (1 : Nat) ≤ 5; decide) rfl
    split
    · exact fetchNumber_fine ((sepFail_fine h).as (by show (3 : Nat) ≤ 5; decide) rfl)
    split
    · exact word_fine (x := { x.sepFail with kind := 5 }) ((sepFail_fine h).as (by show (5 : Nat) ≤ 5; decide) rfl) _
    split
    · exact word_fine (x := { x.sepFail with kind := 4, bv := true }) ((sepFail_fine h).as (by show (4 : Nat) ≤ 5; decide) rfl) _
    split
    · exact word_fine (x := { x.sepFail with kind := 4, bv := false }) ((sepFail_fine h).as (by show (4 : Nat) ≤ 5; decide) rfl) _
    · exact fail_fine h
theorem fetch_fine (h : x.Fine) : x.fetch.Fine := scan_fine _ _ (h.as (by show (0 : Nat) ≤ 5; decide) rfl)
end
end Go.Proofs.YtaecbclonmhbcaaGreatDoor

namespace Go.Proofs.YtaecbclonmhbcaaGreatDoor
def Lx.TF (x : Lx) : Prop := x.ok = true → x.kind = 2 ∨ x.kind = 3 → x.tok.length ≤ x.d.length ∧ Bytes x.tok
section
variable {x : Lx}
theorem fail_ok : x.fail.ok = false := by
  unfold Lx.fail
  split
  · rfl
  · rename_i h; exact Bool.eq_false_iff.2 h
theorem fail_tf : x.fail.TF := fun h => by rw [fail_ok] at h; cases h
theorem tf_kind (h : x.kind ≠ 2 ∧ x.kind ≠ 3) : x.TF := fun _ hk => by rcases hk with e | e; exact absurd e h.1; exact absurd e h.2
theorem bytes_cut {l : List Int} (h : Bytes l) (a n : Nat) : ((l.drop a).take n).length ≤ l.length ∧ Bytes ((l.drop a).take n) := by
  refine ⟨by rw [List.length_take, List.length_drop]; omega, fun i => ?_⟩
  by_cases hi : i < n
  · have : ((l.drop a).take n).getD i 0 = (l.drop a).getD i 0 := by simp [List.getD, hi]
    rw [this]; exact h.drop a i
  · have : ((l.drop a).take n).getD i 0 = 0 := by simp [List.getD, List.getElem?_take, hi]
    rw [this]; omega
theorem word_tf (h : x.kind ≠ 2 ∧ x.kind ≠ 3) (ws : List Int) : (x.word ws).TF := by
  unfold Lx.word
  split
  · exact tf_kind h
  · exact fail_tf
theorem fetchString_tf (h : Bytes x.d) : x.fetchString.TF := by
  unfold Lx.fetchString
  split
  · exact fun _ _ => bytes_cut h _ _
  · exact fail_tf
theorem fetchNumber_tf (h : Bytes x.d) : x.fetchNumber.TF := by
  unfold Lx.fetchNumber
  split
  · exact fun _ _ => ⟨by rw [List.length_drop]; exact Nat.sub_le _ _, h.drop _⟩
  · split
    · exact fun _ _ => bytes_cut h _ _
    · exact fail_tf
theorem scan_tf : ∀ (cs : List Int) (x : Lx), Bytes x.d → x.kind = 0 → (Lx.scan x cs).TF
  | [], x, _, _ => fun h => by simp [Lx.scan, Lx.ok, Er.isNil] at h
  | c :: cs, x, h, hk => by
    have e1 := (sepFail_same (x := x)).d
    unfold Lx.scan
    split
    · split
      · exact scan_tf cs _ h hk
      · exact scan_tf cs _ (by rw [fail_d]; exact h) (by unfold Lx.fail; split <;> exact hk)
    split
    · exact scan_tf cs _ h hk
    split
    · exact fetchString_tf (by show Bytes x.sepFail.d; rw [e1]; exact h)
    split
    · exact tf_kind (by show (1 : Nat) ≠ 2 ∧ (1 : Nat) ≠ 3; decide)
    split
    · exact tf_kind (by show (1 : Nat) ≠ 2 ∧ (1 : Nat) ≠ 3; decide)
    split
    · exact fetchNumber_tf (by show Bytes x.sepFail.d; rw [e1]; exact h)
    split
    · exact word_tf (x := { x.sepFail with kind := 5 }) (by show (5 : Nat) ≠ 2 ∧ (5 : Nat) ≠ 3; decide) _
    split
    · exact word_tf (x := { x.sepFail with kind := 4, bv := true }) (by show (4 : Nat) ≠ 2 ∧ (4 : Nat) ≠ 3; decide) _
    split
    · exact word_tf (x := { x.sepFail with kind := 4, bv := false }) (by show (4 : Nat) ≠ 2 ∧ (4 : Nat) ≠ 3; decide) _
    · exact fail_tf
theorem fetch_tf (h : Bytes x.d) : x.fetch.TF := scan_tf _ _ h rfl
theorem peek_tf (h : x.TF) (hb : Bytes x.d) : x.peek.TF := by unfold Lx.peek; split; exact fetch_tf hb; exact h
end
end Go.Proofs.YtaecbclonmhbcaaGreatDoor

namespace Go.Proofs.YtaecbclonmhbcaaGreatDoor
def NumL (l : List Int) : Prop := ∀ c ∈ l, NumCh c
def Lx.NF (x : Lx) : Prop := x.ok = true → x.kind = 3 → x.tok ≠ [] ∧ NumL x.tok
theorem dig_num {c : Int} (h : isDig c = true) : NumCh c := by
  simp only [isDig, Bool.and_eq_true, decide_eq_true_eq] at h
  exact .inl h
theorem numScan_num : ∀ (l : List Int) (e a t : Bool), (∀ c ∈ l.take (numScan l e a t).1, NumCh c) ∧ ((numScan l e a t).2 = none → (numScan l e a t).1 = l.length)
  | [], _, _, _ => ⟨fun c h => by simp at h, fun _ => rfl⟩
  | c :: cs, e, a, t => by
    have step : ∀ (e' a' t' : Bool), NumCh c → (∀ x ∈ (c :: cs).take ((numScan cs e' a' t').1 + 1), NumCh x) ∧ ((numScan cs e' a' t').2 = none → (numScan cs e' a' t').1 + 1 = (c :: cs).length) := by
      intro e' a' t' hc
      obtain ⟨h1, h2⟩ := numScan_num cs e' a' t'
      refine ⟨fun x hx => ?_, fun h => by rw [h2 h]; rfl⟩
      rw [List.take_succ_cons, List.mem_cons] at hx
      rcases hx with rfl | hx
      · exact hc
      · exact h1 x hx
    simp only [numScan]
    split
    · rename_i h; exact step _ _ _ (dig_num h)
    split
    · rename_i h
      simp only [Bool.and_eq_true, beq_iff_eq] at h
      exact step _ _ _ (.inr (.inl h.1))
    split
    · rename_i h
      simp only [Bool.and_eq_true, Bool.or_eq_true, beq_iff_eq] at h
      exact step _ _ _ (by unfold NumCh; omega)
    split
    · rename_i h
      simp only [Bool.and_eq_true, Bool.or_eq_true, beq_iff_eq] at h
      exact step _ _ _ (by unfold NumCh; omega)
    · exact ⟨fun x hx => by simp at hx, fun h => by simp at h⟩
section
variable {x : Lx}
theorem fail_nf : x.fail.NF := fun h => by rw [fail_ok] at h; cases h
theorem nf_kind (h : x.kind ≠ 3) : x.NF := fun _ e => absurd e h
theorem nf_notok (h : x.ok = false) : x.NF := fun e => by rw [h] at e; cases e
theorem word_nf (h : x.kind ≠ 3) (ws : List Int) : (x.word ws).NF := by
  unfold Lx.word
  split
  · exact nf_kind h
  · exact fail_nf
theorem fetchString_nf (h : x.kind ≠ 3) : x.fetchString.NF := by
  unfold Lx.fetchString
  split
  · exact nf_kind h
  · exact fail_nf
theorem fetchNumber_notok (h : x.ok = false) : x.fetchNumber.ok = false := by
  unfold Lx.fetchNumber
  split
  · exact h
  · split
    · exact h
    · exact fail_ok
theorem fetchNumber_nf {c : Int} {cs : List Int} (hd : x.d.drop x.pos = c :: cs) (hs : x.start = x.pos) (hc : NumCh c) : x.fetchNumber.NF := by
  have hd1 : x.d.drop (x.pos + 1) = cs := by rw [← List.drop_drop, hd]; rfl
  obtain ⟨h1, h2⟩ := numScan_num cs false false false
  unfold Lx.fetchNumber
  rw [hd1]
  split
  · rename_i n hn
    rw [hn] at h1 h2
    simp only [forall_const] at h2
    intro _ _
    show x.d.drop x.start ≠ [] ∧ NumL (x.d.drop x.start)
    rw [hs, hd]
    refine ⟨by simp, fun y hy => ?_⟩
    rw [List.mem_cons] at hy
    rcases hy with rfl | hy
    · exact hc
    · exact h1 y (by rw [h2, List.take_length]; exact hy)
  · rename_i n c' hn
    rw [hn] at h1
    split
    · intro _ _
      show (x.d.drop x.start).take (x.pos + 1 + n - x.start) ≠ [] ∧ NumL ((x.d.drop x.start).take (x.pos + 1 + n - x.start))
      rw [hs, hd, show x.pos + 1 + n - x.pos = n + 1 by omega, List.take_succ_cons]
      refine ⟨by simp, fun y hy => ?_⟩
      rw [List.mem_cons] at hy
      rcases hy with rfl | hy
      · exact hc
      · exact h1 y hy
    · exact fail_nf
theorem sepFail_ok_eq (h : x.sepFail.ok = true) : x.sepFail = x ∧ x.ok = true := by
  unfold Lx.sepFail at h ⊢
  split at h
  · rw [fail_ok] at h; cases h
  · rename_i h'; rw [if_neg h']; exact ⟨rfl, h⟩
theorem fail_kind0 (h : x.kind = 0) : x.fail.kind = 0 := by unfold Lx.fail; split <;> exact h
theorem scan_nf : ∀ (cs : List Int) (x : Lx), (x.ok = true → x.start = x.pos ∧ x.d.drop x.pos = cs) → x.kind = 0 → (Lx.scan x cs).NF
  | [], x, _, _ => nf_notok (by simp [Lx.scan, Lx.ok, Er.isNil])
  | c :: cs, x, h, hk => by
    have hnext : x.ok = true → x.start + 1 = x.pos + 1 ∧ x.d.drop (x.pos + 1) = cs := fun e => by
      obtain ⟨h1, h2⟩ := h e
      exact ⟨by rw [h1], by rw [← List.drop_drop, h2]; rfl⟩
    unfold Lx.scan
    split
    · split
      · exact scan_nf cs _ hnext hk
      · exact scan_nf cs _ (fun e => by rw [fail_ok] at e; cases e) (fail_kind0 hk)
    split
    · exact scan_nf cs _ hnext hk
    split
    · exact fetchString_nf (by show (2 : Nat) ≠ 3; decide)
    split
    · exact nf_kind (by show (1 : Nat) ≠ 3; decide)
    split
    · exact nf_kind (by show (1 : Nat) ≠ 3; decide)
    split
    · rename_i hc
      have hn : NumCh c := by
        simp only [Bool.or_eq_true, beq_iff_eq] at hc
        rcases hc with hc | hc
        · exact dig_num hc
        · unfold NumCh; omega
      cases hs : x.sepFail.ok with
      | false => exact nf_notok (fetchNumber_notok (x := { x.sepFail with kind := 3 }) hs)
      | true =>
        obtain ⟨e, ho⟩ := sepFail_ok_eq hs
        rw [e]
        obtain ⟨h1, h2⟩ := h ho
        exact fetchNumber_nf (x := { x with kind := 3 }) h2 h1 hn
    split
    · exact word_nf (x := { x.sepFail with kind := 5 }) (by show (5 : Nat) ≠ 3; decide) _
    split
    · exact word_nf (x := { x.sepFail with kind := 4, bv := true }) (by show (4 : Nat) ≠ 3; decide) _
    split
    · exact word_nf (x := { x.sepFail with kind := 4, bv := false }) (by show (4 : Nat) ≠ 3; decide) _
    · exact fail_nf
theorem fetch_nf : x.fetch.NF := scan_nf _ _ (fun _ => ⟨rfl, rfl⟩) rfl
theorem peek_nf (h : x.NF) : x.peek.NF := by unfold Lx.peek; split; exact fetch_nf; exact h
end
end Go.Proofs.YtaecbclonmhbcaaGreatDoor

namespace Go.Proofs.YtaecbclonmhbcaaGreatDoor
def skipScan (o e : Int) : List Int → Nat → Bool → Bool → Option Nat
  | [], _, _, _ => none
  | c :: cs, lv, q, s =>
    if c == o && !q then (skipScan o e cs (lv + 1) q false).map (· + 1)
    else if c == e && !q then (if lv == 1 then some 1 else (skipScan o e cs (lv - 1) q false).map (· + 1))
    else if c == 92 && q then (skipScan o e cs lv q (!s)).map (· + 1)
    else if c == 34 && q then (skipScan o e cs lv s false).map (· + 1)
    else if c == 34 then (skipScan o e cs lv true false).map (· + 1)
    else (skipScan o e cs lv q false).map (· + 1)
theorem skipScan_le {o e : Int} : ∀ (l : List Int) (lv : Nat) (q s : Bool) (n : Nat), skipScan o e l lv q s = some n → 1 ≤ n ∧ n ≤ l.length
  | [], _, _, _, n, h => by simp [skipScan] at h
  | c :: cs, lv, q, s, n, h => by
    have key : ∀ (lv : Nat) (q s : Bool), (skipScan o e cs lv q s).map (· + 1) = some n → 1 ≤ n ∧ n ≤ (c :: cs).length := by
      intro lv q s h
      cases hr : skipScan o e cs lv q s with
      | none => rw [hr] at h; simp at h
      | some m =>
        rw [hr] at h
        have := skipScan_le cs lv q s m hr
        simp at h ⊢
        omega
    simp only [skipScan] at h
    repeat' split at h
    · exact key _ _ _ h
    · simp at h ⊢; omega
    · exact key _ _ _ h
    · exact key _ _ _ h
    · exact key _ _ _ h
    · exact key _ _ _ h
    · exact key _ _ _ h
def closeOf (c : Int) : Int := if c == 123 then 125 else 93
inductive SkipRel (y : Lx) : Lx → Prop
  | token (h : y.delim ≠ 123 ∧ y.delim ≠ 91) : SkipRel y y.consume
  | shut (n : Nat) (h : y.delim = 123 ∨ y.delim = 91) (hs : skipScan y.delim (closeOf y.delim) (y.d.drop y.pos) 1 false false = some n) : SkipRel y { y.consume with pos := y.pos + n }
  | bad (h : y.delim = 123 ∨ y.delim = 91) : SkipRel y { y.consume with pos := y.d.length, err := .lex y.d.length }
def tokB (c : Int) : Prop := c ≠ 58 ∧ c ≠ 44 ∧ isBl c = false
def tEnd (d : List Int) (p : Nat) : Nat :=
  if d.getD p 0 = 34 then (match strLen (d.length + 1) (d.drop (p + 1)) 0 with | (true, n) => p + 1 + n + 1 | (false, n) => p + 1 + n)
  else if d.getD p 0 = 123 ∨ d.getD p 0 = 91 ∨ d.getD p 0 = 125 ∨ d.getD p 0 = 93 then p + 1
  else if isDig (d.getD p 0) = true ∨ d.getD p 0 = 45 then (match numScan (d.drop (p + 1)) false false false with | (_, none) => d.length | (n, some _) => p + 1 + n)
  else if d.getD p 0 = 110 then (if wordAt d p [117, 108, 108] then p + 1 + 3 else p)
  else if d.getD p 0 = 116 then (if wordAt d p [114, 117, 101] then p + 1 + 3 else p)
  else if d.getD p 0 = 102 then (if wordAt d p [97, 108, 115, 101] then p + 1 + 4 else p)
  else p
section
variable {x : Lx}
theorem sepFail_d : x.sepFail.d = x.d := (sepFail_same (x := x)).d
theorem fail_delim : x.fail.delim = x.delim := by unfold Lx.fail; split <;> rfl
theorem sepFail_delim : x.sepFail.delim = x.delim := by unfold Lx.sepFail; split; exact fail_delim; rfl
theorem word_at (ws : List Int) : (x.word ws).pos = (if wordAt x.d x.pos ws then x.pos + 1 + ws.length else x.pos) ∧ (x.word ws).start = x.start ∧ (x.word ws).delim = x.delim := by
  unfold Lx.word
  split
  · exact ⟨rfl, rfl, rfl⟩
  · exact ⟨fail_pos, fail_start, fail_delim⟩
theorem fetchString_at' : x.fetchString.pos = (match strLen (x.d.length + 1) (x.d.drop (x.pos + 1)) 0 with | (true, n) => x.pos + 1 + n + 1 | (false, n) => x.pos + 1 + n) ∧ x.fetchString.start = x.start ∧ x.fetchString.delim = x.delim := by
  unfold Lx.fetchString
  split
  · rename_i n hn; rw [hn]; exact ⟨rfl, rfl, rfl⟩
  · rename_i n hn; rw [hn]; exact ⟨fail_pos, fail_start, fail_delim⟩
theorem fetchNumber_at : x.fetchNumber.pos = (match numScan (x.d.drop (x.pos + 1)) false false false with | (_, none) => x.d.length | (n, some _) => x.pos + 1 + n) ∧ x.fetchNumber.start = x.start ∧ x.fetchNumber.delim = x.delim := by
  unfold Lx.fetchNumber
  split
  · rename_i n hn; rw [hn]; exact ⟨rfl, rfl, rfl⟩
  · rename_i n c hn
    rw [hn]
    split
    · exact ⟨rfl, rfl, rfl⟩
    · exact ⟨fail_pos, fail_start, fail_delim⟩
theorem scan_at {c : Int} {cs : List Int} (hb : tokB c) (hd : x.d.drop x.pos = c :: cs) :
    (Lx.scan x (c :: cs)).pos = tEnd x.d x.pos ∧ (Lx.scan x (c :: cs)).start = x.start ∧
      (Lx.scan x (c :: cs)).delim = (if c = 123 ∨ c = 91 ∨ c = 125 ∨ c = 93 then c else x.delim) := by
  have hc : x.d.getD x.pos 0 = c := by
    have := congrArg (fun l => l.getD 0 0) hd
    simpa [List.getD] using this
  have hs1 := sepFail_d (x := x)
  have hs2 := sepFail_pos (x := x)
  have hs3 := sepFail_start (x := x)
  have hs4 := sepFail_delim (x := x)
  obtain ⟨h58, h44, hbl⟩ := hb
  unfold tEnd
  rw [hc]
  by_cases h34 : c = 34
  · subst h34
    rw [scan_str, if_pos rfl, if_neg (by decide)]
    obtain ⟨h1, h2, h3⟩ := fetchString_at' (x := { x.sepFail with kind := 2 })
    refine ⟨h1.trans ?_, h2.trans hs3, h3.trans hs4⟩
    show (match strLen (x.sepFail.d.length + 1) (x.sepFail.d.drop (x.sepFail.pos + 1)) 0 with | (true, n) => x.sepFail.pos + 1 + n + 1 | (false, n) => x.sepFail.pos + 1 + n) = _
    rw [hs1, hs2]
  rw [if_neg h34]
  by_cases ho : c = 123 ∨ c = 91
  · rw [scan_open ho, if_pos (by rcases ho with h | h <;> simp [h]), if_pos (by rcases ho with h | h <;> simp [h])]
    exact ⟨rfl, hs3, hc⟩
  by_cases hcl : c = 125 ∨ c = 93
  · have hin : c = 123 ∨ c = 91 ∨ c = 125 ∨ c = 93 := .inr (.inr hcl)
    rw [scan_close hcl, if_pos (c := c = 123 ∨ c = 91 ∨ c = 125 ∨ c = 93) hin, if_pos (c := c = 123 ∨ c = 91 ∨ c = 125 ∨ c = 93) hin]
    refine ⟨rfl, ?_, hc⟩
    show (if (!x.fst && x.sep != 44) = true then x.fail else x).start = x.start
    split
    · exact fail_start
    · rfl
  have hne : ¬ (c = 123 ∨ c = 91 ∨ c = 125 ∨ c = 93) := by
    rintro (h | h | h | h)
    · exact ho (.inl h)
    · exact ho (.inr h)
    · exact hcl (.inl h)
    · exact hcl (.inr h)
  rw [if_neg hne, if_neg hne]
  by_cases hn : isDig c = true ∨ c = 45
  · rw [if_pos hn]
    have hn' : c = 45 ∨ c = 48 ∨ c = 49 ∨ c = 50 ∨ c = 51 ∨ c = 52 ∨ c = 53 ∨ c = 54 ∨ c = 55 ∨ c = 56 ∨ c = 57 := by
      rcases hn with hn | hn
      · simp [isDig] at hn; omega
      · exact .inl hn
    rw [scan_num hn']
    obtain ⟨h1, h2, h3⟩ := fetchNumber_at (x := { x.sepFail with kind := 3 })
    refine ⟨h1.trans ?_, h2.trans hs3, h3.trans hs4⟩
    show (match numScan (x.sepFail.d.drop (x.sepFail.pos + 1)) false false false with | (_, none) => x.sepFail.d.length | (n, some _) => x.sepFail.pos + 1 + n) = _
    rw [hs1, hs2]
  rw [if_neg hn]
  by_cases h110 : c = 110
  · subst h110
    rw [scan_n, if_pos rfl]
    obtain ⟨h1, h2, h3⟩ := word_at (x := { x.sepFail with kind := 5 }) [117, 108, 108]
    refine ⟨h1.trans ?_, h2.trans hs3, h3.trans hs4⟩
    show (if wordAt x.sepFail.d x.sepFail.pos _ = true then x.sepFail.pos + 1 + 3 else x.sepFail.pos) = _
    rw [hs1, hs2]
  rw [if_neg h110]
  by_cases h116 : c = 116
  · subst h116
    rw [scan_t, if_pos rfl]
    obtain ⟨h1, h2, h3⟩ := word_at (x := { x.sepFail with kind := 4, bv := true }) [114, 117, 101]
    refine ⟨h1.trans ?_, h2.trans hs3, h3.trans hs4⟩
    show (if wordAt x.sepFail.d x.sepFail.pos _ = true then x.sepFail.pos + 1 + 3 else x.sepFail.pos) = _
    rw [hs1, hs2]
  rw [if_neg h116]
  by_cases h102 : c = 102
  · subst h102
    rw [scan_f, if_pos rfl]
    obtain ⟨h1, h2, h3⟩ := word_at (x := { x.sepFail with kind := 4, bv := false }) [97, 108, 115, 101]
    refine ⟨h1.trans ?_, h2.trans hs3, h3.trans hs4⟩
    show (if wordAt x.sepFail.d x.sepFail.pos _ = true then x.sepFail.pos + 1 + 4 else x.sepFail.pos) = _
    rw [hs1, hs2]
  rw [if_neg h102]
  simp only [not_or] at hn ho hcl
  rw [scan_else h58 h44 hbl h34 ho.1 ho.2 hcl.1 hcl.2 (by simpa using hn.1) hn.2 h110 h116 h102]
  exact ⟨fail_pos, fail_start, fail_delim⟩
end
end Go.Proofs.YtaecbclonmhbcaaGreatDoor

namespace Go.Proofs.YtaecbclonmhbcaaGreatDoor
def Fresh (x : Lx) : Prop :=
  x.start < x.d.length ∧ tokB (x.d.getD x.start 0) ∧ ∀ y x' : Lx, y.d = x.d → y.pos = x.start → y.delim = 0 → SkipRel y.fetch x' → x.pos ≤ x'.pos
def Ref (x : Lx) : Prop := x.multi = true → x.kind ≠ 0 → x.ok = true → Fresh x
section
variable {x y : Lx}
theorem fetch_at (hl : x.pos < x.d.length) (hb : tokB (x.d.getD x.pos 0)) :
    x.fetch.pos = tEnd x.d x.pos ∧ x.fetch.start = x.pos ∧ x.fetch.delim = (if x.d.getD x.pos 0 = 123 ∨ x.d.getD x.pos 0 = 91 ∨ x.d.getD x.pos 0 = 125 ∨ x.d.getD x.pos 0 = 93 then x.d.getD x.pos 0 else x.delim) := by
  have hd : x.d.drop x.pos = x.d.getD x.pos 0 :: x.d.drop (x.pos + 1) := by
    rw [List.drop_eq_getElem_cons hl]; simp [List.getD, hl]
  unfold Lx.fetch
  rw [hd]
  exact scan_at (x := { x with kind := 0, start := x.pos }) hb hd
theorem fetch_wf2 (hl : x.d.length ≤ 1073741824) (hp : x.pos ≤ x.d.length) (hb : ∀ i, 0 ≤ x.d.getD i 0 ∧ x.d.getD i 0 ≤ 255) : x.fetch.Wf :=
  scan_wf _ _ ⟨hl, hp, Nat.le_refl _, hb⟩ (by show x.pos + (x.d.drop x.pos).length ≤ x.d.length; simp; omega)
theorem skip_ge {x' : Lx} (hw : x.fetch.Wf) (hl : x.pos < x.d.length) (hb : tokB (x.d.getD x.pos 0)) (h : SkipRel x.fetch x') : tEnd x.d x.pos ≤ x'.pos ∧ x'.start = x.pos := by
  obtain ⟨h1, h2, -⟩ := fetch_at hl hb
  cases h with
  | token h => exact ⟨by show _ ≤ x.fetch.pos; omega, h2⟩
  | shut n h hs => exact ⟨by show _ ≤ x.fetch.pos + n; omega, h2⟩
  | bad h => exact ⟨by have := hw.pos; show _ ≤ x.fetch.d.length; omega, h2⟩
theorem skip_same {x' y' : Lx} (hwy : y.fetch.Wf) (hd : y.d = x.d) (hp : y.pos = x.pos) (hxd : x.delim = 0) (hyd : y.delim = 0) (hl : x.pos < x.d.length) (hb : tokB (x.d.getD x.pos 0))
    (h : SkipRel x.fetch x') (k : SkipRel y.fetch y') : x'.ok = true → x'.pos ≤ y'.pos := by
  intro hok
  obtain ⟨h1, h2, h3⟩ := fetch_at hl hb
  obtain ⟨k1, k2, k3⟩ := fetch_at (x := y) (by rw [hd, hp]; exact hl) (by rw [hd, hp]; exact hb)
  rw [hd, hp, hyd] at k3
  rw [hd, hp] at k1
  rw [hxd] at h3
  have hde : y.fetch.delim = x.fetch.delim := k3.trans h3.symm
  have hdd : y.fetch.d = x.fetch.d := fetch_same.d.trans (hd.trans fetch_same.d.symm)
  have hpp : y.fetch.pos = x.fetch.pos := k1.trans h1.symm
  cases h with
  | token h => have := (skip_ge hwy (by rw [hd, hp]; exact hl) (by rw [hd, hp]; exact hb) k).1; rw [hd, hp] at this; show x.fetch.pos ≤ _; omega
  | bad h => cases hok
  | shut n h hs =>
    cases k with
    | token k => rw [hde] at k; rcases h with h | h <;> exact absurd h (by first | exact k.1 | exact k.2)
    | bad k =>
      have := skipScan_le _ _ _ _ _ hs
      rw [List.length_drop] at this
      show x.fetch.pos + n ≤ y.fetch.d.length
      rw [hdd]; omega
    | shut m k ks =>
      rw [hde, hdd, hpp, hs] at ks
      obtain rfl := Option.some.inj ks
      show x.fetch.pos + n ≤ y.fetch.pos + n
      omega
end
section
variable {x : Lx}
theorem fetchString_notok (h : x.ok = false) : x.fetchString.ok = false := by
  unfold Lx.fetchString
  split
  · exact h
  · exact fail_ok
theorem word_notok (h : x.ok = false) (ws : List Int) : (x.word ws).ok = false := by
  unfold Lx.word
  split
  · exact h
  · exact fail_ok
theorem sepFail_notok (h : x.ok = false) : x.sepFail.ok = false := by
  unfold Lx.sepFail
  split
  · exact fail_ok
  · exact h
theorem scan_bad : ∀ (cs : List Int) (x : Lx), x.ok = false → (Lx.scan x cs).ok = false
  | [], x, _ => rfl
  | c :: cs, x, h => by
    have hs : x.sepFail.ok = false := sepFail_notok h
    have hf : x.fail.ok = false := fail_ok
    simp only [Lx.scan]
    repeat' split
    · exact scan_bad cs _ h
    · exact scan_bad cs _ hf
    · exact scan_bad cs _ h
    · exact fetchString_notok hs
    · exact hs
    · exact hf
    · exact h
    · exact fetchNumber_notok hs
    · exact word_notok (x := { x.sepFail with kind := 5 }) hs _
    · exact word_notok (x := { x.sepFail with kind := 4, bv := true }) hs _
    · exact word_notok (x := { x.sepFail with kind := 4, bv := false }) hs _
    · exact hf
theorem word_pos (ws : List Int) : x.pos ≤ (x.word ws).pos := by
  unfold Lx.word
  split
  · show x.pos ≤ x.pos + 1 + ws.length; omega
  · rw [fail_pos]; exact Nat.le_refl _
theorem fetchString_pos : x.pos ≤ x.fetchString.pos := by
  unfold Lx.fetchString
  split
  · rename_i n hn; show x.pos ≤ x.pos + 1 + n + 1; omega
  · rename_i n hn; rw [fail_pos]; show x.pos ≤ x.pos + 1 + n; omega
theorem fetchNumber_pos (h : x.pos ≤ x.d.length) : x.pos ≤ x.fetchNumber.pos := by
  unfold Lx.fetchNumber
  split
  · exact h
  · rename_i n c hn
    split
    · show x.pos ≤ x.pos + 1 + n; omega
    · rw [fail_pos]; show x.pos ≤ x.pos + 1 + n; omega
theorem scan_pos : ∀ (cs : List Int) (x : Lx), x.pos + cs.length ≤ x.d.length → x.pos ≤ (Lx.scan x cs).pos
  | [], x, _ => Nat.le_refl _
  | c :: cs, x, h => by
    have h' : x.pos + cs.length + 1 ≤ x.d.length := by simpa [Nat.add_assoc] using h
    have hs := sepFail_pos (x := x)
    have hd := sepFail_d (x := x)
    simp only [Lx.scan]
    repeat' split
    · exact Nat.le_trans (Nat.le_succ _) (scan_pos cs { x with pos := x.pos + 1, start := x.start + 1, sep := 0 } (by show x.pos + 1 + cs.length ≤ x.d.length; omega))
    · have := scan_pos cs x.fail (by rw [fail_pos, fail_d]; omega); rw [fail_pos] at this; exact this
    · exact Nat.le_trans (Nat.le_succ _) (scan_pos cs { x with pos := x.pos + 1, start := x.start + 1 } (by show x.pos + 1 + cs.length ≤ x.d.length; omega))
    · have := fetchString_pos (x := { x.sepFail with kind := 2 }); rw [show ({ x.sepFail with kind := 2 } : Lx).pos = x.pos from hs] at this; exact this
    · exact Nat.le_succ _
    · exact Nat.le_succ _
    · exact Nat.le_succ _
    · have := fetchNumber_pos (x := { x.sepFail with kind := 3 }) (by show x.sepFail.pos ≤ x.sepFail.d.length; rw [hs, hd]; omega); rw [show ({ x.sepFail with kind := 3 } : Lx).pos = x.pos from hs] at this; exact this
    · have := word_pos (x := { x.sepFail with kind := 5 }) [117, 108, 108]; rw [show ({ x.sepFail with kind := 5 } : Lx).pos = x.pos from hs] at this; exact this
    · have := word_pos (x := { x.sepFail with kind := 4, bv := true }) [114, 117, 101]; rw [show ({ x.sepFail with kind := 4, bv := true } : Lx).pos = x.pos from hs] at this; exact this
    · have := word_pos (x := { x.sepFail with kind := 4, bv := false }) [97, 108, 115, 101]; rw [show ({ x.sepFail with kind := 4, bv := false } : Lx).pos = x.pos from hs] at this; exact this
    · rw [fail_pos]; exact Nat.le_refl _
theorem fetch_pos (h : x.Wf) : x.pos ≤ x.fetch.pos :=
  scan_pos _ { x with kind := 0, start := x.pos } (by have := h.pos; show x.pos + (x.d.drop x.pos).length ≤ x.d.length; simp; omega)
def Eb (x : Lx) : Prop := ∀ o, x.err = .lex o → o ≤ x.d.length
theorem fail_eb (h : Eb x) (hp : x.pos ≤ x.d.length) : Eb x.fail := by
  unfold Lx.fail
  split
  · intro o e; obtain rfl := Er.lex.inj e; exact hp
  · exact h
theorem sepFail_eb (h : Eb x) (hp : x.pos ≤ x.d.length) : Eb x.sepFail := by
  unfold Lx.sepFail
  split
  · exact fail_eb h hp
  · exact h
theorem word_eb (h : Eb x) (hp : x.pos ≤ x.d.length) (ws : List Int) : Eb (x.word ws) := by
  unfold Lx.word
  split
  · exact h
  · exact fail_eb h hp
theorem fetchString_eb (h : Eb x) (hp : x.pos < x.d.length) : Eb x.fetchString := by
  have hb := strLen_bound (x.d.length + 1) (x.d.drop (x.pos + 1)) 0 (by simp; omega)
  unfold Lx.fetchString
  split
  · exact h
  · rename_i n hn
    rw [hn] at hb
    have := hb.2 rfl
    simp at this
    exact fail_eb (x := { x with pos := x.pos + 1 + n }) h (by show x.pos + 1 + n ≤ x.d.length; omega)
theorem fetchNumber_eb (h : Eb x) (hp : x.pos < x.d.length) : Eb x.fetchNumber := by
  have hb := numScan_le (x.d.drop (x.pos + 1)) false false false
  unfold Lx.fetchNumber
  split
  · exact h
  · rename_i n c hn
    rw [hn] at hb
    simp at hb
    split
    · exact h
    · exact fail_eb (x := { x with pos := x.pos + 1 + n }) h (by show x.pos + 1 + n ≤ x.d.length; omega)
theorem scan_eb : ∀ (cs : List Int) (x : Lx), Eb x → x.Wf → x.pos + cs.length ≤ x.d.length → Eb (Lx.scan x cs)
  | [], x, _, _, _ => fun o e => by cases e
  | c :: cs, x, h, hw, hp => by
    have hp' : x.pos + cs.length + 1 ≤ x.d.length := by simpa [Nat.add_assoc] using hp
    have hle : x.pos ≤ x.d.length := by omega
    have hs := sepFail_eb h hle
    have hf := fail_eb h hle
    have e1 := sepFail_d (x := x)
    have e2 := sepFail_pos (x := x)
    have e3 := sepFail_start (x := x)
    have hlt : x.sepFail.pos < x.sepFail.d.length := by rw [e1, e2]; omega
    simp only [Lx.scan]
    repeat' split
    · exact scan_eb cs { x with pos := x.pos + 1, start := x.start + 1, sep := 0 } h ⟨hw.len, by show x.pos + 1 ≤ x.d.length; omega, by have := hw.start; show x.start + 1 ≤ x.pos + 1; omega, hw.byte⟩ (by show x.pos + 1 + cs.length ≤ x.d.length; omega)
    · exact scan_eb cs x.fail hf hw.fail (by rw [fail_pos, fail_d]; omega)
    · exact scan_eb cs { x with pos := x.pos + 1, start := x.start + 1 } h ⟨hw.len, by show x.pos + 1 ≤ x.d.length; omega, by have := hw.start; show x.start + 1 ≤ x.pos + 1; omega, hw.byte⟩ (by show x.pos + 1 + cs.length ≤ x.d.length; omega)
    · exact fetchString_eb (x := { x.sepFail with kind := 2 }) hs hlt
    · exact hs
    · exact hf
    · exact h
    · exact fetchNumber_eb (x := { x.sepFail with kind := 3 }) hs hlt
    · exact word_eb (x := { x.sepFail with kind := 5 }) hs (Nat.le_of_lt hlt) _
    · exact word_eb (x := { x.sepFail with kind := 4, bv := true }) hs (Nat.le_of_lt hlt) _
    · exact word_eb (x := { x.sepFail with kind := 4, bv := false }) hs (Nat.le_of_lt hlt) _
    · exact hf
theorem fetch_eb (h : Eb x) (hw : x.Wf) : Eb x.fetch :=
  scan_eb _ { x with kind := 0, start := x.pos } h ⟨hw.len, hw.pos, Nat.le_refl _, hw.byte⟩ (by have := hw.pos; show x.pos + (x.d.drop x.pos).length ≤ x.d.length; simp; omega)
end
section
variable {x : Lx}
theorem scan_fresh : ∀ (cs : List Int) (x : Lx), (x.ok = true → x.start = x.pos ∧ x.d.drop x.pos = cs) → (Lx.scan x cs).ok = true →
    (Lx.scan x cs).start < x.d.length ∧ tokB (x.d.getD (Lx.scan x cs).start 0) ∧ (Lx.scan x cs).pos = tEnd x.d (Lx.scan x cs).start ∧ x.pos ≤ (Lx.scan x cs).start
  | [], x, _, ho => by cases ho
  | c :: cs, x, h, ho => by
    have hnext : x.ok = true → x.start + 1 = x.pos + 1 ∧ x.d.drop (x.pos + 1) = cs := fun e => by
      obtain ⟨h1, h2⟩ := h e
      exact ⟨by rw [h1], by rw [← List.drop_drop, h2]; rfl⟩
    by_cases hs : c = 58 ∨ c = 44
    · rw [scan_sep hs] at ho ⊢
      split at ho
      · rename_i hc
        rw [if_pos hc]
        have := scan_fresh cs { x with pos := x.pos + 1, start := x.start + 1, sep := 0 } hnext ho
        exact ⟨this.1, this.2.1, this.2.2.1, Nat.le_trans (Nat.le_succ _) this.2.2.2⟩
      · rename_i hc
        rw [if_neg hc]
        have := scan_fresh cs x.fail (fun e => by rw [fail_ok] at e; cases e) ho
        rw [fail_d, fail_pos] at this
        exact this
    by_cases hb : isBl c = true
    · have hb' : c = 32 ∨ c = 9 ∨ c = 13 ∨ c = 10 := by simp [isBl] at hb; omega
      rw [scan_blank hb'] at ho ⊢
      have := scan_fresh cs { x with pos := x.pos + 1, start := x.start + 1 } hnext ho
      exact ⟨this.1, this.2.1, this.2.2.1, Nat.le_trans (Nat.le_succ _) this.2.2.2⟩
    have ht : tokB c := by simp only [not_or] at hs; exact ⟨hs.1, hs.2, by simpa using hb⟩
    by_cases hok : x.ok = true
    · obtain ⟨h1, h2⟩ := h hok
      have hl : x.pos < x.d.length := by have := congrArg List.length h2; simp at this; omega
      have hg : x.d.getD x.pos 0 = c := by have := congrArg (fun l => l.getD 0 0) h2; simpa [List.getD] using this
      obtain ⟨a1, a2, -⟩ := scan_at ht h2
      rw [a1, a2, h1]
      exact ⟨hl, by rw [hg]; exact ht, rfl, Nat.le_refl _⟩
    · exact absurd (scan_bad (c :: cs) x (by simpa using hok)) (by rw [ho]; decide)
theorem fetch_fresh (hw : x.Wf) (ho : x.fetch.ok = true) : Fresh x.fetch := by
  obtain ⟨h1, h2, h3, -⟩ := scan_fresh _ { x with kind := 0, start := x.pos } (fun _ => ⟨rfl, rfl⟩) ho
  have hd : x.fetch.d = x.d := fetch_same.d
  refine ⟨by rw [hd]; exact h1, by rw [hd]; exact h2, fun y x' yd yp _ hk => ?_⟩
  rw [hd] at yd
  have hy : y.pos < y.d.length := by rw [yd, yp]; exact h1
  have hyb : tokB (y.d.getD y.pos 0) := by rw [yd, yp]; exact h2
  have e : x.fetch.pos = tEnd x.d x.fetch.start := h3
  rw [e]
  obtain ⟨a1, -, -⟩ := fetch_at hy hyb
  rw [yd, yp] at a1
  have hle : (tEnd x.d x.fetch.start) ≤ x.d.length := by rw [← e, ← hd]; exact (fetch_wf hw).pos
  cases hk with
  | token h => exact Nat.le_of_eq a1.symm
  | shut n h hs => show _ ≤ y.fetch.pos + n; omega
  | bad h => show _ ≤ y.fetch.d.length; rw [fetch_same.d, yd]; exact hle
theorem fetch_ref (hw : x.Wf) : Ref x.fetch := fun _ _ ho => fetch_fresh hw ho
theorem peek_pos (hw : x.Wf) : x.pos ≤ x.peek.pos := by unfold Lx.peek; split; exact fetch_pos hw; exact Nat.le_refl _
theorem consume_ref : Ref x.consume := fun _ hk => absurd rfl hk
end
end Go.Proofs.YtaecbclonmhbcaaGreatDoor

namespace Go.Proofs.YtaecbclonmhbcaaGreatDoor
structure Good (l : List Int) (mu : Bool) (n : Nat) (x : Lx) : Prop where
  d : x.d = l
  multi : x.multi = mu
  wf : x.Wf
  kind : x.kind ≤ 5
  tf : x.TF
  nf : x.NF
  len : x.d.length ≤ 100000
  eb : Eb x
  errs : ∀ o ∈ x.errs, o ≤ x.d.length
  cnt : x.errs.length ≤ n
section
variable {x x' : Lx} {l : List Int} {mu : Bool} {n m : Nat}
theorem tf_notok (h : x.ok = false) : x.TF := fun e => by rw [h] at e; cases e
theorem Good.le (h : Good l mu n x) (hn : n ≤ m) : Good l mu m x := ⟨h.d, h.multi, h.wf, h.kind, h.tf, h.nf, h.len, h.eb, h.errs, Nat.le_trans h.cnt hn⟩
theorem Good.as (h : Good l mu n x) (hs : x.Same x') (wf : x'.Wf) (kind : x'.kind ≤ 5) (tf : x'.TF) (nf : x'.NF) (eb : Eb x') : Good l mu n x' :=
  ⟨hs.d.trans h.d, hs.multi.trans h.multi, wf, kind, tf, nf, by rw [hs.d]; exact h.len, eb, by rw [hs.errs, hs.d]; exact h.errs, by rw [hs.errs]; exact h.cnt⟩
theorem fail_kind : x.fail.kind = x.kind := by unfold Lx.fail; split <;> rfl
theorem word_kind (ws : List Int) : (x.word ws).kind = x.kind := by unfold Lx.word; split; rfl; exact fail_kind
theorem fetchString_kind : x.fetchString.kind = x.kind := by unfold Lx.fetchString; split; rfl; exact fail_kind
theorem fetchNumber_kind : x.fetchNumber.kind = x.kind := by
  unfold Lx.fetchNumber
  split
  · rfl
  · split
    · rfl
    · exact fail_kind
theorem scan_kind : ∀ (cs : List Int) (x : Lx), x.kind ≤ 5 → (Lx.scan x cs).kind ≤ 5
  | [], x, h => h
  | c :: cs, x, h => by
    simp only [Lx.scan]
    repeat' split
    · exact scan_kind cs _ h
    · exact scan_kind cs _ (by rw [fail_kind]; exact h)
    · exact scan_kind cs _ h
    · rw [fetchString_kind]; show (2 : Nat) ≤ 5; decide
    · show (1 : Nat) ≤ 5; decide
    · show (1 : Nat) ≤ 5; decide
    · show (1 : Nat) ≤ 5; decide
    · rw [fetchNumber_kind]; show (3 : Nat) ≤ 5; decide
    · rw [word_kind]; show (5 : Nat) ≤ 5; decide
    · rw [word_kind]; show (4 : Nat) ≤ 5; decide
    · rw [word_kind]; show (4 : Nat) ≤ 5; decide
    · rw [fail_kind]; exact h
theorem Good.fetch (h : Good l mu n x) : Good l mu n x.fetch :=
  h.as fetch_same (fetch_wf h.wf) (scan_kind _ _ (by show (0 : Nat) ≤ 5; decide)) (fetch_tf fun i => h.wf.byte i) fetch_nf (fetch_eb h.eb h.wf)
theorem Good.peek (h : Good l mu n x) : Good l mu n x.peek := by unfold Lx.peek; split; exact h.fetch; exact h
theorem Good.consume (h : Good l mu n x) : Good l mu n x.consume :=
  h.as ⟨rfl, rfl, rfl⟩ (h.wf.as rfl rfl rfl) (by show (0 : Nat) ≤ 5; decide) (tf_kind (by show (0 : Nat) ≠ 2 ∧ (0 : Nat) ≠ 3; decide)) (nf_kind (by show (0 : Nat) ≠ 3; decide)) h.eb
theorem Good.err (h : Good l mu n x) {e : Er} (hn : e.isNil = false) (he : ∀ o, e = .lex o → o ≤ l.length) : Good l mu n { x with err := e } :=
  h.as ⟨rfl, rfl, rfl⟩ (h.wf.as rfl rfl rfl) h.kind (tf_notok hn) (nf_notok hn) (fun o e' => by show o ≤ x.d.length; rw [h.d]; exact he o e')
theorem Good.fail (h : Good l mu n x) : Good l mu n x.fail := by
  unfold Lx.fail
  split
  · exact h.err rfl (fun o e => by obtain rfl := Er.lex.inj e; rw [← h.d]; exact h.wf.pos)
  · exact h
theorem Good.setSep (h : Good l mu n x) (c : Int) : Good l mu n { x with sep := c, fst := false } :=
  h.as ⟨rfl, rfl, rfl⟩ (h.wf.as rfl rfl rfl) h.kind h.tf h.nf h.eb
theorem Good.setTok (h : Good l mu n x) {t : List Int} (ht : t.length ≤ l.length ∧ Bytes t) (hk : x.kind ≠ 3) (c : Bool) : Good l mu n { x with tok := t, cl := c } :=
  h.as ⟨rfl, rfl, rfl⟩ (h.wf.as rfl rfl rfl) h.kind (fun _ _ => by show t.length ≤ x.d.length ∧ Bytes t; rw [h.d]; exact ht) (nf_kind hk) h.eb
theorem Good.setDelim (h : Good l mu n x) (c : Int) : Good l mu n { x with delim := c, kind := 1 } :=
  h.as ⟨rfl, rfl, rfl⟩ (h.wf.as rfl rfl rfl) (by show (1 : Nat) ≤ 5; decide) (tf_kind (by show (1 : Nat) ≠ 2 ∧ (1 : Nat) ≠ 3; decide)) (nf_kind (by show (1 : Nat) ≠ 3; decide)) h.eb
theorem Good.setPos (h : Good l mu n x) {p s : Nat} (hp : p ≤ l.length) (hs : s ≤ p) : Good l mu n { x with pos := p, start := s } :=
  h.as ⟨rfl, rfl, rfl⟩ ⟨h.wf.len, by show p ≤ x.d.length; rw [h.d]; exact hp, hs, h.wf.byte⟩ h.kind h.tf h.nf h.eb
theorem Good.skip (h : Good l mu n x) (k : SkipRel x x') : Good l mu n x' := by
  cases k with
  | token _ => exact h.consume
  | shut m _ hs =>
    have := skipScan_le _ _ _ _ _ hs
    rw [List.length_drop] at this
    have h1 := h.wf.start
    have h2 := h.wf.pos
    exact h.consume.setPos (p := x.pos + m) (s := x.start) (by rw [← h.d]; omega) (by omega)
  | bad _ =>
    have h1 := h.wf.start
    have h2 := h.wf.pos
    exact (h.consume.setPos (p := x.d.length) (s := x.start) (by rw [← h.d]; omega) (by omega)).err (e := .lex x.d.length) rfl (fun o e => by obtain rfl := Er.lex.inj e; rw [h.d]; exact Nat.le_refl _)
theorem Good.skipPos (h : Good l mu n x) (k : SkipRel x x') : x.pos ≤ x'.pos := by
  cases k with
  | token _ => exact Nat.le_refl _
  | shut m _ hs => exact Nat.le_add_right _ _
  | bad _ => exact h.wf.pos
theorem skip_ref (k : SkipRel x x') : Ref x' := by
  cases k with
  | token _ => exact consume_ref
  | shut m _ hs => exact fun _ e => absurd rfl e
  | bad _ => exact fun _ e => absurd rfl e
def Lx.addNf (x : Lx) (o : Nat) : Lx :=
  if x.multi then (if x.errs.length ≠ 0 ∧ x.errs.getD (x.errs.length - 1) 0 = o then x else { x with errs := x.errs ++ [o] }) else { x with err := .lex o }
theorem Good.addNf (h : Good l mu n x) {o : Nat} (ho : o ≤ l.length) : Good l mu (n + 1) (x.addNf o) := by
  unfold Lx.addNf
  split
  · split
    · exact h.le (Nat.le_succ n)
    · refine ⟨h.d, h.multi, h.wf.as rfl rfl rfl, h.kind, h.tf, h.nf, h.len, h.eb, ?_, ?_⟩
      · intro o' ho'
        have ho' : o' ∈ x.errs ++ [o] := ho'
        rw [List.mem_append, List.mem_singleton] at ho'
        rcases ho' with ho' | rfl
        · exact h.errs _ ho'
        · show o' ≤ x.d.length; rw [h.d]; exact ho
      · show (x.errs ++ [o]).length ≤ n + 1
        rw [List.length_append]
        have := h.cnt
        simp; omega
  · exact (h.err (e := .lex o) rfl (fun o' e => by obtain rfl := Er.lex.inj e; exact ho)).le (Nat.le_succ n)
theorem addNf_pos (o : Nat) : (x.addNf o).pos = x.pos := by unfold Lx.addNf; (repeat' split) <;> rfl
theorem addNf_start (o : Nat) : (x.addNf o).start = x.start := by unfold Lx.addNf; (repeat' split) <;> rfl
theorem addNf_ref (h : Ref x) (o : Nat) : Ref (x.addNf o) := by
  unfold Lx.addNf
  split
  · split
    · exact h
    · exact h
  · exact fun _ _ ho => by cases ho
def Lx.turned (x : Lx) (s : ByteArray) : Lx := if (s.toList == [91]) = true then { x with delim := 93, kind := 1 } else if (s.toList == [123]) = true then { x with delim := 125, kind := 1 } else x
inductive BadRel (s : ByteArray) (x : Lx) : Lx → Prop
  | held (h : x.ok = false) : BadRel s x x
  | one (h : x.ok = true) (hm : x.multi = false) : BadRel s x { x with err := .lex x.pos }
  | many (y : Lx) (h : x.ok = true) (hm : x.multi = true) (hk : SkipRel ({ x with pos := x.start } : Lx).consume.fetch y) : BadRel s x ((y.turned s).addNf y.start)
theorem turned_start (s : ByteArray) : (x.turned s).start = x.start := by unfold Lx.turned; (repeat' split) <;> rfl
theorem turned_pos (s : ByteArray) : (x.turned s).pos = x.pos := by unfold Lx.turned; (repeat' split) <;> rfl
theorem Good.turned (h : Good l mu n x) (s : ByteArray) : Good l mu n (x.turned s) := by
  unfold Lx.turned
  split
  · exact h.setDelim 93
  · split
    · exact h.setDelim 125
    · exact h
theorem Good.back (h : Good l mu n x) : Good l mu n ({ x with pos := x.start } : Lx).consume :=
  (h.setPos (p := x.start) (s := x.start) (by have := h.wf.start; have := h.wf.pos; rw [← h.d]; omega) (Nat.le_refl _)).consume
theorem Good.bad (h : Good l mu n x) {s : ByteArray} (k : BadRel s x x') : Good l mu (n + 1) x' := by
  cases k with
  | held _ => exact h.le (Nat.le_succ n)
  | one _ _ => exact (h.err (e := .lex x.pos) rfl (fun o e => by obtain rfl := Er.lex.inj e; rw [← h.d]; exact h.wf.pos)).le (Nat.le_succ n)
  | many y _ _ hk =>
    have hy := h.back.fetch.skip hk
    exact (hy.turned s).addNf (by have := hy.wf.start; have := hy.wf.pos; rw [← hy.d]; omega)
theorem bad_mov (h : Good l mu n x) (hf : x.multi = true → x.ok = true → Fresh x) {s : ByteArray} (k : BadRel s x x') : x.pos ≤ x'.pos ∧ Ref x' := by
  cases k with
  | held ho => exact ⟨Nat.le_refl _, fun _ _ e => by rw [ho] at e; cases e⟩
  | one ho hm => exact ⟨Nat.le_refl _, fun _ _ e => by cases e⟩
  | many y ho hm hk =>
    obtain ⟨f1, f2, f3⟩ := hf hm ho
    have hb := h.back
    have hs := skip_ge (x := ({ x with pos := x.start } : Lx).consume) (fetch_wf hb.wf) f1 f2 hk
    have hp : x.pos ≤ y.pos := f3 ({ x with pos := x.start } : Lx).consume y rfl rfl rfl hk
    have hyd : y.d = x.d := by rw [(h.back.fetch.skip hk).d, h.d]
    refine ⟨by rw [addNf_pos, turned_pos]; exact hp, addNf_ref ?_ _⟩
    intro _ hk2 ho2
    have hto : (y.turned s).ok = y.ok := by unfold Lx.turned; (repeat' split) <;> rfl
    have htd : (y.turned s).d = y.d := by unfold Lx.turned; (repeat' split) <;> rfl
    have hst : (y.turned s).start = x.start := (turned_start s).trans hs.2
    refine ⟨by rw [hst, htd, hyd]; exact f1, by rw [hst, htd, hyd]; exact f2, fun z z' zd zp ze hz => ?_⟩
    rw [htd, hyd] at zd
    rw [hst] at zp
    rw [turned_pos]
    have hzw : z.fetch.Wf := fetch_wf2 (by rw [zd]; exact h.wf.len) (by rw [zd, zp]; exact Nat.le_of_lt f1) (by rw [zd]; exact h.wf.byte)
    exact skip_same (x := ({ x with pos := x.start } : Lx).consume) hzw zd zp rfl ze f1 f2 hk hz (by rw [← hto]; exact ho2)
end
end Go.Proofs.YtaecbclonmhbcaaGreatDoor

namespace Go.Proofs.YtaecbclonmhbcaaGreatDoor
open Go.RowKit
section
variable {w : World} {b : Nat} {ae : Sur} {ao : Addr} {x : Lx} {vd vt ve vm : Value}
set_option maxHeartbeats 400000 in
theorem error_any (h : LexAt w b ae ao x vd vt ve vm) :
    Calls Tryz.prog 28 #[.pointer (some ⟨b, 0, none⟩)] w fun e w' => e = .returned ve ∧ w = w' := by
  have c11 := h.c11
  clear h
  go_enter Tryz.func28, Tryz.ntmps28
  go_wp2
  go_ret
  exact ⟨rfl, rfl⟩
set_option maxHeartbeats 400000 in
theorem getPos_any (h : LexAt w b ae ao x vd vt ve vm) :
    Calls Tryz.prog 34 #[.pointer (some ⟨b, 0, none⟩)] w fun e w' => e = .returned (.int .i64 x.pos) ∧ w = w' := by
  have c2 := h.c2
  clear h
  go_enter Tryz.func34, Tryz.ntmps34
  go_wp2
  go_ret
  exact ⟨rfl, rfl⟩
def b01 (c : Bool) : Int := if c then 1 else 0
set_option maxHeartbeats 400000 in
theorem one_any (c : Bool) (w : World) :
    Calls Tryz.prog 62 #[.bool c] w fun e w' => e = .returned (.int .i64 (b01 c)) ∧ w = w' := by
  cases c <;>
  · go_enter Tryz.func62, Tryz.ntmps62
    go_wp2
    go_ret
    exact ⟨rfl, rfl⟩
set_option maxHeartbeats 400000 in
theorem kind_nil (w : World) :
    Calls Tryz.prog 35 #[.nilIface] w fun e w' => e = .returned (.int .i64 0) ∧ w = w' := by
  go_enter Tryz.func35, Tryz.ntmps35
  go_wp2
  go_ret
  exact ⟨rfl, rfl⟩
theorem und191 : ∃ i j, Tryz.prog.info? 191 = some i ∧ i.comparable = true ∧ Tryz.prog.info? 193 = some j ∧ j.size ≠ 0 := by
  have hc : (Tryz.prog.info? 191).map (·.comparable) = some true := by kernel_rfl
  have hs : (Tryz.prog.info? 193).map (fun j => decide (j.size ≠ 0)) = some true := by kernel_rfl
  obtain ⟨i, hi, hcmp⟩ := Option.map_eq_some_iff.1 hc
  obtain ⟨j, hj, hjs⟩ := Option.map_eq_some_iff.1 hs
  exact ⟨i, j, hi, hcmp, hj, of_decide_eq_true hjs⟩
set_option maxHeartbeats 400000 in
theorem kind_lex (w : World) (v : Value) (he : Env w ae ao) :
    Calls Tryz.prog 35 #[.iface 60 v] w fun e w' => e = .returned (.int .i64 2) ∧ w = w' := by
  have e1 := he.eof
  clear he
  have q1 := run_eql_iface_types (P := Tryz.prog) 60 191 v (.pointer (some ae.addr)) Tryz.underlying63 (by decide) w
  go_enter Tryz.func35, Tryz.ntmps35
  go_wp2
  go_ret
  exact ⟨rfl, rfl⟩
set_option maxHeartbeats 400000 in
theorem kind_eof (w : World) (he : Env w ae ao) :
    Calls Tryz.prog 35 #[.iface 191 (.pointer (some ae.addr))] w fun e w' => e = .returned (.int .i64 1) ∧ w = w' := by
  have e1 := he.eof
  clear he
  obtain ⟨i, j, hi, hcmp, hj, hz⟩ := und191
  have q1 := run_eql_iface_ptr_same (P := Tryz.prog) w ae.addr Tryz.underlying63 Tryz.underlying191 hi hcmp hj
  go_enter Tryz.func35, Tryz.ntmps35
  go_wp2
  go_ret
  exact ⟨rfl, rfl⟩
set_option maxHeartbeats 400000 in
theorem kind_other (w : World) (he : Env w ae ao) {ca cb : Array Value} {ta tb : TypeId} (ha : w.heap[ao.block]? = some (.cells ca ta (0, 0))) (hb : w.heap[ae.addr.block]? = some (.cells cb tb (0, 0))) :
    Calls Tryz.prog 35 #[.iface 191 (.pointer (some ao))] w fun e w' => e = .returned (.int .i64 2) ∧ w = w' := by
  have e1 := he.eof
  have hne := he.ne
  clear he
  obtain ⟨i, j, hi, hcmp, hj, hz⟩ := und191
  have q1 := run_eql_iface_ptr_other (P := Tryz.prog) w Tryz.underlying63 Tryz.underlying191 hi hcmp hj hz (Ne.symm hne) ha hb
  go_enter Tryz.func35, Tryz.ntmps35
  go_wp2
  go_ret
  exact ⟨rfl, rfl⟩
end
end Go.Proofs.YtaecbclonmhbcaaGreatDoor
