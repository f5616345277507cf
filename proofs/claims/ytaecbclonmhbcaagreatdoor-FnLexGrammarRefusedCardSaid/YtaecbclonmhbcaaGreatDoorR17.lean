/- No call of reading brings the error that is added from without; kinds stay small. Plain. The token's bytes are bytes of the text. Plain. A number's token is not empty, and of the signs that stand in numbers. Plain. SkipRecursive's scan, and where a token ends. Plain. The place of the lexer goes on and on, in whatever mode. Plain. What holds of a lexer between calls, in whatever mode; what errInvalidToken does to it. Plain. What a string token is, byte by byte, where the lexer takes it whole. Plain. What a look ahead of the lexer found, where it found no error: blanks, a sign that was due, a token. Plain. The grammar by places of a text, and what the lexer's steps say of it. Plain. -/
import Derived.Test.YtaecbclonmhbcaaGreatDoorR16
import Derived.Test.YtaecbclonmhbcaaGreatDoorR01
import Derived.Test.YtaecbclonmhbcaaGreatDoorR15
set_option linter.unusedVariables false
set_option linter.unusedSimpArgs false
namespace Go.Proofs.YtaecbclonmhbcaaGreatDoor
structure Lx.Fine (x : Lx) : Prop where
  kind : x.kind ≤ 5
  err : x.err ≠ .other
section
variable {x : Lx}
theorem Lx.Fine.as {y : Lx} (h : x.Fine) (hk : y.kind ≤ 5) (he : y.err = x.err) : y.Fine := ⟨hk, by rw [he]; exact h.err⟩
theorem fail_fine (h : x.Fine) : x.fail.Fine := by unfold Lx.fail; split; exact ⟨h.kind, by simp⟩; exact h
theorem sepFail_fine (h : x.Fine) : x.sepFail.Fine := by unfold Lx.sepFail; split; exact fail_fine h; exact h
theorem word_fine (h : x.Fine) (ws : List Int) : (x.word ws).Fine := by unfold Lx.word; split; exact h.as h.kind rfl; exact fail_fine h
theorem fetchNumber_fine (h : x.Fine) : x.fetchNumber.Fine := by
  unfold Lx.fetchNumber
  split
  · exact h.as h.kind rfl
  · split
    · exact h.as h.kind rfl
    · exact fail_fine (h.as h.kind rfl)
theorem fetchString_fine (h : x.Fine) : x.fetchString.Fine := by
  unfold Lx.fetchString
  split
  · exact h.as h.kind rfl
  · exact fail_fine (h.as h.kind rfl)
theorem scan_fine : ∀ (cs : List Int) (x : Lx), x.Fine → (Lx.scan x cs).Fine
  | [], x, h => ⟨h.kind, by simp [Lx.scan]⟩
  | c :: cs, x, h => by
    unfold Lx.scan
    split
    · split
      · exact scan_fine cs _ (h.as h.kind rfl)
      · exact scan_fine cs _ (fail_fine h)
    split
    · exact scan_fine cs _ (h.as h.kind rfl)
    split
    · exact fetchString_fine ((sepFail_fine h).as (by show (2 : Nat) ≤ 5; decide) rfl)
    split
    · exact (sepFail_fine h).as (by show (1 : Nat) ≤ 5; decide) rfl
    split
    · split
      · exact (fail_fine h).as (by show (1 : Nat) ≤ 5; decide) rfl
      · exact h.as (by show (1 : Nat) ≤ 5; decide) rfl
    split
    · exact fetchNumber_fine ((sepFail_fine h).as (by show (3 : Nat) ≤ 5; decide) rfl)
    split
    · exact word_fine (x := { x.sepFail with kind := 5 }) ((sepFail_fine h).as (by show (5 : Nat) ≤ 5; decide) rfl) _
    split
    · exact word_fine (x := { x.sepFail with kind := 4, bv := true }) ((sepFail_fine h).as (by show (4 : Nat) ≤ 5; decide) rfl) _
    split
    · exact word_fine (x := { x.sepFail with kind := 4, bv := false }) ((sepFail_fine h).as (by show (4 : Nat) ≤ 5; decide) rfl) _
    · exact fail_fine h
theorem fetch_fine (h : x.Fine) : x.fetch.Fine := scan_fine _ _ (h.as (by show (0 : Nat) ≤ 5; decide) rfl)
end
end Go.Proofs.YtaecbclonmhbcaaGreatDoor

namespace Go.Proofs.YtaecbclonmhbcaaGreatDoor
def Lx.TF (x : Lx) : Prop := x.ok = true → x.kind = 2 ∨ x.kind = 3 → x.tok.length ≤ x.d.length ∧ Bytes x.tok
section
variable {x : Lx}
theorem fail_ok : x.fail.ok = false := by
  unfold Lx.fail
  split
  · rfl
  · rename_i h; exact Bool.eq_false_iff.2 h
theorem fail_tf : x.fail.TF := fun h => by rw [fail_ok] at h; cases h
theorem tf_kind (h : x.kind ≠ 2 ∧ x.kind ≠ 3) : x.TF := fun _ hk => by rcases hk with e | e; exact absurd e h.1; exact absurd e h.2
theorem bytes_cut {l : List Int} (h : Bytes l) (a n : Nat) : ((l.drop a).take n).length ≤ l.length ∧ Bytes ((l.drop a).take n) := by
  refine ⟨by rw [List.length_take, List.length_drop]; omega, fun i => ?_⟩
  by_cases hi : i < n
  · have : ((l.drop a).take n).getD i 0 = (l.drop a).getD i 0 := by simp [List.getD, hi]
    rw [this]; exact h.drop a i
  · have : ((l.drop a).take n).getD i 0 = 0 := by simp [List.getD, List.getElem?_take, hi]
    rw [this]; omega
theorem word_tf (h : x.kind ≠ 2 ∧ x.kind ≠ 3) (ws : List Int) : (x.word ws).TF := by
  unfold Lx.word
  split
  · exact tf_kind h
  · exact fail_tf
theorem fetchString_tf (h : Bytes x.d) : x.fetchString.TF := by
  unfold Lx.fetchString
  split
  · exact fun _ _ => bytes_cut h _ _
  · exact fail_tf
theorem fetchNumber_tf (h : Bytes x.d) : x.fetchNumber.TF := by
  unfold Lx.fetchNumber
  split
  · exact fun _ _ => ⟨by rw [List.length_drop]; exact Nat.sub_le _ _, h.drop _⟩
  · split
    · exact fun _ _ => bytes_cut h _ _
    · exact fail_tf
theorem scan_tf : ∀ (cs : List Int) (x : Lx), Bytes x.d → x.kind = 0 → (Lx.scan x cs).TF
  | [], x, _, _ => fun h => by simp [Lx.scan, Lx.ok, Er.isNil] at h
  | c :: cs, x, h, hk => by
    have e1 := (sepFail_same (x := x)).d
    unfold Lx.scan
    split
    · split
      · exact scan_tf cs _ h hk
      · exact scan_tf cs _ (by rw [fail_d]; exact h) (by unfold Lx.fail; split <;> exact hk)
    split
    · exact scan_tf cs _ h hk
    split
    · exact fetchString_tf (by show Bytes x.sepFail.d; rw [e1]; exact h)
    split
    · exact tf_kind (by show (1 : Nat) ≠ 2 ∧ (1 : Nat) ≠ 3; decide)
    split
    · exact tf_kind (by show (1 : Nat) ≠ 2 ∧ (1 : Nat) ≠ 3; decide)
    split
    · exact fetchNumber_tf (by show Bytes x.sepFail.d; rw [e1]; exact h)
    split
    · exact word_tf (x := { x.sepFail with kind := 5 }) (by show (5 : Nat) ≠ 2 ∧ (5 : Nat) ≠ 3; decide) _
    split
    · exact word_tf (x := { x.sepFail with kind := 4, bv := true }) (by show (4 : Nat) ≠ 2 ∧ (4 : Nat) ≠ 3; decide) _
    split
    · exact word_tf (x := { x.sepFail with kind := 4, bv := false }) (by show (4 : Nat) ≠ 2 ∧ (4 : Nat) ≠ 3; decide) _
    · exact fail_tf
theorem fetch_tf (h : Bytes x.d) : x.fetch.TF := scan_tf _ _ h rfl
theorem peek_tf (h : x.TF) (hb : Bytes x.d) : x.peek.TF := by unfold Lx.peek; split; exact fetch_tf hb; exact h
end
end Go.Proofs.YtaecbclonmhbcaaGreatDoor

namespace Go.Proofs.YtaecbclonmhbcaaGreatDoor
def NumL (l : List Int) : Prop := ∀ c ∈ l, NumCh c
def Lx.NF (x : Lx) : Prop := x.ok = true → x.kind = 3 → x.tok ≠ [] ∧ NumL x.tok
theorem dig_num {c : Int} (h : isDig c = true) : NumCh c := by
  simp only [isDig, Bool.and_eq_true, decide_eq_true_eq] at h
  exact .inl h
theorem numScan_num : ∀ (l : List Int) (e a t : Bool), (∀ c ∈ l.take (numScan l e a t).1, NumCh c) ∧ ((numScan l e a t).2 = none → (numScan l e a t).1 = l.length)
  | [], _, _, _ => ⟨fun c h => by simp at h, fun _ => rfl⟩
  | c :: cs, e, a, t => by
    have step : ∀ (e' a' t' : Bool), NumCh c → (∀ x ∈ (c :: cs).take ((numScan cs e' a' t').1 + 1), NumCh x) ∧ ((numScan cs e' a' t').2 = none → (numScan cs e' a' t').1 + 1 = (c :: cs).length) := by
      intro e' a' t' hc
      obtain ⟨h1, h2⟩ := numScan_num cs e' a' t'
      refine ⟨fun x hx => ?_, fun h => by rw [h2 h]; rfl⟩
      rw [List.take_succ_cons, List.mem_cons] at hx
      rcases hx with rfl | hx
      · exact hc
      · exact h1 x hx
    simp only [numScan]
    split
    · rename_i h; exact step _ _ _ (dig_num h)
    split
    · rename_i h
      simp only [Bool.and_eq_true, beq_iff_eq] at h
      exact step _ _ _ (.inr (.inl h.1))
    split
    · rename_i h
      simp only [Bool.and_eq_true, Bool.or_eq_true, beq_iff_eq] at h
      exact step _ _ _ (by unfold NumCh; omega)
    split
    · rename_i h
      simp only [Bool.and_eq_true, Bool.or_eq_true, beq_iff_eq] at h
      exact step _ _ _ (by unfold NumCh; omega)
    · exact ⟨fun x hx => by simp at hx, fun h => by simp at h⟩
section
variable {x : Lx}
theorem fail_nf : x.fail.NF := fun h => by rw [fail_ok] at h; cases h
theorem nf_kind (h : x.kind ≠ 3) : x.NF := fun _ e => absurd e h
theorem nf_notok (h : x.ok = false) : x.NF := fun e => by rw [h] at e; cases e
theorem word_nf (h : x.kind ≠ 3) (ws : List Int) : (x.word ws).NF := by
  unfold Lx.word
  split
  · exact nf_kind h
  · exact fail_nf
theorem fetchString_nf (h : x.kind ≠ 3) : x.fetchString.NF := by
  unfold Lx.fetchString
  split
  · exact nf_kind h
  · exact fail_nf
theorem fetchNumber_notok (h : x.ok = false) : x.fetchNumber.ok = false := by
  unfold Lx.fetchNumber
  split
  · exact h
  · split
    · exact h
    · exact fail_ok
theorem fetchNumber_nf {c : Int} {cs : List Int} (hd : x.d.drop x.pos = c :: cs) (hs : x.start = x.pos) (hc : NumCh c) : x.fetchNumber.NF := by
  have hd1 : x.d.drop (x.pos + 1) = cs := by rw [← List.drop_drop, hd]; rfl
  obtain ⟨h1, h2⟩ := numScan_num cs false false false
  unfold Lx.fetchNumber
  rw [hd1]
  split
  · rename_i n hn
    rw [hn] at h1 h2
    simp only [forall_const] at h2
    intro _ _
    show x.d.drop x.start ≠ [] ∧ NumL (x.d.drop x.start)
    rw [hs, hd]
    refine ⟨by simp, fun y hy => ?_⟩
    rw [List.mem_cons] at hy
    rcases hy with rfl | hy
    · exact hc
    · exact h1 y (by rw [h2, List.take_length]; exact hy)
  · rename_i n c' hn
    rw [hn] at h1
    split
    · intro _ _
      show (x.d.drop x.start).take (x.pos + 1 + n - x.start) ≠ [] ∧ NumL ((x.d.drop x.start).take (x.pos + 1 + n - x.start))
      rw [hs, hd, show x.pos + 1 + n - x.pos = n + 1 by omega, List.take_succ_cons]
      refine ⟨by simp, fun y hy => ?_⟩
      rw [List.mem_cons] at hy
      rcases hy with rfl | hy
      · exact hc
      · exact h1 y hy
    · exact fail_nf
theorem sepFail_ok_eq (h : x.sepFail.ok = true) : x.sepFail = x ∧ x.ok = true := by
  unfold Lx.sepFail at h ⊢
  split at h
  · rw [fail_ok] at h; cases h
  · rename_i h'; rw [if_neg h']; exact ⟨rfl, h⟩
theorem fail_kind0 (h : x.kind = 0) : x.fail.kind = 0 := by unfold Lx.fail; split <;> exact h
theorem scan_nf : ∀ (cs : List Int) (x : Lx), (x.ok = true → x.start = x.pos ∧ x.d.drop x.pos = cs) → x.kind = 0 → (Lx.scan x cs).NF
  | [], x, _, _ => nf_notok (by simp [Lx.scan, Lx.ok, Er.isNil])
  | c :: cs, x, h, hk => by
    have hnext : x.ok = true → x.start + 1 = x.pos + 1 ∧ x.d.drop (x.pos + 1) = cs := fun e => by
      obtain ⟨h1, h2⟩ := h e
      exact ⟨by rw [h1], by rw [← List.drop_drop, h2]; rfl⟩
    unfold Lx.scan
    split
    · split
      · exact scan_nf cs _ hnext hk
      · exact scan_nf cs _ (fun e => by rw [fail_ok] at e; cases e) (fail_kind0 hk)
    split
    · exact scan_nf cs _ hnext hk
    split
    · exact fetchString_nf (by show (2 : Nat) ≠ 3; decide)
    split
    · exact nf_kind (by show (1 : Nat) ≠ 3; decide)
    split
    · exact nf_kind (by show (1 : Nat) ≠ 3; decide)
    split
    · rename_i hc
      have hn : NumCh c := by
        simp only [Bool.or_eq_true, beq_iff_eq] at hc
        rcases hc with hc | hc
        · exact dig_num hc
        · unfold NumCh; omega
      cases hs : x.sepFail.ok with
      | false => exact nf_notok (fetchNumber_notok (x := { x.sepFail with kind := 3 }) hs)
      | true =>
        obtain ⟨e, ho⟩ := sepFail_ok_eq hs
        rw [e]
        obtain ⟨h1, h2⟩ := h ho
        exact fetchNumber_nf (x := { x with kind := 3 }) h2 h1 hn
    split
    · exact word_nf (x := { x.sepFail with kind := 5 }) (by show (5 : Nat) ≠ 3; decide) _
    split
    · exact word_nf (x := { x.sepFail with kind := 4, bv := true }) (by show (4 : Nat) ≠ 3; decide) _
    split
    · exact word_nf (x := { x.sepFail with kind := 4, bv := false }) (by show (4 : Nat) ≠ 3; decide) _
    · exact fail_nf
theorem fetch_nf : x.fetch.NF := scan_nf _ _ (fun _ => ⟨rfl, rfl⟩) rfl
theorem peek_nf (h : x.NF) : x.peek.NF := by unfold Lx.peek; split; exact fetch_nf; exact h
end
end Go.Proofs.YtaecbclonmhbcaaGreatDoor

namespace Go.Proofs.YtaecbclonmhbcaaGreatDoor
def skipScan (o e : Int) : List Int → Nat → Bool → Bool → Option Nat
  | [], _, _, _ => none
  | c :: cs, lv, q, s =>
    if c == o && !q then (skipScan o e cs (lv + 1) q false).map (· + 1)
    else if c == e && !q then (if lv == 1 then some 1 else (skipScan o e cs (lv - 1) q false).map (· + 1))
    else if c == 92 && q then (skipScan o e cs lv q (!s)).map (· + 1)
    else if c == 34 && q then (skipScan o e cs lv s false).map (· + 1)
    else if c == 34 then (skipScan o e cs lv true false).map (· + 1)
    else (skipScan o e cs lv q false).map (· + 1)
theorem skipScan_le {o e : Int} : ∀ (l : List Int) (lv : Nat) (q s : Bool) (n : Nat), skipScan o e l lv q s = some n → 1 ≤ n ∧ n ≤ l.length
  | [], _, _, _, n, h => by simp [skipScan] at h
  | c :: cs, lv, q, s, n, h => by
    have key : ∀ (lv : Nat) (q s : Bool), (skipScan o e cs lv q s).map (· + 1) = some n → 1 ≤ n ∧ n ≤ (c :: cs).length := by
      intro lv q s h
      cases hr : skipScan o e cs lv q s with
      | none => rw [hr] at h; simp at h
      | some m =>
        rw [hr] at h
        have := skipScan_le cs lv q s m hr
        simp at h ⊢
        omega
    simp only [skipScan] at h
    repeat' split at h
    · exact key _ _ _ h
    · simp at h ⊢; omega
    · exact key _ _ _ h
    · exact key _ _ _ h
    · exact key _ _ _ h
    · exact key _ _ _ h
    · exact key _ _ _ h
def closeOf (c : Int) : Int := if c == 123 then 125 else 93
inductive SkipRel (y : Lx) : Lx → Prop
  | token (h : y.delim ≠ 123 ∧ y.delim ≠ 91) : SkipRel y y.consume
  | shut (n : Nat) (h : y.delim = 123 ∨ y.delim = 91) (hs : skipScan y.delim (closeOf y.delim) (y.d.drop y.pos) 1 false false = some n) : SkipRel y { y.consume with pos := y.pos + n }
  | bad (h : y.delim = 123 ∨ y.delim = 91) : SkipRel y { y.consume with pos := y.d.length, err := .lex y.d.length }
section
variable {x : Lx}
theorem sepFail_d : x.sepFail.d = x.d := (sepFail_same (x := x)).d
end
end Go.Proofs.YtaecbclonmhbcaaGreatDoor

namespace Go.Proofs.YtaecbclonmhbcaaGreatDoor
section
variable {x : Lx}
def Eb (x : Lx) : Prop := ∀ o, x.err = .lex o → o ≤ x.d.length
theorem fail_eb (h : Eb x) (hp : x.pos ≤ x.d.length) : Eb x.fail := by
  unfold Lx.fail
  split
  · intro o e; obtain rfl := Er.lex.inj e; exact hp
  · exact h
theorem sepFail_eb (h : Eb x) (hp : x.pos ≤ x.d.length) : Eb x.sepFail := by
  unfold Lx.sepFail
  split
  · exact fail_eb h hp
  · exact h
theorem word_eb (h : Eb x) (hp : x.pos ≤ x.d.length) (ws : List Int) : Eb (x.word ws) := by
  unfold Lx.word
  split
  · exact h
  · exact fail_eb h hp
theorem fetchString_eb (h : Eb x) (hp : x.pos < x.d.length) : Eb x.fetchString := by
  have hb := strLen_bound (x.d.length + 1) (x.d.drop (x.pos + 1)) 0 (by simp; omega)
  unfold Lx.fetchString
  split
  · exact h
  · rename_i n hn
    rw [hn] at hb
    have := hb.2 rfl
    simp at this
    exact fail_eb (x := { x with pos := x.pos + 1 + n }) h (by show x.pos + 1 + n ≤ x.d.length; omega)
theorem fetchNumber_eb (h : Eb x) (hp : x.pos < x.d.length) : Eb x.fetchNumber := by
  have hb := numScan_le (x.d.drop (x.pos + 1)) false false false
  unfold Lx.fetchNumber
  split
  · exact h
  · rename_i n c hn
    rw [hn] at hb
    simp at hb
    split
    · exact h
    · exact fail_eb (x := { x with pos := x.pos + 1 + n }) h (by show x.pos + 1 + n ≤ x.d.length; omega)
theorem scan_eb : ∀ (cs : List Int) (x : Lx), Eb x → x.Wf → x.pos + cs.length ≤ x.d.length → Eb (Lx.scan x cs)
  | [], x, _, _, _ => fun o e => by cases e
  | c :: cs, x, h, hw, hp => by
    have hp' : x.pos + cs.length + 1 ≤ x.d.length := by simpa [Nat.add_assoc] using hp
    have hle : x.pos ≤ x.d.length := by omega
    have hs := sepFail_eb h hle
    have hf := fail_eb h hle
    have e1 := sepFail_d (x := x)
    have e2 := sepFail_pos (x := x)
    have e3 := sepFail_start (x := x)
    have hlt : x.sepFail.pos < x.sepFail.d.length := by rw [e1, e2]; omega
    simp only [Lx.scan]
    repeat' split
    · exact scan_eb cs { x with pos := x.pos + 1, start := x.start + 1, sep := 0 } h ⟨hw.len, by show x.pos + 1 ≤ x.d.length; omega, by have := hw.start; show x.start + 1 ≤ x.pos + 1; omega, hw.byte⟩ (by show x.pos + 1 + cs.length ≤ x.d.length; omega)
    · exact scan_eb cs x.fail hf hw.fail (by rw [fail_pos, fail_d]; omega)
    · exact scan_eb cs { x with pos := x.pos + 1, start := x.start + 1 } h ⟨hw.len, by show x.pos + 1 ≤ x.d.length; omega, by have := hw.start; show x.start + 1 ≤ x.pos + 1; omega, hw.byte⟩ (by show x.pos + 1 + cs.length ≤ x.d.length; omega)
    · exact fetchString_eb (x := { x.sepFail with kind := 2 }) hs hlt
    · exact hs
    · exact hf
    · exact h
    · exact fetchNumber_eb (x := { x.sepFail with kind := 3 }) hs hlt
    · exact word_eb (x := { x.sepFail with kind := 5 }) hs (Nat.le_of_lt hlt) _
    · exact word_eb (x := { x.sepFail with kind := 4, bv := true }) hs (Nat.le_of_lt hlt) _
    · exact word_eb (x := { x.sepFail with kind := 4, bv := false }) hs (Nat.le_of_lt hlt) _
    · exact hf
theorem fetch_eb (h : Eb x) (hw : x.Wf) : Eb x.fetch :=
  scan_eb _ { x with kind := 0, start := x.pos } h ⟨hw.len, hw.pos, Nat.le_refl _, hw.byte⟩ (by have := hw.pos; show x.pos + (x.d.drop x.pos).length ≤ x.d.length; simp; omega)
end
end Go.Proofs.YtaecbclonmhbcaaGreatDoor

namespace Go.Proofs.YtaecbclonmhbcaaGreatDoor
structure Good (l : List Int) (mu : Bool) (n : Nat) (x : Lx) : Prop where
  d : x.d = l
  multi : x.multi = mu
  wf : x.Wf
  kind : x.kind ≤ 5
  tf : x.TF
  nf : x.NF
  len : x.d.length ≤ 100000
  eb : Eb x
  errs : ∀ o ∈ x.errs, o ≤ x.d.length
  cnt : x.errs.length ≤ n
section
variable {x x' : Lx} {l : List Int} {mu : Bool} {n m : Nat}
theorem tf_notok (h : x.ok = false) : x.TF := fun e => by rw [h] at e; cases e
theorem Good.le (h : Good l mu n x) (hn : n ≤ m) : Good l mu m x := ⟨h.d, h.multi, h.wf, h.kind, h.tf, h.nf, h.len, h.eb, h.errs, Nat.le_trans h.cnt hn⟩
theorem Good.as (h : Good l mu n x) (hs : x.Same x') (wf : x'.Wf) (kind : x'.kind ≤ 5) (tf : x'.TF) (nf : x'.NF) (eb : Eb x') : Good l mu n x' :=
  ⟨hs.d.trans h.d, hs.multi.trans h.multi, wf, kind, tf, nf, by rw [hs.d]; exact h.len, eb, by rw [hs.errs, hs.d]; exact h.errs, by rw [hs.errs]; exact h.cnt⟩
theorem fail_kind : x.fail.kind = x.kind := by unfold Lx.fail; split <;> rfl
theorem word_kind (ws : List Int) : (x.word ws).kind = x.kind := by unfold Lx.word; split; rfl; exact fail_kind
theorem fetchString_kind : x.fetchString.kind = x.kind := by unfold Lx.fetchString; split; rfl; exact fail_kind
theorem fetchNumber_kind : x.fetchNumber.kind = x.kind := by
  unfold Lx.fetchNumber
  split
  · rfl
  · split
    · rfl
    · exact fail_kind
theorem scan_kind : ∀ (cs : List Int) (x : Lx), x.kind ≤ 5 → (Lx.scan x cs).kind ≤ 5
  | [], x, h => h
  | c :: cs, x, h => by
    simp only [Lx.scan]
    repeat' split
    · exact scan_kind cs _ h
    · exact scan_kind cs _ (by rw [fail_kind]; exact h)
    · exact scan_kind cs _ h
    · rw [fetchString_kind]; show (2 : Nat) ≤ 5; decide
    · show (1 : Nat) ≤ 5; decide
    · show (1 : Nat) ≤ 5; decide
    · show (1 : Nat) ≤ 5; decide
    · rw [fetchNumber_kind]; show (3 : Nat) ≤ 5; decide
    · rw [word_kind]; show (5 : Nat) ≤ 5; decide
    · rw [word_kind]; show (4 : Nat) ≤ 5; decide
    · rw [word_kind]; show (4 : Nat) ≤ 5; decide
    · rw [fail_kind]; exact h
theorem Good.fetch (h : Good l mu n x) : Good l mu n x.fetch :=
  h.as fetch_same (fetch_wf h.wf) (scan_kind _ _ (by show (0 : Nat) ≤ 5; decide)) (fetch_tf fun i => h.wf.byte i) fetch_nf (fetch_eb h.eb h.wf)
theorem Good.peek (h : Good l mu n x) : Good l mu n x.peek := by unfold Lx.peek; split; exact h.fetch; exact h
theorem Good.consume (h : Good l mu n x) : Good l mu n x.consume :=
  h.as ⟨rfl, rfl, rfl⟩ (h.wf.as rfl rfl rfl) (by show (0 : Nat) ≤ 5; decide) (tf_kind (by show (0 : Nat) ≠ 2 ∧ (0 : Nat) ≠ 3; decide)) (nf_kind (by show (0 : Nat) ≠ 3; decide)) h.eb
theorem Good.err (h : Good l mu n x) {e : Er} (hn : e.isNil = false) (he : ∀ o, e = .lex o → o ≤ l.length) : Good l mu n { x with err := e } :=
  h.as ⟨rfl, rfl, rfl⟩ (h.wf.as rfl rfl rfl) h.kind (tf_notok hn) (nf_notok hn) (fun o e' => by show o ≤ x.d.length; rw [h.d]; exact he o e')
theorem Good.fail (h : Good l mu n x) : Good l mu n x.fail := by
  unfold Lx.fail
  split
  · exact h.err rfl (fun o e => by obtain rfl := Er.lex.inj e; rw [← h.d]; exact h.wf.pos)
  · exact h
theorem Good.setSep (h : Good l mu n x) (c : Int) : Good l mu n { x with sep := c, fst := false } :=
  h.as ⟨rfl, rfl, rfl⟩ (h.wf.as rfl rfl rfl) h.kind h.tf h.nf h.eb
theorem Good.setTok (h : Good l mu n x) {t : List Int} (ht : t.length ≤ l.length ∧ Bytes t) (hk : x.kind ≠ 3) (c : Bool) : Good l mu n { x with tok := t, cl := c } :=
  h.as ⟨rfl, rfl, rfl⟩ (h.wf.as rfl rfl rfl) h.kind (fun _ _ => by show t.length ≤ x.d.length ∧ Bytes t; rw [h.d]; exact ht) (nf_kind hk) h.eb
theorem Good.setDelim (h : Good l mu n x) (c : Int) : Good l mu n { x with delim := c, kind := 1 } :=
  h.as ⟨rfl, rfl, rfl⟩ (h.wf.as rfl rfl rfl) (by show (1 : Nat) ≤ 5; decide) (tf_kind (by show (1 : Nat) ≠ 2 ∧ (1 : Nat) ≠ 3; decide)) (nf_kind (by show (1 : Nat) ≠ 3; decide)) h.eb
theorem Good.setPos (h : Good l mu n x) {p s : Nat} (hp : p ≤ l.length) (hs : s ≤ p) : Good l mu n { x with pos := p, start := s } :=
  h.as ⟨rfl, rfl, rfl⟩ ⟨h.wf.len, by show p ≤ x.d.length; rw [h.d]; exact hp, hs, h.wf.byte⟩ h.kind h.tf h.nf h.eb
theorem Good.skip (h : Good l mu n x) (k : SkipRel x x') : Good l mu n x' := by
  cases k with
  | token _ => exact h.consume
  | shut m _ hs =>
    have := skipScan_le _ _ _ _ _ hs
    rw [List.length_drop] at this
    have h1 := h.wf.start
    have h2 := h.wf.pos
    exact h.consume.setPos (p := x.pos + m) (s := x.start) (by rw [← h.d]; omega) (by omega)
  | bad _ =>
    have h1 := h.wf.start
    have h2 := h.wf.pos
    exact (h.consume.setPos (p := x.d.length) (s := x.start) (by rw [← h.d]; omega) (by omega)).err (e := .lex x.d.length) rfl (fun o e => by obtain rfl := Er.lex.inj e; rw [h.d]; exact Nat.le_refl _)
def Lx.addNf (x : Lx) (o : Nat) : Lx :=
  if x.multi then (if x.errs.length ≠ 0 ∧ x.errs.getD (x.errs.length - 1) 0 = o then x else { x with errs := x.errs ++ [o] }) else { x with err := .lex o }
theorem Good.addNf (h : Good l mu n x) {o : Nat} (ho : o ≤ l.length) : Good l mu (n + 1) (x.addNf o) := by
  unfold Lx.addNf
  split
  · split
    · exact h.le (Nat.le_succ n)
    · refine ⟨h.d, h.multi, h.wf.as rfl rfl rfl, h.kind, h.tf, h.nf, h.len, h.eb, ?_, ?_⟩
      · intro o' ho'
        have ho' : o' ∈ x.errs ++ [o] := ho'
        rw [List.mem_append, List.mem_singleton] at ho'
        rcases ho' with ho' | rfl
        · exact h.errs _ ho'
        · show o' ≤ x.d.length; rw [h.d]; exact ho
      · show (x.errs ++ [o]).length ≤ n + 1
        rw [List.length_append]
        have := h.cnt
        simp; omega
  · exact (h.err (e := .lex o) rfl (fun o' e => by obtain rfl := Er.lex.inj e; exact ho)).le (Nat.le_succ n)
def Lx.turned (x : Lx) (s : ByteArray) : Lx := if (s.toList == [91]) = true then { x with delim := 93, kind := 1 } else if (s.toList == [123]) = true then { x with delim := 125, kind := 1 } else x
inductive BadRel (s : ByteArray) (x : Lx) : Lx → Prop
  | held (h : x.ok = false) : BadRel s x x
  | one (h : x.ok = true) (hm : x.multi = false) : BadRel s x { x with err := .lex x.pos }
  | many (y : Lx) (h : x.ok = true) (hm : x.multi = true) (hk : SkipRel ({ x with pos := x.start } : Lx).consume.fetch y) : BadRel s x ((y.turned s).addNf y.start)
theorem Good.turned (h : Good l mu n x) (s : ByteArray) : Good l mu n (x.turned s) := by
  unfold Lx.turned
  split
  · exact h.setDelim 93
  · split
    · exact h.setDelim 125
    · exact h
theorem Good.back (h : Good l mu n x) : Good l mu n ({ x with pos := x.start } : Lx).consume :=
  (h.setPos (p := x.start) (s := x.start) (by have := h.wf.start; have := h.wf.pos; rw [← h.d]; omega) (Nat.le_refl _)).consume
theorem Good.bad (h : Good l mu n x) {s : ByteArray} (k : BadRel s x x') : Good l mu (n + 1) x' := by
  cases k with
  | held _ => exact h.le (Nat.le_succ n)
  | one _ _ => exact (h.err (e := .lex x.pos) rfl (fun o e => by obtain rfl := Er.lex.inj e; rw [← h.d]; exact h.wf.pos)).le (Nat.le_succ n)
  | many y _ _ hk =>
    have hy := h.back.fetch.skip hk
    exact (hy.turned s).addNf (by have := hy.wf.start; have := hy.wf.pos; rw [← hy.d]; omega)
end
end Go.Proofs.YtaecbclonmhbcaaGreatDoor

namespace Go.Proofs.YtaecbclonmhbcaaGreatDoor
inductive SB (d : List Int) : Nat → Nat → Prop
  | close {p : Nat} : p < d.length → d.getD p 0 = 34 → SB d p (p + 1)
  | plain {p q : Nat} : p < d.length → d.getD p 0 ≠ 34 → d.getD p 0 ≠ 92 → SB d (p + 1) q → SB d p q
  | short {p q : Nat} : p + 1 < d.length → d.getD p 0 = 92 →
      (d.getD (p + 1) 0 = 34 ∨ d.getD (p + 1) 0 = 47 ∨ d.getD (p + 1) 0 = 92 ∨ d.getD (p + 1) 0 = 98 ∨ d.getD (p + 1) 0 = 102 ∨ d.getD (p + 1) 0 = 110 ∨ d.getD (p + 1) 0 = 114 ∨ d.getD (p + 1) 0 = 116) → SB d (p + 2) q → SB d p q
  | hex {p q : Nat} : p + 5 < d.length → d.getD p 0 = 92 → d.getD (p + 1) 0 = 117 → (∀ i, i < 4 → 0 ≤ hexV (d.getD (p + 2 + i) 0)) → SB d (p + 6) q → SB d p q
theorem SB.lt {d : List Int} {p q : Nat} (h : SB d p q) : p < q ∧ q ≤ d.length := by
  induction h with
  | close h _ => omega
  | plain _ _ _ _ ih => omega
  | short _ _ _ _ ih => omega
  | hex _ _ _ _ _ ih => omega
theorem idxOf_head (c : Int) (l : List Int) : idxOf c (c :: l) = some 0 := by simp [idxOf]
theorem idxOf_tail {c x : Int} (h : x ≠ c) (l : List Int) : idxOf c (x :: l) = (idxOf c l).map (· + 1) := by simp [idxOf, h]
theorem slashes_all : ∀ {l : List Int}, l.all (· == 92) = true → slashes l = l.length
  | [], _ => rfl
  | x :: xs, h => by
    simp only [List.all_cons, Bool.and_eq_true] at h
    simp [slashes, h.1, h.2]
theorem slashes_skip {c : Int} (h : c ≠ 92) (l : List Int) : slashes (c :: l) = slashes l := by simp [slashes, h]
theorem slashes_pair (c : Int) (l : List Int) : slashes (92 :: c :: l) % 2 = slashes l % 2 := by
  by_cases hc : c = 92
  · subst hc
    by_cases ha : l.all (· == 92) = true
    · rw [slashes_all ha, slashes_all (by simp only [List.all_cons, ha]; rfl)]
      simp only [List.length_cons]; omega
    · have ha' : l.all (· == 92) = false := by simpa using ha
      have e1 : slashes (92 :: 92 :: l) = slashes l := by
        simp only [slashes, List.all_cons, ha', Bool.and_false, Bool.false_and, Bool.false_eq_true, if_false]
      rw [e1]
  · have e1 : slashes (92 :: c :: l) = slashes (c :: l) := by
      have : (c == 92) = false := beq_eq_false_iff_ne.2 hc
      simp [slashes, this]
    rw [e1, slashes_skip hc]
theorem strLen_le : ∀ (f : Nat) (l : List Int) (len m : Nat), strLen f l len = (true, m) → len ≤ m ∧ m - len < l.length ∧ l.getD (m - len) 0 = 34
  | 0, _, _, _, h => by simp [strLen] at h
  | f + 1, l, len, m, h => by
    simp only [strLen] at h
    cases hi : idxOf 34 l with
    | none => rw [hi] at h; simp at h
    | some i =>
      rw [hi] at h
      simp only at h
      have hlt := idxOf_lt hi
      split at h
      · simp only [Prod.mk.injEq, true_and] at h
        subst h
        exact ⟨by omega, by rw [Nat.add_sub_cancel_left]; exact hlt.1, by rw [Nat.add_sub_cancel_left]; exact hlt.2⟩
      · obtain ⟨h1, h2, h3⟩ := strLen_le f _ _ _ h
        rw [List.length_drop] at h2
        have e : m - len = (i + 1) + (m - (len + i + 1)) := by omega
        refine ⟨by omega, by omega, ?_⟩
        rw [e]
        simpa [List.getD] using h3
theorem strLen_quote {f : Nat} {l : List Int} {len m : Nat} (h : strLen (f + 1) (34 :: l) len = (true, m)) : m = len := by
  simp [strLen, idxOf_head, slashes] at h
  omega
theorem strLen_plain {f : Nat} {c : Int} {l : List Int} {len m : Nat} (h : strLen (f + 1) (c :: l) len = (true, m)) (h1 : c ≠ 34) (h2 : c ≠ 92) : strLen (f + 1) l (len + 1) = (true, m) := by
  simp only [strLen] at h ⊢
  rw [idxOf_tail h1] at h
  cases hi : idxOf 34 l with
  | none => rw [hi] at h; simp at h
  | some i =>
    rw [hi] at h
    simp only [Option.map_some, List.take_succ_cons, slashes_skip h2, List.drop_succ_cons] at h ⊢
    rw [show len + 1 + i = len + (i + 1) by omega]
    exact h
theorem strLen_esc {f : Nat} {c : Int} {l : List Int} {len m : Nat} (h : strLen (f + 1) (92 :: c :: l) len = (true, m)) : ∃ g, g ≤ f + 1 ∧ strLen g l (len + 2) = (true, m) := by
  simp only [strLen] at h
  by_cases hc : c = 34
  · subst hc
    rw [idxOf_tail (by decide), idxOf_head] at h
    have : slashes ([92] : List Int) % 2 = 1 := by decide
    simp only [Option.map_some, Nat.zero_add, List.take_succ_cons, List.take_zero, this, List.drop_succ_cons, List.drop_zero] at h
    exact ⟨f, by omega, by simpa using h⟩
  · rw [idxOf_tail (by decide), idxOf_tail hc] at h
    refine ⟨f + 1, by omega, ?_⟩
    simp only [strLen]
    cases hi : idxOf 34 l with
    | none => rw [hi] at h; simp at h
    | some i =>
      rw [hi] at h
      simp only [Option.map_some, List.take_succ_cons, slashes_pair, List.drop_succ_cons] at h ⊢
      rw [show len + 2 + i = len + (i + 1 + 1) by omega]
      exact h
theorem getu4_hex {s : List Int} (h : 0 ≤ getu4 s) : ∀ i, i < 4 → 0 ≤ hexV (s.getD (2 + i) 0) := by
  have hl := getu4_length h
  unfold getu4 at h
  split at h
  · omega
  · match s, hl with
    | a :: b :: c :: e :: f :: g :: t, _ =>
      simp only [List.drop_succ_cons, List.drop_zero, List.take_succ_cons, List.take_zero, hexRow] at h
      intro i hi
      have : i = 0 ∨ i = 1 ∨ i = 2 ∨ i = 3 := by omega
      rcases this with rfl | rfl | rfl | rfl <;> simp only [Nat.add_zero, List.getD_cons_succ, List.getD_cons_zero]
      · split at h
        · omega
        · omega
      · split at h
        · omega
        · split at h
          · omega
          · omega
      · split at h
        · omega
        · split at h
          · omega
          · split at h
            · omega
            · omega
      · split at h
        · omega
        · split at h
          · omega
          · split at h
            · omega
            · split at h
              · omega
              · omega
theorem escOf_kinds {s : List Int} {r : Int} {n : Nat} (h : escOf s = some (r, n)) :
    (n = 2 ∧ 2 ≤ s.length ∧ (s.getD 1 0 = 34 ∨ s.getD 1 0 = 47 ∨ s.getD 1 0 = 92 ∨ s.getD 1 0 = 98 ∨ s.getD 1 0 = 102 ∨ s.getD 1 0 = 110 ∨ s.getD 1 0 = 114 ∨ s.getD 1 0 = 116)) ∨
      (n = 6 ∧ 0 ≤ getu4 s) ∨ (n = 12 ∧ 0 ≤ getu4 s ∧ 0 ≤ getu4 (s.drop 6)) := by
  unfold escOf at h
  simp only at h
  split at h
  · cases h
  rename_i hl
  split at h
  · cases h; rename_i hc; exact .inl ⟨rfl, by omega, by omega⟩
  split at h
  · cases h; exact .inl ⟨rfl, by omega, by omega⟩
  split at h
  · cases h; exact .inl ⟨rfl, by omega, by omega⟩
  split at h
  · cases h; exact .inl ⟨rfl, by omega, by omega⟩
  split at h
  · cases h; exact .inl ⟨rfl, by omega, by omega⟩
  split at h
  · cases h; exact .inl ⟨rfl, by omega, by omega⟩
  split at h
  · split at h
    · cases h
    rename_i hg
    split at h
    · split at h
      · rename_i hne
        cases h
        refine .inr (.inr ⟨rfl, by omega, ?_⟩)
        apply Classical.byContradiction
        intro hn
        apply hne
        unfold pairR
        rw [if_neg (by omega)]
      · cases h; exact .inr (.inl ⟨rfl, by omega⟩)
    · cases h; exact .inr (.inl ⟨rfl, by omega⟩)
  · cases h
theorem unesc_plain {f : Nat} {acc : List Int} {c : Int} {l : List Int} (hc : c ≠ 92) (h : (unesc (f + 1) acc (c :: l)).isSome = true) : ∃ acc', (unesc (f + 1) acc' l).isSome = true := by
  simp only [unesc] at h ⊢
  rw [idxOf_tail hc] at h
  cases hi : idxOf 92 l with
  | none => exact ⟨[], rfl⟩
  | some i =>
    rw [hi] at h
    simp only [Option.map_some, List.drop_succ_cons] at h ⊢
    cases he : escOf (l.drop i) with
    | none => rw [he] at h; simp at h
    | some p =>
      obtain ⟨r, n⟩ := p
      rw [he] at h
      simp only at h ⊢
      rw [show i + 1 + n = (i + n) + 1 by omega, List.drop_succ_cons] at h
      refine ⟨acc ++ [c], ?_⟩
      simpa using h
theorem unesc_esc {f : Nat} {acc : List Int} {l : List Int} (h : (unesc (f + 1) acc (92 :: l)).isSome = true) : ∃ r n acc', escOf (92 :: l) = some (r, n) ∧ (unesc f acc' ((92 :: l).drop n)).isSome = true := by
  simp only [unesc, idxOf_head, List.drop_zero] at h
  cases he : escOf (92 :: l) with
  | none => rw [he] at h; simp at h
  | some p =>
    obtain ⟨r, n⟩ := p
    rw [he] at h
    simp only [Nat.zero_add] at h
    exact ⟨r, n, _, rfl, h⟩
theorem hexV_34 : hexV 34 = -1 := by decide
theorem hexV_92 : hexV 92 = -1 := by decide
theorem strLen_hex {f : Nat} {a b c e : Int} {l : List Int} {len m : Nat} (h : strLen f (92 :: 117 :: a :: b :: c :: e :: l) len = (true, m))
    (ha : 0 ≤ hexV a) (hb : 0 ≤ hexV b) (hc : 0 ≤ hexV c) (he : 0 ≤ hexV e) : ∃ g, strLen g l (len + 6) = (true, m) := by
  have ne : ∀ x, 0 ≤ hexV x → x ≠ 34 ∧ x ≠ 92 := fun x hx => ⟨fun e => by rw [e, hexV_34] at hx; omega, fun e => by rw [e, hexV_92] at hx; omega⟩
  cases f with
  | zero => simp [strLen] at h
  | succ f =>
    obtain ⟨g, -, h⟩ := strLen_esc h
    cases g with
    | zero => simp [strLen] at h
    | succ g =>
      have h := strLen_plain h (ne a ha).1 (ne a ha).2
      have h := strLen_plain h (ne b hb).1 (ne b hb).2
      have h := strLen_plain h (ne c hc).1 (ne c hc).2
      have h := strLen_plain h (ne e he).1 (ne e he).2
      exact ⟨g + 1, h⟩
theorem getD_drop2 (d : List Int) (p i : Nat) : (d.drop p).getD i 0 = d.getD (p + i) 0 := by simp [List.getD]
theorem sb_of (d : List Int) : ∀ (k p f F len m : Nat) (acc : List Int), m - len ≤ k → p ≤ d.length → strLen f (d.drop p) len = (true, m) → (unesc F acc ((d.drop p).take (m - len))).isSome = true → SB d p (p + (m - len) + 1) := by
  intro k
  induction k with
  | zero =>
    intro p f F len m acc hk hp hs hu
    obtain ⟨h1, h2, h3⟩ := strLen_le _ _ _ _ hs
    rw [List.length_drop] at h2
    rw [getD_drop2] at h3
    rw [show m - len = 0 by omega] at h3 ⊢
    exact .close (by omega) h3
  | succ k ih =>
    intro p f F len m acc hk hp hs hu
    obtain ⟨h1, h2, h3⟩ := strLen_le _ _ _ _ hs
    rw [List.length_drop] at h2
    rw [getD_drop2] at h3
    by_cases h0 : m - len = 0
    · rw [h0] at h3 ⊢
      exact .close (by omega) h3
    cases f with
    | zero => simp [strLen] at hs
    | succ f =>
    have hlt : p < d.length := by omega
    have hd : d.drop p = d.getD p 0 :: d.drop (p + 1) := by
      rw [List.drop_eq_getElem_cons hlt]; simp [List.getD, hlt]
    have ht : (d.drop p).take (m - len) = d.getD p 0 :: (d.drop (p + 1)).take (m - len - 1) := by
      rw [hd, show m - len = (m - len - 1) + 1 by omega, List.take_succ_cons]; simp
    cases F with
    | zero => simp [unesc] at hu
    | succ F =>
    rw [ht] at hu
    by_cases h92 : d.getD p 0 = 92
    case neg =>
      have h34 : d.getD p 0 ≠ 34 := by
        intro e
        rw [hd, e] at hs
        have := strLen_quote hs
        omega
      rw [hd] at hs
      have hs' := strLen_plain hs h34 h92
      obtain ⟨acc', hu'⟩ := unesc_plain h92 hu
      have := ih (p + 1) (f + 1) (F + 1) (len + 1) m acc' (by omega) (by omega) hs' (by rw [show m - (len + 1) = m - len - 1 by omega]; exact hu')
      rw [show p + 1 + (m - (len + 1)) + 1 = p + (m - len) + 1 by omega] at this
      exact .plain hlt h34 h92 this
    case pos =>
      rw [h92] at hu hd
      obtain ⟨r, n, acc', he, hu'⟩ := unesc_esc hu
      have hlen := (escOf_bounds he).2.2
      rw [List.length_cons, List.length_take, List.length_drop] at hlen
      -- the token's bytes are the text's
      have hat : ∀ i, i < m - len → ((92 : Int) :: (d.drop (p + 1)).take (m - len - 1)).getD i 0 = d.getD (p + i) 0 := by
        intro i hi
        rw [← h92, ← ht]
        rw [show ((d.drop p).take (m - len)).getD i 0 = (d.drop p).getD i 0 by simp [List.getD, hi], getD_drop2]
      have hdr : ∀ n, n ≤ m - len → ((92 : Int) :: (d.drop (p + 1)).take (m - len - 1)).drop n = (d.drop (p + n)).take (m - (len + n)) := by
        intro n hn
        rw [← h92, ← ht, List.drop_take, List.drop_drop, Nat.sub_sub]
      rw [hdr n (by omega)] at hu'
      rcases escOf_kinds he with ⟨rfl, -, hk1⟩ | ⟨rfl, hg⟩ | ⟨rfl, hg, hg2⟩
      · rw [hat 1 (by omega)] at hk1
        have hd2 : d.drop (p + 1) = d.getD (p + 1) 0 :: d.drop (p + 2) := by
          rw [List.drop_eq_getElem_cons (by omega : p + 1 < d.length)]; simp [List.getD, show p + 1 < d.length by omega]
        rw [hd, hd2] at hs
        obtain ⟨g, -, hs'⟩ := strLen_esc hs
        have := ih (p + 2) g F (len + 2) m acc' (by omega) (by omega) hs' hu'
        rw [show p + 2 + (m - (len + 2)) + 1 = p + (m - len) + 1 by omega] at this
        exact .short (by omega) h92 hk1 this
      · have hu4 := getu4_u hg
        have hhx := getu4_hex hg
        rw [hat 1 (by omega)] at hu4
        have hx : ∀ i, i < 4 → 0 ≤ hexV (d.getD (p + 2 + i) 0) := fun i hi => by
          have := hhx i hi
          rw [hat (2 + i) (by omega)] at this
          rw [Nat.add_assoc]; exact this
        have hd6 : d.drop p = 92 :: 117 :: d.getD (p + 2) 0 :: d.getD (p + 3) 0 :: d.getD (p + 4) 0 :: d.getD (p + 5) 0 :: d.drop (p + 6) := by
          rw [hd]
          have e1 : ∀ j, j < d.length → d.drop j = d.getD j 0 :: d.drop (j + 1) := fun j hj => by rw [List.drop_eq_getElem_cons hj]; simp [List.getD, hj]
          rw [e1 (p + 1) (by omega), e1 (p + 2) (by omega), e1 (p + 3) (by omega), e1 (p + 4) (by omega), e1 (p + 5) (by omega), hu4.2]
        rw [hd6] at hs
        obtain ⟨g, hs'⟩ := strLen_hex hs (hx 0 (by omega)) (hx 1 (by omega)) (hx 2 (by omega)) (hx 3 (by omega))
        have := ih (p + 6) g F (len + 6) m acc' (by omega) (by omega) hs' hu'
        rw [show p + 6 + (m - (len + 6)) + 1 = p + (m - len) + 1 by omega] at this
        exact .hex (by omega) h92 hu4.2 hx this
      · have hu4 := getu4_u hg
        have hhx := getu4_hex hg
        have hv4 := getu4_u hg2
        have hhy := getu4_hex hg2
        rw [hat 1 (by omega)] at hu4
        have hx : ∀ i, i < 4 → 0 ≤ hexV (d.getD (p + 2 + i) 0) := fun i hi => by
          have := hhx i hi
          rw [hat (2 + i) (by omega)] at this
          rw [Nat.add_assoc]; exact this
        have ha6 : ∀ i, i + 6 < m - len → (((92 : Int) :: (d.drop (p + 1)).take (m - len - 1)).drop 6).getD i 0 = d.getD (p + 6 + i) 0 := fun i hi => by
          rw [getD_drop2, hat (6 + i) (by omega), Nat.add_assoc]
        rw [ha6 0 (by omega), ha6 1 (by omega)] at hv4
        have hy : ∀ i, i < 4 → 0 ≤ hexV (d.getD (p + 6 + 2 + i) 0) := fun i hi => by
          have := hhy i hi
          rw [ha6 (2 + i) (by omega)] at this
          rw [Nat.add_assoc (p + 6)]; exact this
        have e1 : ∀ j, j < d.length → d.drop j = d.getD j 0 :: d.drop (j + 1) := fun j hj => by rw [List.drop_eq_getElem_cons hj]; simp [List.getD, hj]
        have hd6 : d.drop p = 92 :: 117 :: d.getD (p + 2) 0 :: d.getD (p + 3) 0 :: d.getD (p + 4) 0 :: d.getD (p + 5) 0 :: d.drop (p + 6) := by
          rw [hd, e1 (p + 1) (by omega), e1 (p + 2) (by omega), e1 (p + 3) (by omega), e1 (p + 4) (by omega), e1 (p + 5) (by omega), hu4.2]
        have hd7 : d.drop (p + 6) = 92 :: 117 :: d.getD (p + 6 + 2) 0 :: d.getD (p + 6 + 3) 0 :: d.getD (p + 6 + 4) 0 :: d.getD (p + 6 + 5) 0 :: d.drop (p + 6 + 6) := by
          rw [e1 (p + 6) (by omega), e1 (p + 6 + 1) (by omega), e1 (p + 6 + 2) (by omega), e1 (p + 6 + 3) (by omega), e1 (p + 6 + 4) (by omega), e1 (p + 6 + 5) (by omega), hv4.2, show d.getD (p + 6) 0 = 92 from hv4.1]
        rw [hd6] at hs
        obtain ⟨g, hs'⟩ := strLen_hex hs (hx 0 (by omega)) (hx 1 (by omega)) (hx 2 (by omega)) (hx 3 (by omega))
        rw [hd7] at hs'
        obtain ⟨g2, hs''⟩ := strLen_hex hs' (hy 0 (by omega)) (hy 1 (by omega)) (hy 2 (by omega)) (hy 3 (by omega))
        have := ih (p + 12) g2 F (len + 12) m acc' (by omega) (by omega) hs'' hu'
        rw [show p + 12 + (m - (len + 12)) + 1 = p + (m - len) + 1 by omega] at this
        exact .hex (by omega) h92 hu4.2 hx (.hex (by omega) hv4.1 hv4.2 hy this)
end Go.Proofs.YtaecbclonmhbcaaGreatDoor

namespace Go.Proofs.YtaecbclonmhbcaaGreatDoor
def Bl (d : List Int) (p q : Nat) : Prop := p ≤ q ∧ q ≤ d.length ∧ ∀ i, p ≤ i → i < q → isBl (d.getD i 0) = true
theorem Bl.refl {d : List Int} {p : Nat} (h : p ≤ d.length) : Bl d p p := ⟨Nat.le_refl _, h, fun i a b => absurd b (by omega)⟩
theorem Bl.cons {d : List Int} {p q : Nat} (h : isBl (d.getD p 0) = true) (k : Bl d (p + 1) q) : Bl d p q := by
  refine ⟨by have := k.1; omega, k.2.1, fun i a b => ?_⟩
  by_cases e : i = p
  · rw [e]; exact h
  · exact k.2.2 i (by omega) b
def Wd (d : List Int) (p q : Nat) : Prop :=
  (d.getD p 0 = 110 ∧ wordAt d p [117, 108, 108] = true ∧ q = p + 4) ∨ (d.getD p 0 = 116 ∧ wordAt d p [114, 117, 101] = true ∧ q = p + 4) ∨ (d.getD p 0 = 102 ∧ wordAt d p [97, 108, 115, 101] = true ∧ q = p + 5)
def isCl (c : Int) : Bool := c == 125 || c == 93
structure TokAt (d : List Int) (y : Lx) : Prop where
  lt : y.start < d.length
  sep : y.sep = 0
  tok : (y.kind = 2 ∧ y.delim = 0 ∧ d.getD y.start 0 = 34 ∧ ∃ n, strLen (d.length + 1) (d.drop (y.start + 1)) 0 = (true, n) ∧ y.tok = (d.drop (y.start + 1)).take n ∧ y.pos = y.start + 1 + n + 1) ∨
    (y.kind = 1 ∧ y.delim = d.getD y.start 0 ∧ (d.getD y.start 0 = 123 ∨ d.getD y.start 0 = 91 ∨ d.getD y.start 0 = 125 ∨ d.getD y.start 0 = 93) ∧ y.pos = y.start + 1) ∨
    ((y.kind = 4 ∨ y.kind = 5) ∧ y.delim = 0 ∧ Wd d y.start y.pos)
def Way (x : Lx) (r : Nat) : Prop :=
  (Bl x.d x.pos r ∧ (isCl (x.d.getD r 0) = true → x.sep = 44 ∨ x.fst = true) ∧ (isCl (x.d.getD r 0) = false → x.sep = 0)) ∨
    (x.sep ≠ 0 ∧ ∃ m, Bl x.d x.pos m ∧ m < x.d.length ∧ x.d.getD m 0 = x.sep ∧ Bl x.d (m + 1) r ∧ (isCl (x.d.getD r 0) = true → x.fst = true))
def NoNum (d : List Int) : Prop := ∀ i, isDig (d.getD i 0) = false ∧ d.getD i 0 ≠ 45
theorem sepFail_stuck {x : Lx} (h : x.ok = false) : x.sepFail.ok = false := by
  unfold Lx.sepFail
  split
  · exact fail_ok
  · exact h
theorem fetchString_stuck {x : Lx} (h : x.ok = false) : x.fetchString.ok = false := by
  unfold Lx.fetchString
  split
  · exact h
  · exact fail_ok
theorem fetchNumber_stuck {x : Lx} (h : x.ok = false) : x.fetchNumber.ok = false := by
  unfold Lx.fetchNumber
  split
  · exact h
  · split
    · exact h
    · exact fail_ok
theorem word_stuck {x : Lx} (h : x.ok = false) (ws : List Int) : (x.word ws).ok = false := by
  unfold Lx.word
  split
  · exact h
  · exact fail_ok
theorem scan_stuck : ∀ (cs : List Int) (x : Lx), x.ok = false → (Lx.scan x cs).ok = false
  | [], x, h => rfl
  | c :: cs, x, h => by
    have h1 := sepFail_stuck h
    have h2 : x.fail.ok = false := fail_ok
    unfold Lx.scan
    split
    · split
      · exact scan_stuck cs _ h
      · exact scan_stuck cs _ fail_ok
    split
    · exact scan_stuck cs _ h
    split
    · exact fetchString_stuck (x := { x.sepFail with kind := 2 }) h1
    split
    · exact h1
    split
    · show (if !x.fst && x.sep != 44 then x.fail else x).ok = false
      split
      · exact fail_ok
      · exact h
    split
    · exact fetchNumber_stuck (x := { x.sepFail with kind := 3 }) h1
    split
    · exact word_stuck (x := { x.sepFail with kind := 5 }) h1 _
    split
    · exact word_stuck (x := { x.sepFail with kind := 4, bv := true }) h1 _
    split
    · exact word_stuck (x := { x.sepFail with kind := 4, bv := false }) h1 _
    · exact fail_ok
theorem sepFail_good {x : Lx} (h : x.sepFail.ok = true) : x.sep = 0 ∧ x.sepFail = x := by
  by_cases e : x.sep = 0
  · exact ⟨e, sepFail_zero e⟩
  · rw [sepFail_ne e, fail_ok] at h; cases h
theorem scan_took : ∀ (cs : List Int) (x : Lx), x.start = x.pos → x.pos ≤ x.d.length → x.d.drop x.pos = cs → x.kind = 0 → x.delim = 0 → NoNum x.d → (Lx.scan x cs).ok = true →
    TokAt x.d (Lx.scan x cs) ∧ Way x (Lx.scan x cs).start
  | [], x, _, _, _, _, _, _, h => by simp [Lx.scan, Lx.ok, Er.isNil] at h
  | c :: cs, x, hs, hp, hc, hk, hdl, hn, h => by
    have hlt : x.pos < x.d.length := by
      apply Classical.byContradiction
      intro a
      rw [List.drop_eq_nil_of_le (by omega)] at hc
      cases hc
    have hcc : x.d.getD x.pos 0 = c := by
      have := congrArg (fun l => List.getD l 0 0) hc
      simpa [List.getD] using this
    have htl : x.d.drop (x.pos + 1) = cs := by
      have := congrArg (List.drop 1) hc
      simpa using this
    have hno := hn x.pos
    rw [hcc] at hno
    unfold Lx.scan at h ⊢
    by_cases h1 : (c == 58 || c == 44) = true
    · rw [if_pos h1] at h ⊢
      have hcl : c ≠ 0 := by rintro rfl; cases h1
      by_cases h2 : (x.sep == c) = true
      · rw [if_pos h2] at h ⊢
        have h2' : x.sep = c := by simpa using h2
        obtain ⟨a, b⟩ := scan_took cs { x with pos := x.pos + 1, start := x.start + 1, sep := 0 } (by show x.start + 1 = x.pos + 1; omega) hlt htl hk hdl hn h
        refine ⟨a, .inr ⟨by rw [h2']; exact hcl, x.pos, Bl.refl hp, hlt, by rw [hcc, h2'], ?_⟩⟩
        rcases b with ⟨b1, b2, -⟩ | ⟨b1, -⟩
        · refine ⟨b1, fun e => ?_⟩
          rcases b2 e with e2 | e2
          · have : (0 : Int) = 44 := e2
            exact absurd this (by decide)
          · exact e2
        · exact absurd rfl b1
      · rw [if_neg h2] at h
        rw [scan_stuck _ _ fail_ok] at h; cases h
    rw [if_neg h1] at h ⊢
    by_cases h2 : isBl c = true
    · rw [if_pos h2] at h ⊢
      obtain ⟨a, b⟩ := scan_took cs { x with pos := x.pos + 1, start := x.start + 1 } (by show x.start + 1 = x.pos + 1; omega) hlt htl hk hdl hn h
      refine ⟨a, ?_⟩
      have hb : isBl (x.d.getD x.pos 0) = true := by rw [hcc]; exact h2
      rcases b with ⟨b1, b2, b3⟩ | ⟨b1, m, b2, b3⟩
      · exact .inl ⟨Bl.cons hb b1, b2, b3⟩
      · exact .inr ⟨b1, m, Bl.cons hb b2, b3⟩
    rw [if_neg h2] at h ⊢
    -- from here on the token begins at the place
    have here : isCl c = false → x.sep = 0 → Way x x.pos := fun e e2 => .inl ⟨Bl.refl hp, fun e3 => (by rw [hcc, e] at e3; cases e3), fun _ => e2⟩
    by_cases h3 : (c == 34) = true
    · rw [if_pos h3] at h ⊢
      have h3' : c = 34 := by simpa using h3
      have hg : x.sepFail.ok = true := by
        apply Classical.byContradiction
        intro a
        rw [fetchString_stuck (x := { x.sepFail with kind := 2 }) (show x.sepFail.ok = false from Bool.eq_false_iff.2 a)] at h; cases h
      obtain ⟨e0, e1⟩ := sepFail_good hg
      rw [e1] at h ⊢
      unfold Lx.fetchString at h ⊢
      simp only at h ⊢
      split
      · rename_i n hst
        refine ⟨⟨by show x.start < _; omega, e0, .inl ⟨rfl, hdl, by show x.d.getD x.start 0 = 34; rw [hs, hcc, h3'], n, by show strLen _ (x.d.drop (x.start + 1)) 0 = _; rw [hs]; exact hst, by show _ = (x.d.drop (x.start + 1)).take n; rw [hs], by show _ = x.start + 1 + n + 1; rw [hs]⟩⟩, ?_⟩
        show Way x x.start
        rw [hs]
        exact here (by rw [h3']; rfl) e0
      · rename_i n hst
        rw [hst] at h
        simp only at h
        rw [fail_ok] at h; cases h
    rw [if_neg h3] at h ⊢
    by_cases h4 : (c == 123 || c == 91) = true
    · rw [if_pos h4] at h ⊢
      have h4' : c = 123 ∨ c = 91 := by simpa using h4
      obtain ⟨e0, e1⟩ := sepFail_good (x := x) h
      rw [e1]
      refine ⟨⟨by show x.start < _; omega, e0, .inr (.inl ⟨rfl, by show x.d.getD x.pos 0 = x.d.getD x.start 0; rw [hs], by show x.d.getD x.start 0 = 123 ∨ x.d.getD x.start 0 = 91 ∨ _; rw [hs, hcc]; omega, by show x.pos + 1 = x.start + 1; rw [hs]⟩)⟩, ?_⟩
      show Way x x.start
      rw [hs]
      exact here (by rcases h4' with rfl | rfl <;> rfl) e0
    rw [if_neg h4] at h ⊢
    by_cases h5 : (c == 125 || c == 93) = true
    · rw [if_pos h5] at h ⊢
      have h5' : c = 125 ∨ c = 93 := by simpa using h5
      have hcl : isCl c = true := h5
      by_cases h6 : (!x.fst && x.sep != 44) = true
      · have : (if (!x.fst && x.sep != 44) = true then x.fail else x).ok = true := h
        rw [if_pos h6, fail_ok] at this; cases this
      · rw [if_neg h6]
        refine ⟨⟨by show x.start < _; omega, rfl, .inr (.inl ⟨rfl, by show x.d.getD x.pos 0 = x.d.getD x.start 0; rw [hs], by show x.d.getD x.start 0 = 123 ∨ x.d.getD x.start 0 = 91 ∨ _; rw [hs, hcc]; omega, by show x.pos + 1 = x.start + 1; rw [hs]⟩)⟩, ?_⟩
        show Way x x.start
        rw [hs]
        refine .inl ⟨Bl.refl hp, fun _ => ?_, fun e => (by rw [hcc, hcl] at e; cases e)⟩
        simp only [Bool.and_eq_true, Bool.not_eq_true', bne_iff_ne, ne_eq, not_and, Classical.not_not] at h6
        cases hf : x.fst
        · exact .inl (h6 hf)
        · exact .inr rfl
    rw [if_neg h5] at h ⊢
    have hcl : isCl c = false := by simpa [isCl] using h5
    rw [if_neg (by simp [hno.1, hno.2])] at h ⊢
    have words : ∀ (y : Lx) (ws : List Int) (k : Nat), (k = 4 ∨ k = 5) → y.d = x.d → y.pos = x.pos → y.start = x.start → y.kind = k → y.delim = 0 → y.sep = 0 → x.sep = 0 → (y.word ws).ok = true →
        (wordAt x.d x.pos ws = true → Wd x.d x.pos (x.pos + 1 + ws.length)) → TokAt x.d (y.word ws) ∧ Way x (y.word ws).start := by
      intro y ws k hk4 y1 y2 y3 y4 y5 y6 e0 hh hw
      unfold Lx.word at hh ⊢
      rw [y1, y2] at hh ⊢
      by_cases hwa : wordAt x.d x.pos ws = true
      · rw [if_pos hwa]
        refine ⟨⟨by show y.start < _; omega, y6, .inr (.inr ⟨by show y.kind = 4 ∨ y.kind = 5; rw [y4]; exact hk4, y5, ?_⟩)⟩, ?_⟩
        · show Wd x.d y.start (x.pos + 1 + ws.length)
          rw [y3, hs]; exact hw hwa
        · show Way x y.start
          rw [y3, hs]; exact here hcl e0
      · rw [if_neg hwa, fail_ok] at hh; cases hh
    by_cases h7 : (c == 110) = true
    · rw [if_pos h7] at h ⊢
      have hg : x.sepFail.ok = true := by
        apply Classical.byContradiction
        intro a
        rw [word_stuck (x := { x.sepFail with kind := 5 }) (show x.sepFail.ok = false from Bool.eq_false_iff.2 a)] at h; cases h
      obtain ⟨e0, e1⟩ := sepFail_good hg
      rw [e1] at h ⊢
      exact words _ _ 5 (.inr rfl) rfl rfl rfl rfl hdl e0 e0 h fun a => .inl ⟨by rw [hcc]; simpa using h7, a, rfl⟩
    rw [if_neg h7] at h ⊢
    by_cases h8 : (c == 116) = true
    · rw [if_pos h8] at h ⊢
      have hg : x.sepFail.ok = true := by
        apply Classical.byContradiction
        intro a
        rw [word_stuck (x := { x.sepFail with kind := 4, bv := true }) (show x.sepFail.ok = false from Bool.eq_false_iff.2 a)] at h; cases h
      obtain ⟨e0, e1⟩ := sepFail_good hg
      rw [e1] at h ⊢
      exact words _ _ 4 (.inl rfl) rfl rfl rfl rfl hdl e0 e0 h fun a => .inr (.inl ⟨by rw [hcc]; simpa using h8, a, rfl⟩)
    rw [if_neg h8] at h ⊢
    by_cases h9 : (c == 102) = true
    · rw [if_pos h9] at h ⊢
      have hg : x.sepFail.ok = true := by
        apply Classical.byContradiction
        intro a
        rw [word_stuck (x := { x.sepFail with kind := 4, bv := false }) (show x.sepFail.ok = false from Bool.eq_false_iff.2 a)] at h; cases h
      obtain ⟨e0, e1⟩ := sepFail_good hg
      rw [e1] at h ⊢
      exact words _ _ 4 (.inl rfl) rfl rfl rfl rfl hdl e0 e0 h fun a => .inr (.inr ⟨by rw [hcc]; simpa using h9, a, rfl⟩)
    rw [if_neg h9, fail_ok] at h; cases h
structure Free (D : List Int) (x : Lx) (p : Nat) (sp : Int) : Prop where
  d : x.d = D
  ok : x.ok = true
  kind : x.kind = 0
  delim : x.delim = 0
  pos : x.pos = p
  le : p ≤ D.length
  sep : x.sep = sp
  fst : sp ≠ 0 → x.fst = false
theorem peekK {x : Lx} (h : (x.kind == 0 && x.ok) = false) : x.peek = x := by unfold Lx.peek; rw [h]; rfl
theorem peekN {x : Lx} (h : (x.kind == 0 && x.ok) = true) : x.peek = x.fetch := by unfold Lx.peek; rw [h]; rfl
theorem Free.peek {d : List Int} {x : Lx} {p : Nat} {sep : Int} (h : Free d x p sep) (hn : NoNum d) (hok : x.peek.ok = true) : TokAt d x.peek ∧ Way x x.peek.start := by
  have e : x.peek = x.fetch := peekN (by rw [h.kind, h.ok]; rfl)
  rw [e] at hok ⊢
  have hd := h.d
  subst hd
  have := scan_took (x.d.drop x.pos) { x with kind := 0, start := x.pos } rfl (by show x.pos ≤ _; rw [h.pos]; exact h.le) rfl rfl h.delim hn hok
  exact this
theorem TokAt.kind {d : List Int} {y : Lx} (h : TokAt d y) : y.kind ≠ 0 := by
  rcases h.tok with ⟨a, -⟩ | ⟨a, -⟩ | ⟨a, -⟩ <;> omega
theorem TokAt.peek {d : List Int} {y : Lx} (h : TokAt d y) : y.peek = y := peekK (by simp [h.kind])
end Go.Proofs.YtaecbclonmhbcaaGreatDoor

namespace Go.Proofs.YtaecbclonmhbcaaGreatDoor
inductive G (d : List Int) : Nat → Nat → Nat → Prop
  | word {p q : Nat} : p < d.length → Wd d p q → G d 0 p q
  | str {p q : Nat} : p < d.length → d.getD p 0 = 34 → SB d (p + 1) q → G d 0 p q
  | arr {p q : Nat} : p < d.length → d.getD p 0 = 91 → G d 1 (p + 1) q → G d 0 p q
  | obj {p q : Nat} : p < d.length → d.getD p 0 = 123 → G d 3 (p + 1) q → G d 0 p q
  | aEnd {p r : Nat} : Bl d p r → r < d.length → d.getD r 0 = 93 → G d 1 p (r + 1)
  | aFst {p q : Nat} : G d 5 p q → G d 1 p q
  | aVal {p r s q : Nat} : Bl d p r → G d 0 r s → G d 2 s q → G d 5 p q
  | aStop {p r : Nat} : Bl d p r → r < d.length → d.getD r 0 = 93 → G d 2 p (r + 1)
  | aMore {p r q : Nat} : Bl d p r → r < d.length → d.getD r 0 = 44 → G d 5 (r + 1) q → G d 2 p q
  | oEnd {p r : Nat} : Bl d p r → r < d.length → d.getD r 0 = 125 → G d 3 p (r + 1)
  | oFst {p q : Nat} : G d 6 p q → G d 3 p q
  | oVal {p r s t u v q : Nat} : Bl d p r → r < d.length → d.getD r 0 = 34 → SB d (r + 1) s → Bl d s t → t < d.length → d.getD t 0 = 58 → Bl d (t + 1) u → G d 0 u v → G d 4 v q → G d 6 p q
  | oStop {p r : Nat} : Bl d p r → r < d.length → d.getD r 0 = 125 → G d 4 p (r + 1)
  | oMore {p r q : Nat} : Bl d p r → r < d.length → d.getD r 0 = 44 → G d 6 (r + 1) q → G d 4 p q
def Txt (d : List Int) : Prop := ∃ r q, Bl d 0 r ∧ G d 0 r q ∧ Bl d q d.length
theorem Wd.le {d : List Int} {p q : Nat} (h : Wd d p q) (hp : p < d.length) : p + 4 ≤ q ∧ q ≤ d.length := by
  rcases h with ⟨-, b, c⟩ | ⟨-, b, c⟩ | ⟨-, b, c⟩
  · have := wordAt_len b hp; simp at this; omega
  · have := wordAt_len b hp; simp at this; omega
  · have := wordAt_len b hp; simp at this; omega
theorem G.lt {d : List Int} {k p q : Nat} (h : G d k p q) : p < q ∧ q ≤ d.length := by
  induction h with
  | word hp hw => have := hw.le hp; omega
  | str _ _ h => have := h.lt; omega
  | arr _ _ _ ih => omega
  | obj _ _ _ ih => omega
  | aEnd h _ _ => have := h.1; omega
  | aFst _ ih => exact ih
  | aVal h _ _ ih1 ih2 => have := h.1; omega
  | aStop h _ _ => have := h.1; omega
  | aMore h _ _ _ ih => have := h.1; omega
  | oEnd h _ _ => have := h.1; omega
  | oFst _ ih => exact ih
  | oVal h _ _ hs h2 _ _ h3 _ _ ih1 ih2 => have := h.1; have := h2.1; have := h3.1; have := hs.lt; omega
  | oStop h _ _ => have := h.1; omega
  | oMore h _ _ _ ih => have := h.1; omega
theorem G.head {d : List Int} {p q : Nat} (h : G d 0 p q) : isCl (d.getD p 0) = false := by
  cases h with
  | word hp hw => rcases hw with ⟨a, -⟩ | ⟨a, -⟩ | ⟨a, -⟩ <;> rw [a] <;> rfl
  | str _ a _ => rw [a]; rfl
  | arr _ a _ => rw [a]; rfl
  | obj _ a _ => rw [a]; rfl
section
variable {d : List Int} {x : Lx} {p : Nat}
theorem Free.close {sep : Int} (h : Free d x p sep) (hn : NoNum d) (hok : x.peek.ok = true) {c : Int} (hc : c = 93 ∨ c = 125) (hd : x.peek.delim = c) (hs : sep = 0 ∨ sep = 44) :
    ∃ r, Bl d p r ∧ r < d.length ∧ d.getD r 0 = c ∧ x.peek.pos = r + 1 ∧ x.peek.kind = 1 := by
  obtain ⟨ht, hw⟩ := h.peek hn hok
  rcases ht.tok with ⟨-, a, -⟩ | ⟨a, b, -, e⟩ | ⟨-, a, -⟩
  · rw [hd] at a; omega
  · rw [hd] at b
    refine ⟨x.peek.start, ?_, ht.lt, b.symm, e, a⟩
    have hcl : isCl (d.getD x.peek.start 0) = true := by rw [← b]; rcases hc with rfl | rfl <;> rfl
    unfold Way at hw
    rw [h.d, h.pos] at hw
    rcases hw with ⟨w1, -, -⟩ | ⟨w1, m, w2, w3, w4, w5, w6⟩
    · exact w1
    · rw [h.fst (by rw [← h.sep]; exact w1)] at w6
      exact absurd (w6 hcl) (by decide)
  · rw [hd] at a; omega
theorem Free.open0 (h : Free d x p 0) (hn : NoNum d) (hok : x.peek.ok = true) : Bl d p x.peek.start := by
  obtain ⟨ht, hw⟩ := h.peek hn hok
  unfold Way at hw
  rw [h.d, h.pos, h.sep] at hw
  rcases hw with ⟨w1, -, -⟩ | ⟨w1, -⟩
  · exact w1
  · exact absurd rfl w1
theorem Free.openS {sep : Int} (h : Free d x p sep) (hs : sep ≠ 0) (hn : NoNum d) (hok : x.peek.ok = true) (hc : isCl (d.getD x.peek.start 0) = false) :
    ∃ m, Bl d p m ∧ m < d.length ∧ d.getD m 0 = sep ∧ Bl d (m + 1) x.peek.start := by
  obtain ⟨ht, hw⟩ := h.peek hn hok
  unfold Way at hw
  rw [h.d, h.pos, h.sep] at hw
  rcases hw with ⟨-, -, w3⟩ | ⟨-, m, w2, w3, w4, w5, -⟩
  · exact absurd (w3 hc) hs
  · exact ⟨m, w2, w3, w4, w5⟩
end
def Rest (sep : Int) (o : Nat) : Nat := if sep = 0 then o else o + 1
section
variable {d : List Int} {x : Lx} {p : Nat} {sep : Int}
theorem Free.aClose (h : Free d x p sep) (hs : sep = 0 ∨ sep = 44) (hn : NoNum d) (hok : x.peek.ok = true) (hd : x.peek.delim = 93) : G d (Rest sep 1) p x.peek.pos := by
  obtain ⟨r, h1, h2, h3, h4, -⟩ := h.close hn hok (.inl rfl) hd hs
  rw [h4]
  rcases hs with rfl | rfl
  · exact .aEnd h1 h2 h3
  · exact .aStop h1 h2 h3
theorem Free.oClose (h : Free d x p sep) (hs : sep = 0 ∨ sep = 44) (hn : NoNum d) (hok : x.peek.ok = true) (hd : x.peek.delim = 125) : G d (Rest sep 3) p x.peek.pos := by
  obtain ⟨r, h1, h2, h3, h4, -⟩ := h.close hn hok (.inr rfl) hd hs
  rw [h4]
  rcases hs with rfl | rfl
  · exact .oEnd h1 h2 h3
  · exact .oStop h1 h2 h3
theorem Free.aNext (h : Free d x p sep) (hs : sep = 0 ∨ sep = 44) (hn : NoNum d) (hok : x.peek.ok = true) {s : Nat} (hg : G d 0 x.peek.start s) (q : Nat) (hq : G d 2 s q) : G d (Rest sep 1) p q := by
  rcases hs with rfl | rfl
  · exact .aFst (.aVal (h.open0 hn hok) hg hq)
  · obtain ⟨m, h1, h2, h3, h4⟩ := h.openS (by decide) hn hok hg.head
    exact .aMore h1 h2 h3 (.aVal h4 hg hq)
theorem Free.oNext (h : Free d x p sep) (hs : sep = 0 ∨ sep = 44) (hn : NoNum d) (hok : x.peek.ok = true) (h34 : d.getD x.peek.start 0 = 34) {s : Nat} (hsb : SB d (x.peek.start + 1) s)
    {z : Lx} (hz : Free d z s 58) (hzok : z.peek.ok = true) {v : Nat} (hg : G d 0 z.peek.start v) (q : Nat) (hq : G d 4 v q) : G d (Rest sep 3) p q := by
  obtain ⟨t, c1, c2, c3, c4⟩ := hz.openS (by decide) hn hzok hg.head
  have hlt := (h.peek hn hok).1.lt
  rcases hs with rfl | rfl
  · exact .oFst (.oVal (h.open0 hn hok) hlt h34 hsb c1 c2 c3 c4 hg hq)
  · obtain ⟨m, h1, h2, h3, h4⟩ := h.openS (by decide) hn hok (by rw [h34]; rfl)
    exact .oMore h1 h2 h3 (.oVal h4 hlt h34 hsb c1 c2 c3 c4 hg hq)
end
end Go.Proofs.YtaecbclonmhbcaaGreatDoor
