/- What a look ahead keeps. Plain. -/
import Derived.Test.YtaecbclonmhbcaaGreatDoorFetP
import Derived.Test.YtaecbclonmhbcaaGreatDoorFStr
namespace Go.Proofs.YtaecbclonmhbcaaGreatDoor

/-- The text, the mode, and the errors that do not end it, stay. -/
structure Lx.Same (x y : Lx) : Prop where
  d : y.d = x.d
  multi : y.multi = x.multi
  errs : y.errs = x.errs
theorem Lx.Same.refl (x : Lx) : x.Same x := ⟨rfl, rfl, rfl⟩
theorem Lx.Same.trans {x y z : Lx} (h : x.Same y) (k : y.Same z) : x.Same z := ⟨k.d.trans h.d, k.multi.trans h.multi, k.errs.trans h.errs⟩

section
variable {x : Lx}
theorem Lx.Same.of {x y z : Lx} (h : y.Same z) (hd : y.d = x.d) (hm : y.multi = x.multi) (he : y.errs = x.errs) : x.Same z := ⟨h.d.trans hd, h.multi.trans hm, h.errs.trans he⟩
theorem fail_same : x.Same x.fail := by unfold Lx.fail; split <;> exact ⟨rfl, rfl, rfl⟩
theorem sepFail_same : x.Same x.sepFail := by unfold Lx.sepFail; split; exact fail_same; exact Lx.Same.refl x
theorem sepFail_pos : x.sepFail.pos = x.pos := by unfold Lx.sepFail; split; exact fail_pos; rfl
theorem sepFail_start : x.sepFail.start = x.start := by unfold Lx.sepFail; split; exact fail_start; rfl
theorem word_same (ws : List Int) : x.Same (x.word ws) := by unfold Lx.word; split; exact ⟨rfl, rfl, rfl⟩; exact fail_same
theorem fetchNumber_same : x.Same x.fetchNumber := by
  unfold Lx.fetchNumber
  split
  · exact ⟨rfl, rfl, rfl⟩
  · split
    · exact ⟨rfl, rfl, rfl⟩
    · exact fail_same.of rfl rfl rfl
theorem fetchString_same : x.Same x.fetchString := by
  unfold Lx.fetchString
  split
  · exact ⟨rfl, rfl, rfl⟩
  · exact fail_same.of rfl rfl rfl

theorem wordAt_len {d : List Int} {p : Nat} {ws : List Int} (h : wordAt d p ws = true) (hp : p < d.length) : p + 1 + ws.length ≤ d.length := by
  simp only [wordAt, Bool.and_eq_true, beq_iff_eq] at h
  have := congrArg List.length h.1
  simp at this
  omega
theorem numScan_le : ∀ (l : List Int) (e a t : Bool), (numScan l e a t).1 ≤ l.length
  | [], _, _, _ => Nat.le_refl _
  | c :: cs, e, a, t => by
    simp only [numScan]
    split
    · have := numScan_le cs e false t; simp; omega
    · split
      · have := numScan_le cs e a true; simp; omega
      · split
        · have := numScan_le cs true true true; simp; omega
        · split
          · have := numScan_le cs e false t; simp; omega
          · simp

theorem word_wf (h : x.Wf) (hp : x.pos < x.d.length) (ws : List Int) : (x.word ws).Wf := by
  unfold Lx.word
  split
  · rename_i hc
    have := wordAt_len hc hp
    exact ⟨h.len, this, by show x.start ≤ x.pos + 1 + ws.length; have := h.start; omega, h.byte⟩
  · exact h.fail
theorem fetchNumber_wf (h : x.Wf) (hp : x.pos < x.d.length) : x.fetchNumber.Wf := by
  have hb := numScan_le (x.d.drop (x.pos + 1)) false false false
  have hs := h.start
  unfold Lx.fetchNumber
  split
  · exact ⟨h.len, Nat.le_refl _, by show x.start ≤ x.d.length; omega, h.byte⟩
  · rename_i n c hn
    rw [hn] at hb
    simp at hb
    have hw : ({ x with pos := x.pos + 1 + n } : Lx).Wf := ⟨h.len, by show x.pos + 1 + n ≤ x.d.length; omega, by show x.start ≤ x.pos + 1 + n; omega, h.byte⟩
    split
    · exact ⟨hw.len, hw.pos, hw.start, hw.byte⟩
    · exact hw.fail
theorem fetchString_wf (h : x.Wf) (hp : x.pos < x.d.length) : x.fetchString.Wf := by
  have hb := strLen_bound (x.d.length + 1) (x.d.drop (x.pos + 1)) 0 (by simp; omega)
  have hs := h.start
  unfold Lx.fetchString
  split
  · rename_i n hn
    rw [hn] at hb
    have := hb.1 rfl
    simp at this
    exact ⟨h.len, by show x.pos + 1 + n + 1 ≤ x.d.length; omega, by show x.start ≤ x.pos + 1 + n + 1; omega, h.byte⟩
  · rename_i n hn
    rw [hn] at hb
    have := hb.2 rfl
    simp at this
    exact Lx.Wf.fail ⟨h.len, by show x.pos + 1 + n ≤ x.d.length; omega, by show x.start ≤ x.pos + 1 + n; omega, h.byte⟩

theorem scan_same : ∀ (cs : List Int) (x : Lx), x.Same (Lx.scan x cs)
  | [], x => ⟨rfl, rfl, rfl⟩
  | c :: cs, x => by
    have hs := sepFail_same (x := x)
    have hf := fail_same (x := x)
    simp only [Lx.scan]
    repeat' split
    · exact (scan_same cs _).of rfl rfl rfl
    · exact fail_same.trans (scan_same cs _)
    · exact (scan_same cs _).of rfl rfl rfl
    · exact fetchString_same.of hs.d hs.multi hs.errs
    · exact ⟨hs.d, hs.multi, hs.errs⟩
    · exact ⟨hf.d, hf.multi, hf.errs⟩
    · exact ⟨rfl, rfl, rfl⟩
    · exact fetchNumber_same.of hs.d hs.multi hs.errs
    · exact (word_same _).of hs.d hs.multi hs.errs
    · exact (word_same _).of hs.d hs.multi hs.errs
    · exact (word_same _).of hs.d hs.multi hs.errs
    · exact fail_same

theorem scan_wf : ∀ (cs : List Int) (x : Lx), x.Wf → x.pos + cs.length ≤ x.d.length → (Lx.scan x cs).Wf
  | [], x, h, _ => h.as rfl rfl rfl
  | c :: cs, x, h, hp => by
    have hp' : x.pos + cs.length + 1 ≤ x.d.length := by simpa [Nat.add_assoc] using hp
    have hs := h.start
    have h1 : ∀ y : Lx, y.d = x.d → y.pos = x.pos → y.start = x.start → y.Wf := fun y a b c => h.as a b c
    have h2 : ∀ y : Lx, y.d = x.d → y.pos = x.pos + 1 → y.start = x.start → y.Wf := fun y a b c => ⟨by rw [a]; exact h.len, by rw [a, b]; omega, by rw [b, c]; omega, by rw [a]; exact h.byte⟩
    have h3 : ∀ y : Lx, y.d = x.d → y.pos = x.pos + 1 → y.start = x.start + 1 → y.Wf := fun y a b c => ⟨by rw [a]; exact h.len, by rw [a, b]; omega, by rw [b, c]; omega, by rw [a]; exact h.byte⟩
    have hlt : ∀ y : Lx, y.d = x.d → y.pos = x.pos → y.pos < y.d.length := fun y a b => by rw [a, b]; omega
    have e1 := (sepFail_same (x := x)).d
    have e2 := sepFail_pos (x := x)
    have e3 := sepFail_start (x := x)
    simp only [Lx.scan]
    repeat' split
    · exact scan_wf cs _ (h3 _ rfl rfl rfl) (by show x.pos + 1 + cs.length ≤ x.d.length; omega)
    · exact scan_wf cs _ h.fail (by rw [fail_pos, fail_d]; omega)
    · exact scan_wf cs _ (h3 _ rfl rfl rfl) (by show x.pos + 1 + cs.length ≤ x.d.length; omega)
    · exact fetchString_wf (h1 _ e1 e2 e3) (hlt _ e1 e2)
    · exact h2 _ e1 rfl e3
    · exact h2 _ fail_d rfl fail_start
    · exact h2 _ rfl rfl rfl
    · exact fetchNumber_wf (h1 _ e1 e2 e3) (hlt _ e1 e2)
    · exact word_wf (x := { x.sepFail with kind := 5 }) (h1 _ e1 e2 e3) (hlt _ e1 e2) _
    · exact word_wf (x := { x.sepFail with kind := 4, bv := true }) (h1 _ e1 e2 e3) (hlt _ e1 e2) _
    · exact word_wf (x := { x.sepFail with kind := 4, bv := false }) (h1 _ e1 e2 e3) (hlt _ e1 e2) _
    · exact h.fail

theorem fetch_same : x.Same x.fetch := (scan_same (x.d.drop x.pos) { x with kind := 0, start := x.pos }).of rfl rfl rfl
theorem fetch_wf (h : x.Wf) : x.fetch.Wf :=
  scan_wf _ _ ⟨h.len, h.pos, Nat.le_refl _, h.byte⟩ (by have := h.pos; show x.pos + (x.d.drop x.pos).length ≤ x.d.length; simp; omega)
theorem peek_same : x.Same x.peek := by unfold Lx.peek; split; exact fetch_same; exact Lx.Same.refl x
theorem peek_wf (h : x.Wf) : x.peek.Wf := by unfold Lx.peek; split; exact fetch_wf h; exact h
end
end Go.Proofs.YtaecbclonmhbcaaGreatDoor
