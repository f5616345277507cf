/- decodeEscape at every row of bytes; the error's own text. FetchToken at the text's end. What a look ahead keeps. Plain. No call of reading brings the error that is added from without; kinds stay small. Plain. -/
import Derived.Test.YtaecbclonmhbcaaGreatDoorG29
import Derived.Stop.Asserts
import Derived.Test.YtaecbclonmhbcaaGreatDoorG04
import Derived.Test.YtaecbclonmhbcaaGreatDoorG03
set_option linter.unusedVariables false
set_option linter.unusedSimpArgs false
/- decodeEscape at every row of bytes; the error's own text. -/
namespace Go.Proofs.YtaecbclonmhbcaaGreatDoor
open Go.RowKit

theorem u4_of (b o n cap : Nat) (xs : List Int) (w : World) (hx : xs.length = n) (hn : n ≤ 1073741824) (hcap : n ≤ cap) (hB : Bytes xs)
    (hc : ∀ i, i < n → w.cell? ⟨b, o + i, none⟩ = some (.int .u8 (xs.getD i 0))) : U4 b o n cap (getu4 xs) (getu4 (xs.drop 6)) w := by
  refine ⟨getu4_any b o n cap xs w hx hn hB hc, fun o' c' ho => ?_⟩
  by_cases h6 : n - 6 = 0
  · have he : getu4 (xs.drop 6) = -1 := by
      unfold getu4
      rw [if_pos (.inl (by rw [List.length_drop]; omega))]
    rw [he, h6]
    exact getu4_no _ 0 c' w (by decide)
  · rcases ho with ho | rfl
    · omega
    · refine getu4_any b (o + 6) (n - 6) c' (xs.drop 6) w (by rw [List.length_drop, hx]) (by omega) (hB.drop 6) fun i hi => ?_
      rw [getD_drop, ← hc (6 + i) (by omega), Nat.add_assoc]

/-- What decodeEscape tells. -/
def EscDone (w : World) (r : Option (Int × Nat)) (e : Ending) (w' : World) : Prop :=
  match r with
  | some (r, n) => e = .returned (.tuple #[.int .i32 r, .int .i64 n, .nilIface]) ∧ w = w'
  | none => EscBad w e w'

theorem decode_any (b o n cap : Nat) (xs : List Int) (w : World) (hx : xs.length = n) (hn : n ≤ 1073741824) (hcap : n ≤ cap) (hB : Bytes xs)
    (hc : ∀ i, i < n → w.cell? ⟨b, o + i, none⟩ = some (.int .u8 (xs.getD i 0))) :
    Calls Tryz.prog 133 #[.slice (some ⟨b, o, none⟩) n cap] w (EscDone w (escOf xs)) := by
  unfold escOf
  simp only
  by_cases h2 : n < 2
  · rw [if_pos (by omega)]
    exact esc_short _ n cap w h2
  rw [if_neg (by omega)]
  have h1 := hc 1 (by omega)
  have hU := u4_of b o n cap xs w hx hn hcap hB hc
  generalize xs.getD 1 0 = c at h1 ⊢
  by_cases e34 : c = 34
  · subst e34; exact esc_34 b o n cap w (by omega) h1
  by_cases e47 : c = 47
  · subst e47; exact esc_47 b o n cap w (by omega) h1
  by_cases e92 : c = 92
  · subst e92; exact esc_92 b o n cap w (by omega) h1
  rw [if_neg (by omega)]
  by_cases e98 : c = 98
  · subst e98; exact esc_98 b o n cap w (by omega) h1
  rw [if_neg e98]
  by_cases e102 : c = 102
  · subst e102; exact esc_102 b o n cap w (by omega) h1
  rw [if_neg e102]
  by_cases e110 : c = 110
  · subst e110; exact esc_110 b o n cap w (by omega) h1
  rw [if_neg e110]
  by_cases e114 : c = 114
  · subst e114; exact esc_114 b o n cap w (by omega) h1
  rw [if_neg e114]
  by_cases e116 : c = 116
  · subst e116; exact esc_116 b o n cap w (by omega) h1
  rw [if_neg e116]
  by_cases e117 : c = 117
  case neg =>
    rw [if_neg e117]
    exact esc_other b o n cap c w (by omega) h1 (by omega)
  subst e117
  rw [if_pos rfl]
  have hgb := getu4_bounds xs
  have hgl := getu4_length (s := xs)
  generalize getu4 xs = g at hU hgb hgl ⊢
  generalize getu4 (xs.drop 6) = g2 at hU ⊢
  by_cases hg : g < 0
  · rw [if_pos hg]
    exact esc_u_bad b o n cap g g2 w (by omega) h1 hU hg
  rw [if_neg hg]
  have h6 : 6 ≤ n := by have := hgl (by omega); omega
  by_cases hs : 55296 ≤ g ∧ g < 57344
  case neg =>
    rw [if_neg hs]
    exact esc_u_plain b o n cap g g2 w (by omega) h1 hU (by omega) (by omega)
  rw [if_pos hs]
  by_cases hp : pairR g g2 = 65533
  · rw [if_neg (fun h => h hp)]
    exact esc_u_alone b o n cap g g2 w h6 hcap hn h1 hU hs.1 hs.2 hp
  · rw [if_pos hp]
    exact esc_u_pair b o n cap g g2 w h6 hcap hn h1 hU hs.1 hs.2 hp
end Go.Proofs.YtaecbclonmhbcaaGreatDoor

/- FetchToken at the text's end. -/
namespace Go.Proofs.YtaecbclonmhbcaaGreatDoor
open Go.RowKit

section
variable {w : World} {b : Nat} {ae : Sur} {ao : Addr} {x : Lx} {vd vt ve vm : Value}

theorem fetch_end (h : x.pos = x.d.length) : x.fetch = { x with kind := 0, start := x.pos, err := .eof } := by
  unfold Lx.fetch
  rw [h, List.drop_length]
  rfl

set_option maxHeartbeats 4000000 in
set_option maxRecDepth 100000 in
theorem fetchToken_cap (bd o : Nat) (h : LexAt w b ae ao x (.slice (some ⟨bd, o, none⟩) x.d.length x.d.length) vt ve vm) (hw : x.Wf) (hp : x.pos = x.d.length) :
    Calls Tryz.prog 86 #[.pointer (some ⟨b, 0, none⟩)] w fun e w' => e = .returned (.tuple #[]) ∧ NumDone w b ae ao x.fetch (.slice (some ⟨bd, o, none⟩) x.d.length x.d.length) vm w' := by
  have HE := Lib.hid (fetch_end hp)
  have c0 := h.c0
  have c1 := h.c1
  have c2 := h.c2
  have c3 := h.c3
  have c11 := h.c11
  have f1 := h.free 1
  have f3 := h.free 3
  have f11 := h.free 11
  have eeof := h.env.eof
  have hb2 := h.b2
  have hb3 : ¬ b = 1 := by omega
  have hb4 : ¬ 1 = b := by omega
  have hl := hw.len
  rw [hp] at c2
  have HP := Lib.hid hp
  clear hp
  generalize hn : x.d.length = n at c0 c2 hl
  have HN := Lib.hid hn
  clear hn
  have H1 := Lib.hid h
  clear h
  go_enter Tryz.func86, Tryz.ntmps86
  go_wp2
  go_quiet (fail)
  go_wp2
  go_quiet (fail)
  go_wp2
  go_loop [37] (fun i => i = .int .i64 0) (fun _ => 0)
  case atStart => rfl
  case round =>
    subst hrel
    go_wp2
    (try simp only [Exit.inBlock, Exit.then])
    refine bodyPost_ret (results_none rfl _ _ _) rfl ?_
    have e : n = x.pos := (HP.out.trans HN.out).symm
    have g := H1.out
    rw [HN.out, e] at g
    rw [HE.out, e]
    exact ⟨rfl, _, _, (((g.setKind 0).setStart x.pos).drewN _).setErr (.iface 191 (.pointer (some ae.addr))) .eof rfl, ((((Kept.refl b w).setCell 3 _).setCell 1 _).drewN _).setCell 11 _⟩

set_option maxHeartbeats 4000000 in
set_option maxRecDepth 100000 in
theorem fetchToken_none (h : LexAt w b ae ao x (.slice none 0 0) vt ve vm) (hp : x.pos = 0) (hd : x.d.length = 0) :
    Calls Tryz.prog 86 #[.pointer (some ⟨b, 0, none⟩)] w fun e w' => e = .returned (.tuple #[]) ∧ NumDone w b ae ao x.fetch (.slice none 0 0) vm w' := by
  have HE : RowKit.Hid (x.fetch = { x with kind := 0, start := 0, err := .eof }) := by
    show _ = _
    rw [fetch_end (by omega)]; simp [hp]
  have c0 := h.c0
  have c1 := h.c1
  have c2 := h.c2
  have c3 := h.c3
  have c11 := h.c11
  have f1 := h.free 1
  have f3 := h.free 3
  have f11 := h.free 11
  have eeof := h.env.eof
  have hb2 := h.b2
  have hb3 : ¬ b = 1 := by omega
  have hb4 : ¬ 1 = b := by omega
  rw [hp] at c2
  have H1 := Lib.hid h
  clear hp h hd
  go_enter Tryz.func86, Tryz.ntmps86
  go_wp2
  go_quiet (fail)
  go_wp2
  go_quiet (fail)
  go_wp2
  go_loop [37] (fun i => i = .int .i64 0) (fun _ => 0)
  case atStart => rfl
  case round =>
    subst hrel
    go_wp2
    (try simp only [Exit.inBlock, Exit.then])
    refine bodyPost_ret (results_none rfl _ _ _) rfl ?_
    rw [HE.out]
    exact ⟨rfl, _, _, (((H1.out.setKind 0).setStart 0).drewN _).setErr (.iface 191 (.pointer (some ae.addr))) .eof rfl, ((((Kept.refl b w).setCell 3 _).setCell 1 _).drewN _).setCell 11 _⟩
end
end Go.Proofs.YtaecbclonmhbcaaGreatDoor

/- What a look ahead keeps. Plain. -/
namespace Go.Proofs.YtaecbclonmhbcaaGreatDoor

/-- The text, the mode, and the errors that do not end it, stay. -/
structure Lx.Same (x y : Lx) : Prop where
  d : y.d = x.d
  multi : y.multi = x.multi
  errs : y.errs = x.errs
theorem Lx.Same.refl (x : Lx) : x.Same x := ⟨rfl, rfl, rfl⟩
theorem Lx.Same.trans {x y z : Lx} (h : x.Same y) (k : y.Same z) : x.Same z := ⟨k.d.trans h.d, k.multi.trans h.multi, k.errs.trans h.errs⟩

section
variable {x : Lx}
theorem Lx.Same.of {x y z : Lx} (h : y.Same z) (hd : y.d = x.d) (hm : y.multi = x.multi) (he : y.errs = x.errs) : x.Same z := ⟨h.d.trans hd, h.multi.trans hm, h.errs.trans he⟩
theorem fail_same : x.Same x.fail := by unfold Lx.fail; split <;> exact ⟨rfl, rfl, rfl⟩
theorem sepFail_same : x.Same x.sepFail := by unfold Lx.sepFail; split; exact fail_same; exact Lx.Same.refl x
theorem sepFail_pos : x.sepFail.pos = x.pos := by unfold Lx.sepFail; split; exact fail_pos; rfl
theorem sepFail_start : x.sepFail.start = x.start := by unfold Lx.sepFail; split; exact fail_start; rfl
theorem word_same (ws : List Int) : x.Same (x.word ws) := by unfold Lx.word; split; exact ⟨rfl, rfl, rfl⟩; exact fail_same
theorem fetchNumber_same : x.Same x.fetchNumber := by
  unfold Lx.fetchNumber
  split
  · exact ⟨rfl, rfl, rfl⟩
  · split
    · exact ⟨rfl, rfl, rfl⟩
    · exact fail_same.of rfl rfl rfl
theorem fetchString_same : x.Same x.fetchString := by
  unfold Lx.fetchString
  split
  · exact ⟨rfl, rfl, rfl⟩
  · exact fail_same.of rfl rfl rfl

theorem wordAt_len {d : List Int} {p : Nat} {ws : List Int} (h : wordAt d p ws = true) (hp : p < d.length) : p + 1 + ws.length ≤ d.length := by
  simp only [wordAt, Bool.and_eq_true, beq_iff_eq] at h
  have := congrArg List.length h.1
  simp at this
  omega
theorem numScan_le : ∀ (l : List Int) (e a t : Bool), (numScan l e a t).1 ≤ l.length
  | [], _, _, _ => Nat.le_refl _
  | c :: cs, e, a, t => by
    simp only [numScan]
    split
    · have := numScan_le cs e false t; simp; omega
    · split
      · have := numScan_le cs e a true; simp; omega
      · split
        · have := numScan_le cs true true true; simp; omega
        · split
          · have := numScan_le cs e false t; simp; omega
          · simp

theorem word_wf (h : x.Wf) (hp : x.pos < x.d.length) (ws : List Int) : (x.word ws).Wf := by
  unfold Lx.word
  split
  · rename_i hc
    have := wordAt_len hc hp
    exact ⟨h.len, this, by show x.start ≤ x.pos + 1 + ws.length; have := h.start; omega, h.byte⟩
  · exact h.fail
theorem fetchNumber_wf (h : x.Wf) (hp : x.pos < x.d.length) : x.fetchNumber.Wf := by
  have hb := numScan_le (x.d.drop (x.pos + 1)) false false false
  have hs := h.start
  unfold Lx.fetchNumber
  split
  · exact ⟨h.len, Nat.le_refl _, by show x.start ≤ x.d.length; omega, h.byte⟩
  · rename_i n c hn
    rw [hn] at hb
    simp at hb
    have hw : ({ x with pos := x.pos + 1 + n } : Lx).Wf := ⟨h.len, by show x.pos + 1 + n ≤ x.d.length; omega, by show x.start ≤ x.pos + 1 + n; omega, h.byte⟩
    split
    · exact ⟨hw.len, hw.pos, hw.start, hw.byte⟩
    · exact hw.fail
theorem fetchString_wf (h : x.Wf) (hp : x.pos < x.d.length) : x.fetchString.Wf := by
  have hb := strLen_bound (x.d.length + 1) (x.d.drop (x.pos + 1)) 0 (by simp; omega)
  have hs := h.start
  unfold Lx.fetchString
  split
  · rename_i n hn
    rw [hn] at hb
    have := hb.1 rfl
    simp at this
    exact ⟨h.len, by show x.pos + 1 + n + 1 ≤ x.d.length; omega, by show x.start ≤ x.pos + 1 + n + 1; omega, h.byte⟩
  · rename_i n hn
    rw [hn] at hb
    have := hb.2 rfl
    simp at this
    exact Lx.Wf.fail ⟨h.len, by show x.pos + 1 + n ≤ x.d.length; omega, by show x.start ≤ x.pos + 1 + n; omega, h.byte⟩

theorem scan_same : ∀ (cs : List Int) (x : Lx), x.Same (Lx.scan x cs)
  | [], x => ⟨rfl, rfl, rfl⟩
  | c :: cs, x => by
    have hs := sepFail_same (x := x)
    have hf := fail_same (x := x)
    simp only [Lx.scan]
    repeat' split
    · exact (scan_same cs _).of rfl rfl rfl
    · exact fail_same.trans (scan_same cs _)
    · exact (scan_same cs _).of rfl rfl rfl
    · exact fetchString_same.of hs.d hs.multi hs.errs
    · exact ⟨hs.d, hs.multi, hs.errs⟩
    · exact ⟨hf.d, hf.multi, hf.errs⟩
    · exact ⟨rfl, rfl, rfl⟩
    · exact fetchNumber_same.of hs.d hs.multi hs.errs
    · exact (word_same _).of hs.d hs.multi hs.errs
    · exact (word_same _).of hs.d hs.multi hs.errs
    · exact (word_same _).of hs.d hs.multi hs.errs
    · exact fail_same

theorem scan_wf : ∀ (cs : List Int) (x : Lx), x.Wf → x.pos + cs.length ≤ x.d.length → (Lx.scan x cs).Wf
  | [], x, h, _ => h.as rfl rfl rfl
  | c :: cs, x, h, hp => by
    have hp' : x.pos + cs.length + 1 ≤ x.d.length := by simpa [Nat.add_assoc] using hp
    have hs := h.start
    have h1 : ∀ y : Lx, y.d = x.d → y.pos = x.pos → y.start = x.start → y.Wf := fun y a b c => h.as a b c
    have h2 : ∀ y : Lx, y.d = x.d → y.pos = x.pos + 1 → y.start = x.start → y.Wf := fun y a b c => ⟨by rw [a]; exact h.len, by rw [a, b]; omega, by rw [b, c]; omega, by rw [a]; exact h.byte⟩
    have h3 : ∀ y : Lx, y.d = x.d → y.pos = x.pos + 1 → y.start = x.start + 1 → y.Wf := fun y a b c => ⟨by rw [a]; exact h.len, by rw [a, b]; omega, by rw [b, c]; omega, by rw [a]; exact h.byte⟩
    have hlt : ∀ y : Lx, y.d = x.d → y.pos = x.pos → y.pos < y.d.length := fun y a b => by rw [a, b]; omega
    have e1 := (sepFail_same (x := x)).d
    have e2 := sepFail_pos (x := x)
    have e3 := sepFail_start (x := x)
    simp only [Lx.scan]
    repeat' split
    · exact scan_wf cs _ (h3 _ rfl rfl rfl) (by show x.pos + 1 + cs.length ≤ x.d.length; omega)
    · exact scan_wf cs _ h.fail (by rw [fail_pos, fail_d]; omega)
    · exact scan_wf cs _ (h3 _ rfl rfl rfl) (by show x.pos + 1 + cs.length ≤ x.d.length; omega)
    · exact fetchString_wf (h1 _ e1 e2 e3) (hlt _ e1 e2)
    · exact h2 _ e1 rfl e3
    · exact h2 _ fail_d rfl fail_start
    · exact h2 _ rfl rfl rfl
    · exact fetchNumber_wf (h1 _ e1 e2 e3) (hlt _ e1 e2)
    · exact word_wf (x := { x.sepFail with kind := 5 }) (h1 _ e1 e2 e3) (hlt _ e1 e2) _
    · exact word_wf (x := { x.sepFail with kind := 4, bv := true }) (h1 _ e1 e2 e3) (hlt _ e1 e2) _
    · exact word_wf (x := { x.sepFail with kind := 4, bv := false }) (h1 _ e1 e2 e3) (hlt _ e1 e2) _
    · exact h.fail

theorem fetch_same : x.Same x.fetch := (scan_same (x.d.drop x.pos) { x with kind := 0, start := x.pos }).of rfl rfl rfl
theorem fetch_wf (h : x.Wf) : x.fetch.Wf :=
  scan_wf _ _ ⟨h.len, h.pos, Nat.le_refl _, h.byte⟩ (by have := h.pos; show x.pos + (x.d.drop x.pos).length ≤ x.d.length; simp; omega)
theorem peek_same : x.Same x.peek := by unfold Lx.peek; split; exact fetch_same; exact Lx.Same.refl x
theorem peek_wf (h : x.Wf) : x.peek.Wf := by unfold Lx.peek; split; exact fetch_wf h; exact h
end
end Go.Proofs.YtaecbclonmhbcaaGreatDoor

/- No call of reading brings the error that is added from without; kinds stay small. Plain. -/
namespace Go.Proofs.YtaecbclonmhbcaaGreatDoor

structure Lx.Fine (x : Lx) : Prop where
  kind : x.kind ≤ 5
  err : x.err ≠ .other

section
variable {x : Lx}
theorem Lx.Fine.as {y : Lx} (h : x.Fine) (hk : y.kind ≤ 5) (he : y.err = x.err) : y.Fine := ⟨hk, by rw [he]; exact h.err⟩
theorem fail_fine (h : x.Fine) : x.fail.Fine := by unfold Lx.fail; split; exact ⟨h.kind, by simp⟩; exact h
theorem sepFail_fine (h : x.Fine) : x.sepFail.Fine := by unfold Lx.sepFail; split; exact fail_fine h; exact h
theorem word_fine (h : x.Fine) (ws : List Int) : (x.word ws).Fine := by unfold Lx.word; split; exact h.as h.kind rfl; exact fail_fine h
theorem fetchNumber_fine (h : x.Fine) : x.fetchNumber.Fine := by
  unfold Lx.fetchNumber
  split
  · exact h.as h.kind rfl
  · split
    · exact h.as h.kind rfl
    · exact fail_fine (h.as h.kind rfl)
theorem fetchString_fine (h : x.Fine) : x.fetchString.Fine := by
  unfold Lx.fetchString
  split
  · exact h.as h.kind rfl
  · exact fail_fine (h.as h.kind rfl)
theorem scan_fine : ∀ (cs : List Int) (x : Lx), x.Fine → (Lx.scan x cs).Fine
  | [], x, h => ⟨h.kind, by simp [Lx.scan]⟩
  | c :: cs, x, h => by
    unfold Lx.scan
    split
    · split
      · exact scan_fine cs _ (h.as h.kind rfl)
      · exact scan_fine cs _ (fail_fine h)
    split
    · exact scan_fine cs _ (h.as h.kind rfl)
    split
    · exact fetchString_fine ((sepFail_fine h).as (by show (2 : Nat) ≤ 5; decide) rfl)
    split
    · exact (sepFail_fine h).as (by show (1 : Nat) ≤ 5; decide) rfl
    split
    · split
      · exact (fail_fine h).as (by show (1 : Nat) ≤ 5; decide) rfl
      · exact h.as (by show (1 : Nat) ≤ 5; decide) rfl
    split
    · exact fetchNumber_fine ((sepFail_fine h).as (by show (3 : Nat) ≤ 5; decide) rfl)
    split
    · exact word_fine (x := { x.sepFail with kind := 5 }) ((sepFail_fine h).as (by show (5 : Nat) ≤ 5; decide) rfl) _
    split
    · exact word_fine (x := { x.sepFail with kind := 4, bv := true }) ((sepFail_fine h).as (by show (4 : Nat) ≤ 5; decide) rfl) _
    split
    · exact word_fine (x := { x.sepFail with kind := 4, bv := false }) ((sepFail_fine h).as (by show (4 : Nat) ≤ 5; decide) rfl) _
    · exact fail_fine h
theorem fetch_fine (h : x.Fine) : x.fetch.Fine := scan_fine _ _ (h.as (by show (0 : Nat) ≤ 5; decide) rfl)
theorem peek_fine (h : x.Fine) : x.peek.Fine := by unfold Lx.peek; split; exact fetch_fine h; exact h
theorem consume_fine (h : x.Fine) : x.consume.Fine := h.as (by show (0 : Nat) ≤ 5; decide) rfl
end
end Go.Proofs.YtaecbclonmhbcaaGreatDoor
