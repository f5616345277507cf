/- isTokenEnd, and the words null, true, false. bytes.IndexByte and findStringLen. findStringLen. -/
import Derived.Test.YtaecbclonmhbcaaGreatDoorG01
import Derived.Lib.BytesEntry
set_option linter.unusedVariables false
set_option linter.unusedSimpArgs false
/- isTokenEnd, and the words null, true, false. -/
namespace Go.Proofs.YtaecbclonmhbcaaGreatDoor
open Go.RowKit

/-! ### Plain -/
theorem getD_drop (l : List Int) (p i : Nat) : (l.drop p).getD i 0 = l.getD (p + i) 0 := by simp [List.getD]

theorem drop_cons_getD (l : List Int) (p : Nat) (h : p < l.length) : l.drop p = l.getD p 0 :: l.drop (p + 1) := by
  rw [List.drop_eq_getElem_cons h]; simp [List.getD, List.getElem?_eq_getElem h]

theorem wordAt3_short (d : List Int) (p : Nat) (a b c : Int) (h : d.length < p + 4) : wordAt d p [a, b, c] = false := by
  have : ((d.drop (p + 1)).take 3).length < 3 := by simp; omega
  simp only [wordAt, List.length_cons, List.length_nil, Nat.zero_add, Nat.reduceAdd, Bool.and_eq_false_imp, beq_iff_eq]
  intro he; rw [he] at this; simp at this
theorem wordAt3 (d : List Int) (p : Nat) (a b c : Int) (h : p + 4 ≤ d.length) :
    wordAt d p [a, b, c] = (d.getD (p + 1) 0 == a && (d.getD (p + 2) 0 == b && (d.getD (p + 3) 0 == c && (decide (p + 4 = d.length) || isEndB (d.getD (p + 4) 0))))) := by
  have h1 : d.drop (p + 1) = d.getD (p + 1) 0 :: d.getD (p + 2) 0 :: d.getD (p + 3) 0 :: d.drop (p + 4) := by
    rw [drop_cons_getD d (p + 1) (by omega), drop_cons_getD d (p + 2) (by omega), drop_cons_getD d (p + 3) (by omega)]
  have h2 : headEnd (d.drop (p + 4)) = (decide (p + 4 = d.length) || isEndB (d.getD (p + 4) 0)) := by
    by_cases he : p + 4 = d.length
    · rw [List.drop_eq_nil_of_le (by omega)]; simp [he, headEnd]
    · rw [drop_cons_getD d (p + 4) (by omega)]; simp [he, headEnd]
  simp only [wordAt, h1, List.length_cons, List.length_nil, Nat.zero_add, Nat.reduceAdd, List.take_succ_cons, List.take_zero]
  rw [show p + 1 + 3 = p + 4 from by omega, h2]
  simp [Bool.and_assoc]

theorem wordAt4_short (d : List Int) (p : Nat) (a b c e : Int) (h : d.length < p + 5) : wordAt d p [a, b, c, e] = false := by
  have : ((d.drop (p + 1)).take 4).length < 4 := by simp; omega
  simp only [wordAt, List.length_cons, List.length_nil, Nat.zero_add, Nat.reduceAdd, Bool.and_eq_false_imp, beq_iff_eq]
  intro he; rw [he] at this; simp at this
theorem wordAt4 (d : List Int) (p : Nat) (a b c e : Int) (h : p + 5 ≤ d.length) :
    wordAt d p [a, b, c, e] = (d.getD (p + 1) 0 == a && (d.getD (p + 2) 0 == b && (d.getD (p + 3) 0 == c && (d.getD (p + 4) 0 == e && (decide (p + 5 = d.length) || isEndB (d.getD (p + 5) 0)))))) := by
  have h1 : d.drop (p + 1) = d.getD (p + 1) 0 :: d.getD (p + 2) 0 :: d.getD (p + 3) 0 :: d.getD (p + 4) 0 :: d.drop (p + 5) := by
    rw [drop_cons_getD d (p + 1) (by omega), drop_cons_getD d (p + 2) (by omega), drop_cons_getD d (p + 3) (by omega), drop_cons_getD d (p + 4) (by omega)]
  have h2 : headEnd (d.drop (p + 5)) = (decide (p + 5 = d.length) || isEndB (d.getD (p + 5) 0)) := by
    by_cases he : p + 5 = d.length
    · rw [List.drop_eq_nil_of_le (by omega)]; simp [he, headEnd]
    · rw [drop_cons_getD d (p + 5) (by omega)]; simp [he, headEnd]
  simp only [wordAt, h1, List.length_cons, List.length_nil, Nat.zero_add, Nat.reduceAdd, List.take_succ_cons, List.take_zero]
  rw [show p + 1 + 4 = p + 5 from by omega, h2]
  simp [Bool.and_assoc]

/-! ### isTokenEnd -/
set_option maxHeartbeats 1000000 in
theorem isEnd_any (c : Int) (w : World) : Calls Tryz.prog 145 #[.int .u8 c] w fun e w' => e = .returned (.bool (isEndB c)) ∧ w = w' := by
  by_cases h0 : c = 32
  · subst h0; go_enter Tryz.func145, Tryz.ntmps145; go_wp2; go_ret; exact ⟨rfl, rfl⟩
  by_cases h1 : c = 9
  · subst h1; go_enter Tryz.func145, Tryz.ntmps145; go_wp2; go_ret; exact ⟨rfl, rfl⟩
  by_cases h2 : c = 13
  · subst h2; go_enter Tryz.func145, Tryz.ntmps145; go_wp2; go_ret; exact ⟨rfl, rfl⟩
  by_cases h3 : c = 10
  · subst h3; go_enter Tryz.func145, Tryz.ntmps145; go_wp2; go_ret; exact ⟨rfl, rfl⟩
  by_cases h4 : c = 91
  · subst h4; go_enter Tryz.func145, Tryz.ntmps145; go_wp2; go_ret; exact ⟨rfl, rfl⟩
  by_cases h5 : c = 93
  · subst h5; go_enter Tryz.func145, Tryz.ntmps145; go_wp2; go_ret; exact ⟨rfl, rfl⟩
  by_cases h6 : c = 123
  · subst h6; go_enter Tryz.func145, Tryz.ntmps145; go_wp2; go_ret; exact ⟨rfl, rfl⟩
  by_cases h7 : c = 125
  · subst h7; go_enter Tryz.func145, Tryz.ntmps145; go_wp2; go_ret; exact ⟨rfl, rfl⟩
  by_cases h8 : c = 44
  · subst h8; go_enter Tryz.func145, Tryz.ntmps145; go_wp2; go_ret; exact ⟨rfl, rfl⟩
  by_cases h9 : c = 58
  · subst h9; go_enter Tryz.func145, Tryz.ntmps145; go_wp2; go_ret; exact ⟨rfl, rfl⟩
  go_enter Tryz.func145, Tryz.ntmps145
  go_wp2
  go_ret
  exact ⟨rfl, rfl⟩

theorem isEnd_quiet (c : Int) (w : World) (n : Nat) : Calls Tryz.prog 145 #[.int .u8 c] (w.drewN n) fun e w' => e = .returned (.bool (isEndB c)) ∧ ∃ m, w' = w.drewN m :=
  (isEnd_any c (w.drewN n)).mono fun _ _ ⟨he, hw⟩ => ⟨he, n, hw.symm⟩

/-! ### The errors at whatever state -/
section
variable {w : World} {b : Nat} {ae : Sur} {ao : Addr} {x : Lx} {vd vt ve vm : Value}

/-- What every method asks of the state, and keeps. -/
structure Lx.Wf (x : Lx) : Prop where
  len : x.d.length ≤ 1073741824
  pos : x.pos ≤ x.d.length
  start : x.start ≤ x.pos
  byte : ∀ i, 0 ≤ x.d.getD i 0 ∧ x.d.getD i 0 ≤ 255

theorem errParse_any (h : LexAt w b ae ao x vd vt ve vm) (hw : x.Wf) (s : ByteArray) :
    Calls Tryz.prog 117 #[.pointer (some ⟨b, 0, none⟩), .string s] w fun e w' => e = .returned (.tuple #[]) ∧ Failed w b ae ao x.fail vd vt vm w' := by
  unfold Lx.fail
  cases hx : x.ok with
  | false =>
    refine (errParse_held h hx s).mono ?_
    rintro e w' ⟨he, rfl⟩
    exact ⟨he, _, h, Kept.refl b w⟩
  | true =>
    by_cases hs : x.d.length - x.pos ≤ 13
    · exact errParse_short h hx s hw.len hw.pos hs
    · exact errParse_long h hx s hw.len (by omega)

set_option maxHeartbeats 400000 in
theorem errSyntax_any (h : LexAt w b ae ao x vd vt ve vm) (hw : x.Wf) :
    Calls Tryz.prog 118 #[.pointer (some ⟨b, 0, none⟩)] w fun e w' => e = .returned (.tuple #[]) ∧ Failed w b ae ao x.fail vd vt vm w' := by
  have C := errParse_any h hw
  go_enter Tryz.func118, Tryz.ntmps118
  go_wp2_with (go_at_call 117; refine (C _).mono ?_; rintro e w' ⟨rfl, hf⟩)
  go_end0
  exact ⟨rfl, hf⟩
end
end Go.Proofs.YtaecbclonmhbcaaGreatDoor

/- bytes.IndexByte and findStringLen. -/
namespace Go.Proofs.YtaecbclonmhbcaaGreatDoor
open Go.RowKit

/-! ### Plain -/
def idxI (c : Int) (xs : List Int) : Int := match idxOf c xs with | some i => (i : Int) | none => -1

def Bytes (xs : List Int) : Prop := ∀ i, 0 ≤ xs.getD i 0 ∧ xs.getD i 0 ≤ 255
theorem Bytes.drop {xs : List Int} (h : Bytes xs) (n : Nat) : Bytes (xs.drop n) := fun i => by rw [getD_drop]; exact h _
theorem Bytes.tail {x : Int} {xs : List Int} (h : Bytes (x :: xs)) : Bytes xs := fun i => by simpa using h (i + 1)

theorem beq_byte {x c : Int} (hx : 0 ≤ x ∧ x ≤ 255) (hc : 0 ≤ c ∧ c ≤ 255) : (UInt8.ofNat x.toNat == c.toNat.toUInt8) = (x == c) := by
  rw [Bool.eq_iff_iff]
  simp only [beq_iff_eq]
  constructor
  · intro h
    have := congrArg UInt8.toNat h
    simp at this
    omega
  · rintro rfl; rfl

theorem indexByte_idxI (c : Int) (hc : 0 ≤ c ∧ c ≤ 255) : ∀ xs : List Int, Bytes xs → Lib.indexByte (Lib.bytesOf xs) c.toNat.toUInt8 = idxI c xs
  | [], _ => rfl
  | x :: xs, h => by
    have ih := indexByte_idxI c hc xs h.tail
    have hx : 0 ≤ x ∧ x ≤ 255 := by simpa using h 0
    simp only [Lib.bytesOf, List.map_cons, Lib.indexByte, idxI, idxOf] at ih ⊢
    rw [beq_byte hx hc]
    by_cases he : x = c
    · simp [he]
    · simp only [beq_eq_false_iff_ne.2 he, Bool.false_eq_true, if_false]
      rw [ih]
      cases idxOf c xs with
      | none => rfl
      | some i => simp <;> omega

theorem idxOf_lt {c : Int} : ∀ {xs : List Int} {i : Nat}, idxOf c xs = some i → i < xs.length ∧ xs.getD i 0 = c
  | [], i, h => by simp [idxOf] at h
  | x :: xs, i, h => by
    simp only [idxOf] at h
    by_cases he : x = c
    · simp [he] at h; subst h; simp [he]
    · simp only [beq_eq_false_iff_ne.2 he, Bool.false_eq_true, if_false] at h
      cases hx : idxOf c xs with
      | none => rw [hx] at h; simp at h
      | some j =>
        rw [hx] at h; simp at h; subst h
        obtain ⟨h1, h2⟩ := idxOf_lt hx
        simp at h2 ⊢
        exact ⟨h1, h2⟩

/-- Backslashes at the end, counted from the end. -/
theorem slashes_snoc (xs : List Int) (c : Int) : slashes (xs ++ [c]) = if c == 92 then slashes xs + 1 else 0 := by
  induction xs with
  | nil => by_cases h : c = 92 <;> simp [slashes, h]
  | cons x xs ih =>
    simp only [List.cons_append, slashes, List.all_append, List.all_cons, List.all_nil, Bool.and_true, List.length_append, List.length_cons, List.length_nil]
    rw [ih]
    by_cases h : c = 92
    · simp only [h, beq_self_eq_true, Bool.and_true, if_true]
      split <;> simp
    · simp [h]
theorem slashes_le : ∀ xs : List Int, slashes xs ≤ xs.length
  | [] => Nat.le_refl _
  | x :: xs => by
    simp only [slashes]; split
    · simp
    · have := slashes_le xs; simp; omega
theorem take_snoc' (xs : List Int) (k : Nat) (h : k < xs.length) : xs.take (k + 1) = xs.take k ++ [xs.getD k 0] := by
  rw [List.take_succ_eq_append_getElem h]; simp [List.getD, List.getElem?_eq_getElem h]

/-- The count that findStringLen keeps: of the backslashes ahead of place i, n have been seen. -/
def Seen (xs : List Int) (i n : Nat) : Prop := n ≤ i ∧ slashes (xs.take i) = slashes (xs.take (i - n)) + n
theorem Seen.start (xs : List Int) (i : Nat) : Seen xs i 0 := ⟨Nat.zero_le _, rfl⟩
theorem Seen.next {xs : List Int} {i n : Nat} (h : Seen xs i n) (hi : i ≤ xs.length) (hn : n < i) (hc : xs.getD (i - n - 1) 0 = 92) : Seen xs i (n + 1) := by
  refine ⟨hn, ?_⟩
  rw [h.2]
  have e : i - n = (i - (n + 1)) + 1 := by omega
  rw [e, take_snoc' xs _ (by omega), show i - (n + 1) = i - n - 1 from by omega, slashes_snoc, hc]
  simp; omega
theorem Seen.stop {xs : List Int} {i n : Nat} (h : Seen xs i n) (hi : i ≤ xs.length) (hn : n < i) (hc : xs.getD (i - n - 1) 0 ≠ 92) : slashes (xs.take i) = n := by
  rw [h.2]
  have e : i - n = (i - n - 1) + 1 := by omega
  rw [e, take_snoc' xs _ (by omega), slashes_snoc, if_neg (by simpa using hc)]
  omega
theorem Seen.all {xs : List Int} {i : Nat} (h : Seen xs i i) : slashes (xs.take i) = i := by
  rw [h.2]; simp [slashes]

/-! ### IndexByte -/
set_option maxHeartbeats 1000000 in
set_option maxRecDepth 100000 in
theorem indexByte_at (b o n cap : Nat) (xs : List Int) (cv : Int) (w : World) (hx : xs.length = n) (hB : Bytes xs) (hcv : 0 ≤ cv ∧ cv ≤ 255)
    (hc : ∀ i, i < n → w.cell? ⟨b, o + i, none⟩ = some (.int .u8 (xs.getD i 0))) :
    Calls Tryz.prog 132 #[.slice (some ⟨b, o, none⟩) n cap, .int .u8 cv] w fun e w' => e = .returned (.int .i64 (idxI cv xs)) ∧ w = w' := by
  rw [← indexByte_idxI cv hcv xs hB]
  have hrun := Lib.run_indexByteSlice (P := Tryz.prog) w b o n cap xs hx hc cv
  have HH := Lib.hid hrun
  have HC := Lib.hid hc
  clear hc hrun
  go_enter Tryz.func132, Tryz.ntmps132
  go_wp2
  rw [run_callFunc_extern Tryz.func154 (by kernel_rfl) (by kernel_rfl) (by kernel_rfl) (e := Extern.BytealgIndexByte.indexByte) (by kernel_rfl), HH.out]
  simp only [Result.andThen]
  rw [Oper.upon_value]
  go_wp2
  go_ret
  exact ⟨rfl, rfl⟩

set_option maxHeartbeats 1000000 in
set_option maxRecDepth 100000 in
theorem indexByte_none (cv : Int) (w : World) :
    Calls Tryz.prog 132 #[.slice none 0 0, .int .u8 cv] w fun e w' => e = .returned (.int .i64 (-1)) ∧ w = w' := by
  go_enter Tryz.func132, Tryz.ntmps132
  go_wp2
  rw [run_callFunc_extern Tryz.func154 (by kernel_rfl) (by kernel_rfl) (by kernel_rfl) (e := Extern.BytealgIndexByte.indexByte) (by kernel_rfl), Lib.run_indexByteNil w 0 0 cv]
  simp only [Result.andThen]
  rw [Oper.upon_value]
  go_wp2
  go_ret
  exact ⟨rfl, rfl⟩
end Go.Proofs.YtaecbclonmhbcaaGreatDoor

/- findStringLen. -/
namespace Go.Proofs.YtaecbclonmhbcaaGreatDoor
open Go.RowKit

theorem strLen_fuel : ∀ (f g : Nat) (data : List Int) (len : Nat), data.length < f → data.length < g → strLen f data len = strLen g data len
  | 0, _, _, _, h, _ => absurd h (Nat.not_lt_zero _)
  | _ + 1, 0, _, _, _, h => absurd h (Nat.not_lt_zero _)
  | f + 1, g + 1, data, len, hf, hg => by
    simp only [strLen]
    cases h : idxOf 34 data with
    | none => rfl
    | some i =>
      have hi := (idxOf_lt h).1
      simp only
      split
      · rfl
      · exact strLen_fuel f g _ _ (by simp; omega) (by simp; omega)

def StrRel (xs : List Int) (k : Nat) : Prop := strLen (xs.length + 1) xs 0 = strLen (xs.length - k + 1) (xs.drop k) k
theorem StrRel.start (xs : List Int) : StrRel xs 0 := rfl
theorem StrRel.none {xs : List Int} {k : Nat} (h : StrRel xs k) (hi : idxOf 34 (xs.drop k) = none) : strLen (xs.length + 1) xs 0 = (false, xs.length - k) := by
  rw [h]; simp [strLen, hi]
theorem StrRel.yes {xs : List Int} {k i : Nat} (h : StrRel xs k) (hi : idxOf 34 (xs.drop k) = some i) (hs : slashes ((xs.drop k).take i) % 2 = 0) : strLen (xs.length + 1) xs 0 = (true, k + i) := by
  rw [h]; simp [strLen, hi, hs]
theorem StrRel.no {xs : List Int} {k i : Nat} (h : StrRel xs k) (hi : idxOf 34 (xs.drop k) = some i) (hs : slashes ((xs.drop k).take i) % 2 = 1) : StrRel xs (k + (i + 1)) := by
  have hl := (idxOf_lt hi).1
  simp at hl
  unfold StrRel
  rw [h, strLen, hi]
  simp only [hs]
  rw [if_neg (by decide), List.drop_drop]
  rw [show k + i + 1 = k + (i + 1) from by omega]
  exact strLen_fuel _ _ _ _ (by simp <;> omega) (by simp <;> omega)

theorem slashes_none {xs : List Int} {i : Nat} (hi : i ≤ xs.length) (h : i = 0 ∨ xs.getD (i - 1) 0 ≠ 92) : slashes (xs.take i) % 2 = 0 := by
  rcases h with rfl | h
  · simp [slashes]
  · rcases Nat.eq_zero_or_pos i with rfl | h0
    · simp [slashes]
    · have := (Seen.start xs i).stop hi h0 (by simpa using h)
      rw [this]

set_option maxHeartbeats 4000000 in
set_option maxRecDepth 100000 in
theorem findStringLen_at (b o n cap : Nat) (xs : List Int) (w : World) (hx : xs.length = n) (hn : n ≤ 1073741824) (hB : Bytes xs)
    (hc : ∀ i, i < n → w.cell? ⟨b, o + i, none⟩ = some (.int .u8 (xs.getD i 0))) (hcap : n ≤ cap) :
    Calls Tryz.prog 144 #[.slice (some ⟨b, o, none⟩) n cap] w fun e w' => e = .returned (.tuple #[.bool (strLen (n + 1) xs 0).1, .int .i64 (strLen (n + 1) xs 0).2]) ∧ w = w' := by
  have HX := Lib.hid hx
  have HC := Lib.hid hc
  have HB := Lib.hid hB
  clear hx hc hB
  go_enter Tryz.func144, Tryz.ntmps144
  go_wp2
  go_loop [0, 3] (fun v l => ∃ (k o' c' : Nat), k ≤ n ∧ v = .slice (some ⟨b, o', none⟩) (n - k) c' ∧ n - k ≤ c' ∧ (n = k ∨ o' = o + k) ∧ l = .int .i64 k ∧ StrRel xs k)
    (fun _ l => n - (intOf l).toNat)
  case atStart => exact ⟨0, o, cap, Nat.zero_le _, rfl, hcap, .inr rfl, rfl, StrRel.start _⟩
  case round =>
    obtain ⟨k, o', c', hkn, rfl, hkc, ho, rfl, hrel⟩ := hrel
    have HR := Lib.hid hrel
    have HO := Lib.hid ho
    clear hrel ho
    have hcells : RowKit.Hid (∀ i, i < n - k → w.cell? ⟨b, o' + i, none⟩ = some (.int .u8 ((xs.drop k).getD i 0))) := fun i hi => by
      rcases HO.out with h | h
      · omega
      · rw [h, getD_drop, ← HC.out (k + i) (by omega)]; simp [Nat.add_assoc]
    have hlen : RowKit.Hid ((xs.drop k).length = n - k) := by show _ = _; rw [List.length_drop, HX.out]
    have HI : RowKit.Hid (∀ w' : World, w' = w → Calls Tryz.prog 132 #[.slice (some ⟨b, o', none⟩) (n - k) c', .int .u8 34] w' fun e w'' => e = .returned (.int .i64 (idxI 34 (xs.drop k))) ∧ w' = w'') :=
      fun w' hw' => by subst hw'; exact indexByte_at b o' (n - k) c' (xs.drop k) 34 w' hlen.out (HB.out.drop k) (by omega) hcells.out
    cases hi : idxOf 34 (xs.drop k) with
    | none =>
      have e1 : idxI 34 (xs.drop k) = -1 := by simp [idxI, hi]
      have HF := Lib.hid (HR.out.none hi)
      clear hi
      have hk1 : n - k ≤ n := by omega
      go_wp2_with (go_at_call 132; refine (HI.out _ rfl).mono ?_; rintro e w' ⟨rfl, rfl⟩)
      go_ret2
      have hf := HF.out
      rw [HX.out] at hf
      rw [hf]
      exact ⟨rfl, rfl⟩
    | some i =>
      have e1 : idxI 34 (xs.drop k) = (i : Int) := by simp [idxI, hi]
      have hil := (idxOf_lt hi).1
      rw [hlen.out] at hil
      have HQ := Lib.hid hi
      clear hi
      rcases Nat.eq_zero_or_pos i with h0 | h0
      · subst h0
        have e1' : idxI 34 (xs.drop k) = 0 := e1
        have HF := Lib.hid (HR.out.yes HQ.out (slashes_none (by omega) (.inl rfl)))
        clear e1
        go_wp2_with (go_at_call 132; refine (HI.out _ rfl).mono ?_; rintro e w' ⟨rfl, rfl⟩)
        go_ret2
        have hf := HF.out
        rw [HX.out] at hf
        rw [hf]
        exact ⟨rfl, rfl⟩
      · have g1 : ((i : Int) == -1) = false := beq_eq_false_iff_ne.2 (by omega)
        have g2 : ((i : Int) == 0) = false := beq_eq_false_iff_ne.2 (by omega)
        have g3 : decide ((0 : Int) < (i : Int)) = true := decide_eq_true (by omega)
        have hu := hcells.out (i - 1) (by omega)
        generalize hcc : (xs.drop k).getD (i - 1) 0 = c at hu
        by_cases h92 : c = 92
        case neg =>
          have HF := Lib.hid (HR.out.yes HQ.out (slashes_none (by rw [hlen.out]; omega) (.inr (by rw [hcc]; exact h92))))
          have m1 : (c == 92) = false := by simp [h92]
          have m2 : (c != 92) = true := by simp [h92]
          clear hcc h92
          go_wp2_with (go_at_call 132; refine (HI.out _ rfl).mono ?_; rintro e w' ⟨rfl, rfl⟩)
          go_ret2
          have hf := HF.out
          rw [HX.out] at hf
          rw [hf]
          exact ⟨rfl, rfl⟩
        case pos =>
          subst h92
          have HS1 := Lib.hid ((Seen.start (xs.drop k) i).next (by rw [hlen.out]; omega) h0 (by simpa using hcc))
          clear hcc
          go_wp2_with (go_at_call 132; refine (HI.out _ rfl).mono ?_; rintro e w' ⟨rfl, rfl⟩)
          go_loop [5] (fun c => ∃ j : Nat, c = .int .i64 j ∧ 1 ≤ j ∧ j ≤ i ∧ Seen (xs.drop k) i j) (fun c => i - (intOf c).toNat)
          case atStart => exact ⟨1, rfl, Nat.le_refl _, h0, HS1.out⟩
          case round =>
            obtain ⟨j, rfl, hj1, hji, hseen⟩ := hrel
            have HSE := Lib.hid hseen
            clear hseen hu
            by_cases hlt : j < i
            case neg =>
              obtain rfl : j = i := by omega
              have HSL := Lib.hid HSE.out.all
              rcases Nat.mod_two_eq_zero_or_one j with hpar | hpar
              · have HF := Lib.hid (HR.out.yes HQ.out (by rw [HSL.out]; exact hpar))
                have hpb : ((j : Int) % 2 == 0) = true := by simp; omega
                clear hpar
                go_wp2
                go_ret2
                have hf := HF.out
                rw [HX.out] at hf
                rw [hf]
                exact ⟨rfl, rfl⟩
              · have HF := Lib.hid (HR.out.no HQ.out (by rw [HSL.out]; exact hpar))
                have hpb : ((j : Int) % 2 == 0) = false := by simp; omega
                clear hpar
                by_cases hci : c' = j + 1
                · have HCI := Lib.hid hci
                  have hci1 : c' ≤ j + 1 := by omega
                  have hci2 : j + 1 ≤ c' := by omega
                  clear hci
                  go_wp2
                  go_round
                  case rel => exact ⟨k + (j + 1), _, _, by omega, by rw [show n - (k + (j + 1)) = n - k - (j + 1) from by omega], by omega, .inl (by omega), by go_num, HF.out⟩
                  case measure => simp [intOf]; omega
                · go_wp2
                  go_round
                  case rel => exact ⟨k + (j + 1), _, _, by omega, by rw [show n - (k + (j + 1)) = n - k - (j + 1) from by omega], by omega, (HO.out.elim (fun h => .inl (by omega)) (fun h => .inr (by omega))), by go_num, HF.out⟩
                  case measure => simp [intOf]; omega
            case pos =>
              have hv := hcells.out (i - j - 1) (by omega)
              generalize hcc : (xs.drop k).getD (i - j - 1) 0 = c at hv
              have tn : ((i : Int) - j - 1).toNat = i - j - 1 := by omega
              by_cases h92 : c = 92
              case pos =>
                subst h92
                have HS2 := Lib.hid (HSE.out.next (by rw [hlen.out]; omega) hlt (by simpa using hcc))
                clear hcc
                go_wp2
                go_round
                case rel => exact ⟨j + 1, by go_num, by omega, by omega, HS2.out⟩
                case measure => simp [intOf]; omega
              case neg =>
                have HSL := Lib.hid (HSE.out.stop (by rw [hlen.out]; omega) hlt (by rw [hcc]; exact h92))
                have m1 : (c == 92) = false := by simp [h92]
                clear hcc h92
                rcases Nat.mod_two_eq_zero_or_one j with hpar | hpar
                · have HF := Lib.hid (HR.out.yes HQ.out (by rw [HSL.out]; exact hpar))
                  have hpb : ((j : Int) % 2 == 0) = true := by simp; omega
                  clear hpar
                  go_wp2
                  go_ret2
                  have hf := HF.out
                  rw [HX.out] at hf
                  rw [hf]
                  exact ⟨rfl, rfl⟩
                · have HF := Lib.hid (HR.out.no HQ.out (by rw [HSL.out]; exact hpar))
                  have hpb : ((j : Int) % 2 == 0) = false := by simp; omega
                  clear hpar
                  by_cases hci : c' = i + 1
                  · have HCI := Lib.hid hci
                    have hci1 : c' ≤ i + 1 := by omega
                    have hci2 : i + 1 ≤ c' := by omega
                    clear hci
                    go_wp2
                    go_round
                    case rel => exact ⟨k + (i + 1), _, _, by omega, by rw [show n - (k + (i + 1)) = n - k - (i + 1) from by omega], by omega, .inl (by omega), by go_num, HF.out⟩
                    case measure => simp [intOf]; omega
                  · go_wp2
                    go_round
                    case rel => exact ⟨k + (i + 1), _, _, by omega, by rw [show n - (k + (i + 1)) = n - k - (i + 1) from by omega], by omega, (HO.out.elim (fun h => .inl (by omega)) (fun h => .inr (by omega))), by go_num, HF.out⟩
                    case measure => simp [intOf]; omega
end Go.Proofs.YtaecbclonmhbcaaGreatDoor
