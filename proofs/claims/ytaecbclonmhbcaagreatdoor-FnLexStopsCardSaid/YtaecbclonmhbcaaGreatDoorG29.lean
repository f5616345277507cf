/- errInvalidToken of a lexer with one error. The unescaping of a string token, as plain functions on lists of bytes. No program, no memory. jlexer.getu4, decodeEscape: what they tell. utf16.IsSurrogate, utf16.DecodeRune, jlexer.decodeEscape. Printed by gen_desc.py. -/
import Derived.Test.YtaecbclonmhbcaaGreatDoorG04
import Derived.Test.YtaecbclonmhbcaaGreatDoorG01
import Derived.Lib.RuneBytes
import Derived.Test.YtaecbclonmhbcaaGreatDoorG02
import Derived.Laws.BitsLemmas
set_option linter.unusedVariables false
set_option linter.unusedSimpArgs false
/- errInvalidToken of a lexer with one error. -/
namespace Go.Proofs.YtaecbclonmhbcaaGreatDoor
open Go.RowKit

section
variable {w : World} {b : Nat} {ae : Sur} {ao : Addr} {x : Lx} {vd vt ve vm : Value}

theorem LexAt.errNil (h : LexAt w b ae ao x vd vt ve vm) (hx : x.ok = true) : ve = .nilIface := by
  have he := h.err
  have hx' : x.err.isNil = true := hx
  cases hxe : x.err <;> rw [hxe] at he hx' <;> simp only [ErrAt, Er.isNil, Bool.false_eq_true] at he hx'
  exact he

theorem LexAt.errSome (h : LexAt w b ae ao x vd vt ve vm) (hx : x.ok = false) : ∃ t v, ve = .iface t v := by
  have he := h.err
  have hx' : x.err.isNil = false := hx
  cases hxe : x.err <;> rw [hxe] at he hx' <;> simp only [ErrAt, Er.isNil, Bool.true_eq_false] at he hx'
  · exact ⟨_, _, he⟩
  · exact ⟨_, _, he⟩
  · obtain ⟨k, s, t, rfl, -, -⟩ := he; exact ⟨_, _, rfl⟩

/-- A new error, as the walk lays it where no draw stands between. -/
theorem LexAt.newErr' (h : LexAt w b ae ao x vd vt ve vm) (s t : ByteArray) (n : Nat) :
    LexAt ((w.setCell ⟨b, 11, none⟩ (.iface 60 (.pointer (some ⟨w.heap.size, 0, none⟩)))).alloc (.cells #[.string s, .int .i64 n, .string t] 66)) b ae ao { x with err := .lex n } vd vt (.iface 60 (.pointer (some ⟨w.heap.size, 0, none⟩))) vm := by
  have hb := h.lt
  have hk := ((Kept.refl b w).setCell 11 (.iface 60 (.pointer (some ⟨w.heap.size, 0, none⟩)))).alloc (.cells #[.string s, .int .i64 n, .string t] 66)
  refine h.into hk rfl ?_ (h.tok.kept hk) ⟨w.heap.size, s, t, rfl, h.fresh, ?_⟩
  · rw [heap_alloc_lt (by simpa using hb), heap_setCell h.heap 11 _]; rfl
  · have := heap_alloc_new (w.setCell ⟨b, 11, none⟩ (.iface 60 (.pointer (some ⟨w.heap.size, 0, none⟩)))) (.cells #[.string s, .int .i64 n, .string t] 66)
    rw [← this]; simp

set_option maxHeartbeats 400000 in
theorem errInvalid_held (h : LexAt w b ae ao x vd vt ve vm) (hx : x.ok = false) (s : ByteArray) :
    Calls Tryz.prog 103 #[.pointer (some ⟨b, 0, none⟩), .string s] w fun e w' => e = .returned (.tuple #[]) ∧ w = w' := by
  obtain ⟨t, v, rfl⟩ := h.errSome hx
  have c11 := h.c11
  clear h
  go_enter Tryz.func103, Tryz.ntmps103
  go_wp2
  (try simp only [Exit.inBlock, Exit.then])
  refine bodyPost_ret (results_none rfl _ _ _) rfl ?_
  exact ⟨rfl, rfl⟩

set_option maxHeartbeats 1000000 in
theorem errInvalid_short (p : Option Addr) (cap : Nat) (h : LexAt w b ae ao x vd (.slice p x.tok.length cap) ve vm) (hx : x.ok = true) (hm : x.multi = false) (s : ByteArray) (hs : s.size ≤ 1000) (hl : x.tok.length ≤ 13) :
    Calls Tryz.prog 103 #[.pointer (some ⟨b, 0, none⟩), .string s] w fun e w' => e = .returned (.tuple #[]) ∧ Failed w b ae ao { x with err := .lex x.pos } vd (.slice p x.tok.length cap) vm w' := by
  have c11 := h.c11
  have c2 := h.c2
  have c6 := h.c6
  have c10 := h.c10
  rw [hm] at c10
  have f11 := h.free 11
  have hlt := h.lt
  rw [h.errNil hx] at c11
  have hd : decide ((x.tok.length : Int) ≤ 13) = true := decide_eq_true (by omega)
  have hcv0 := run_bytes_str h.tok
  have hcv := hcv0 0
  have h0 : w.drewN 0 = w := rfl
  rw [h0] at hcv
  have H := Lib.hid h
  clear h hx hm hcv0 h0
  go_enter Tryz.func103, Tryz.ntmps103
  go_wp2
  all_goals go_end0
  all_goals exact ⟨rfl, _, H.out.newErr' _ _ _, ((Kept.refl b w).setCell 11 _).alloc _⟩

set_option maxHeartbeats 1000000 in
theorem errInvalid_long (bt o cap : Nat) (h : LexAt w b ae ao x vd (.slice (some ⟨bt, o, none⟩) x.tok.length cap) ve vm) (hx : x.ok = true) (hm : x.multi = false) (s : ByteArray) (hs : s.size ≤ 1000) (hl : 13 < x.tok.length) (hcap : x.tok.length ≤ cap)
    (hcell : ∀ i, i < x.tok.length → w.cell? ⟨bt, o + i, none⟩ = some (.int .u8 (x.tok.getD i 0))) :
    Calls Tryz.prog 103 #[.pointer (some ⟨b, 0, none⟩), .string s] w fun e w' => e = .returned (.tuple #[]) ∧ Failed w b ae ao { x with err := .lex x.pos } vd (.slice (some ⟨bt, o, none⟩) x.tok.length cap) vm w' := by
  have c11 := h.c11
  have c2 := h.c2
  have c6 := h.c6
  have c10 := h.c10
  rw [hm] at c10
  have f11 := h.free 11
  have hlt := h.lt
  rw [h.errNil hx] at c11
  have hd : decide ((x.tok.length : Int) ≤ 13) = false := decide_eq_false (by omega)
  obtain ⟨sv, hcv, hsz⟩ : ∃ sv : ByteArray, (∀ (cp : Nat) (dst : TypeId), Tryz.prog.underlying dst = some .string → (convert 22 dst (.slice (some ⟨bt, o, none⟩) 10 cp)).run Tryz.prog w = .ok (.string sv) w) ∧ sv.size ≤ 10 :=
    ⟨strOfNums (x.tok.take 10), fun cp =>
    run_convert_bytes_arg w 22 5 Tryz.underlying22 Tryz.underlying5 bt o 10 cp (x.tok.take 10) (by simp; omega) (fun i hi => by
      rw [hcell i (by omega)]
      simp [List.getD, hi]), by rw [strOfNums_size]; simp; omega⟩
  have hc10 : (10 : Int) ≤ (cap : Int) := by omega
  have H := Lib.hid h
  clear h hx hm hcell
  go_enter Tryz.func103, Tryz.ntmps103
  go_wp2
  all_goals go_end0
  all_goals exact ⟨rfl, _, H.out.newErr' _ _ _, ((Kept.refl b w).setCell 11 _).alloc _⟩

theorem errInvalid_any (h : LexAt w b ae ao x vd vt ve vm) (hm : x.multi = false) (s : ByteArray) (hs : s.size ≤ 1000) :
    Calls Tryz.prog 103 #[.pointer (some ⟨b, 0, none⟩), .string s] w fun e w' => e = .returned (.tuple #[]) ∧ Failed w b ae ao x.fail vd vt vm w' := by
  unfold Lx.fail
  cases hx : x.ok with
  | false =>
    refine (errInvalid_held h hx s).mono ?_
    rintro e w' ⟨he, rfl⟩
    exact ⟨he, _, h, Kept.refl b w⟩
  | true =>
    rcases h.tok with ⟨h0, rfl⟩ | ⟨bt, o, cap, rfl, hc, hn, hx'⟩
    · have h1 : x.tok.length = 0 := by rw [h0]; rfl
      have := errInvalid_short none 0 (x := x) (vd := vd) (ve := ve) (vm := vm) (by rw [h1]; exact h) hx hm s hs (by omega)
      rw [h1] at this
      exact this
    · by_cases hl : x.tok.length ≤ 13
      · exact errInvalid_short _ _ h hx hm s hs hl
      · exact errInvalid_long bt o cap h hx hm s hs (by omega) hc hx'
end
end Go.Proofs.YtaecbclonmhbcaaGreatDoor

/- The unescaping of a string token, as plain functions on lists of bytes. No program, no memory. -/
namespace Go.Proofs.YtaecbclonmhbcaaGreatDoor

/-- The number of a hexadecimal digit; -1 for another sign. -/
def hexV (c : Int) : Int :=
  if 48 ≤ c ∧ c ≤ 57 then c - 48 else if 97 ≤ c ∧ c ≤ 102 then c - 87 else if 65 ≤ c ∧ c ≤ 70 then c - 55 else -1
theorem hexV_lt (c : Int) : -1 ≤ hexV c ∧ hexV c ≤ 15 := by
  unfold hexV
  split
  · omega
  · split
    · omega
    · split <;> omega

/-- Digits behind a number so far: the number, or -1. -/
def hexRow : Int → List Int → Int
  | v, [] => v
  | v, c :: cs => if hexV c < 0 then -1 else hexRow (v * 16 + hexV c) cs

theorem hexRow_bounds : ∀ (cs : List Int) (v B : Int), 0 ≤ v → v < B → -1 ≤ hexRow v cs ∧ hexRow v cs < B * 16 ^ cs.length
  | [], v, B, h0, h1 => ⟨by simp only [hexRow]; omega, by simp only [hexRow, List.length_nil, Int.pow_zero]; omega⟩
  | c :: cs, v, B, h0, h1 => by
    have hc := hexV_lt c
    simp only [hexRow]
    split
    · refine ⟨by omega, ?_⟩
      have : (0 : Int) < B * 16 ^ (c :: cs).length := Int.mul_pos (by omega) (Int.pow_pos (by decide))
      omega
    · have ih := hexRow_bounds cs (v * 16 + hexV c) (B * 16) (by omega) (by omega)
      refine ⟨ih.1, Int.lt_of_lt_of_le ih.2 ?_⟩
      rw [List.length_cons, Int.pow_succ, Int.mul_assoc, Int.mul_comm 16]
      exact Int.le_refl _

/-- getu4: the number behind \u, or -1. -/
def getu4 (s : List Int) : Int :=
  if s.length < 6 ∨ s.getD 0 0 ≠ 92 ∨ s.getD 1 0 ≠ 117 then -1 else hexRow 0 ((s.drop 2).take 4)
theorem getu4_bounds (s : List Int) : -1 ≤ getu4 s ∧ getu4 s ≤ 65535 := by
  unfold getu4
  split
  · omega
  · rename_i h
    have hl : ((s.drop 2).take 4).length = 4 := by rw [List.length_take, List.length_drop]; omega
    have := hexRow_bounds ((s.drop 2).take 4) 0 1 (by omega) (by omega)
    rw [hl] at this
    omega

/-- utf16.DecodeRune. -/
def pairR (a b : Int) : Int := if 55296 ≤ a ∧ a < 56320 ∧ 56320 ≤ b ∧ b < 57344 then (a - 55296) * 1024 + (b - 56320) + 65536 else 65533
theorem pairR_bounds (a b : Int) : 65533 ≤ pairR a b ∧ pairR a b ≤ 1114111 := by
  unfold pairR; split <;> omega
theorem pairR_bad {a b : Int} (h : pairR a b = 65533) : ¬ (55296 ≤ a ∧ a < 56320 ∧ 56320 ≤ b ∧ b < 57344) := by
  intro hh; unfold pairR at h; rw [if_pos hh] at h; omega

/-- One escape at the head of s: the letter's number, and how many bytes it takes. -/
def escOf (s : List Int) : Option (Int × Nat) :=
  let c := s.getD 1 0
  if s.length < 2 then none
  else if c = 34 ∨ c = 47 ∨ c = 92 then some (c, 2)
  else if c = 98 then some (8, 2)
  else if c = 102 then some (12, 2)
  else if c = 110 then some (10, 2)
  else if c = 114 then some (13, 2)
  else if c = 116 then some (9, 2)
  else if c = 117 then
    if getu4 s < 0 then none
    else if 55296 ≤ getu4 s ∧ getu4 s < 57344 then
      if pairR (getu4 s) (getu4 (s.drop 6)) ≠ 65533 then some (pairR (getu4 s) (getu4 (s.drop 6)), 12) else some (65533, 6)
    else some (getu4 s, 6)
  else none

theorem getu4_length {s : List Int} (h : 0 ≤ getu4 s) : 6 ≤ s.length := by
  unfold getu4 at h
  split at h
  · omega
  · omega
theorem getu4_u {s : List Int} (h : 0 ≤ getu4 s) : s.getD 0 0 = 92 ∧ s.getD 1 0 = 117 := by
  unfold getu4 at h
  split at h
  · omega
  · rename_i hh
    exact ⟨Classical.byContradiction fun a => hh (.inr (.inl a)), Classical.byContradiction fun a => hh (.inr (.inr a))⟩
theorem escOf_bounds {s : List Int} {r : Int} {n : Nat} (h : escOf s = some (r, n)) : 0 ≤ r ∧ r ≤ 1114111 ∧ 2 ≤ n ∧ n ≤ s.length := by
  unfold escOf at h
  simp only at h
  split at h
  · cases h
  rename_i hl
  split at h
  · cases h; rename_i hc; rcases hc with e | e | e <;> rw [e] <;> omega
  split at h
  · cases h; omega
  split at h
  · cases h; omega
  split at h
  · cases h; omega
  split at h
  · cases h; omega
  split at h
  · cases h; omega
  split at h
  · have hb := getu4_bounds s
    split at h
    · cases h
    rename_i hg
    have hl6 := getu4_length (s := s) (by omega)
    split at h
    · have hp := pairR_bounds (getu4 s) (getu4 (s.drop 6))
      split at h
      · rename_i hne
        cases h
        have h2 : 0 ≤ getu4 (s.drop 6) := by
          apply Classical.byContradiction
          intro hn
          apply hne
          unfold pairR
          rw [if_neg (by omega)]
        have := getu4_length h2
        rw [List.length_drop] at this
        omega
      · cases h; omega
    · cases h; omega
  · cases h

/-- The bytes of data behind what is built so far; none at a wrong escape. -/
def unesc : Nat → List Int → List Int → Option (List Int)
  | 0, _, _ => none
  | f + 1, acc, data =>
    match idxOf 92 data with
    | none => some (acc ++ data)
    | some i =>
      match escOf (data.drop i) with
      | none => none
      | some (r, n) => unesc f (acc ++ data.take i ++ Lib.encodeRuneZ r) (data.drop (i + n))
end Go.Proofs.YtaecbclonmhbcaaGreatDoor

/- jlexer.getu4, decodeEscape: what they tell. -/
namespace Go.Proofs.YtaecbclonmhbcaaGreatDoor
open Go.RowKit

theorem wraps_i32 (n : Int) (h₀ : 0 ≤ n) (h₁ : n < 2 ^ 31) : IntKind.i32.wrap n = n := by
  simp [IntKind.wrap, IntKind.bits, IntKind.signed]; omega
/-- A hexadecimal digit behind others. -/
theorem or_hex (v d : Int) (hv : 0 ≤ v) (hv1 : v < 65536) (hd : 0 ≤ d) (hd1 : d < 16) : bits .or .i32 (v * 16) d = v * 16 + d :=
  bits_join .i32 31 (by decide) wraps_i32 4 (v * 16) d (by omega) (by omega) (by omega) hd (by omega) (by omega)

def HexRel (xs : List Int) (val i : Value) : Prop :=
  ∃ (k : Nat) (v : Int), k ≤ 4 ∧ i = .int .i64 ((k + 2 : Nat) : Int) ∧ val = .int .i32 v ∧ 0 ≤ v ∧ v < 16 ^ k ∧ hexRow 0 ((xs.drop 2).take 4) = hexRow v (((xs.drop 2).take 4).drop k)

theorem hex_split {xs : List Int} {k : Nat} (hl : 6 ≤ xs.length) (hk : k < 4) : ((xs.drop 2).take 4).drop k = xs.getD (k + 2) 0 :: ((xs.drop 2).take 4).drop (k + 1) := by
  have h : k < ((xs.drop 2).take 4).length := by rw [List.length_take, List.length_drop]; omega
  rw [List.drop_eq_getElem_cons h]
  congr 1
  rw [List.getElem_take, List.getElem_drop]
  simp [List.getD, show 2 + k < xs.length by omega, Nat.add_comm k 2]

theorem pow16 {k : Nat} {v d : Int} (hk : k < 4) (h1 : v < 16 ^ k) (hd : d < 16) : v < 4096 ∧ v * 16 + d < 16 ^ (k + 1) := by
  have : (16 : Int) ^ k ≤ 4096 := by
    match k, hk with
    | 0, _ => decide
    | 1, _ => decide
    | 2, _ => decide
    | 3, _ => decide
  rw [Int.pow_succ]
  omega

theorem HexRel.step {xs : List Int} {k : Nat} {v c d : Int} (hk : k < 4) (hv0 : 0 ≤ v) (hv1 : v < 16 ^ k) (hrow : hexRow 0 ((xs.drop 2).take 4) = hexRow v (((xs.drop 2).take 4).drop k))
    (hsp : ((xs.drop 2).take 4).drop k = c :: ((xs.drop 2).take 4).drop (k + 1)) (hc : hexV c = d) (h0 : 0 ≤ d) (h1 : d < 16) :
    HexRel xs (.int .i32 (bits .or .i32 (wrap32 (v * 16)) d)) (.int .i64 ((k : Int) + 2 + 1)) := by
  obtain ⟨h2, h3⟩ := pow16 hk hv1 h1
  have hw : wrap32 (v * 16) = v * 16 := by unfold wrap32; omega
  rw [hw, or_hex v d hv0 (by omega) h0 h1]
  refine ⟨k + 1, v * 16 + d, by omega, by go_num, rfl, by omega, h3, ?_⟩
  rw [hrow, hsp, hexRow, hc, if_neg (by omega)]
theorem hexRow_stop {xs : List Int} {k : Nat} {v c : Int} (hrow : hexRow 0 ((xs.drop 2).take 4) = hexRow v (((xs.drop 2).take 4).drop k))
    (hsp : ((xs.drop 2).take 4).drop k = c :: ((xs.drop 2).take 4).drop (k + 1)) (hc : hexV c < 0) : hexRow 0 ((xs.drop 2).take 4) = -1 := by
  rw [hrow, hsp, hexRow, if_pos hc]

set_option maxHeartbeats 4000000 in
set_option maxRecDepth 100000 in
theorem getu4_long (b o n cap : Nat) (xs : List Int) (w : World) (hx : xs.length = n) (hn : n ≤ 1073741824) (h6 : 6 ≤ n) (h0 : xs.getD 0 0 = 92) (h1 : xs.getD 1 0 = 117) (hB : Bytes xs)
    (hc : ∀ i, i < n → w.cell? ⟨b, o + i, none⟩ = some (.int .u8 (xs.getD i 0))) :
    Calls Tryz.prog 156 #[.slice (some ⟨b, o, none⟩) n cap] w fun e w' => e = .returned (.int .i32 (hexRow 0 ((xs.drop 2).take 4))) ∧ w = w' := by
  have c0 := hc 0 (by omega)
  have c1 := hc 1 (by omega)
  rw [h0] at c0
  rw [h1] at c1
  simp only [Nat.add_zero] at c0
  have HX := Lib.hid hx
  have HC := Lib.hid hc
  have HB := Lib.hid hB
  have g1 : ¬ (n : Int) < 6 := by omega
  have n0 : 0 < n := by omega
  have n1 : 1 < n := by omega
  clear hx hc hB h0 h1
  go_enter Tryz.func156, Tryz.ntmps156
  go_wp2
  go_loop [3, 4] (fun val i => HexRel xs val i) (fun _ i => 6 - (intOf i).toNat)
  case atStart => exact ⟨0, 0, by decide, rfl, rfl, by decide, by decide, rfl⟩
  case round =>
    obtain ⟨k, v, hk, rfl, rfl, hv0, hv1, hrow⟩ := hrel
    have HR := Lib.hid hrow
    clear hrow
    by_cases hlt : k < 4
    case neg =>
      obtain rfl : k = 4 := by omega
      have e : hexRow 0 ((xs.drop 2).take 4) = v := by
        have h := HR.out
        have h4 : ((xs.drop 2).take 4).drop 4 = [] := List.drop_eq_nil_of_le (by rw [List.length_take, List.length_drop, HX.out]; omega)
        rw [h4] at h
        exact h
      have HE := Lib.hid e
      clear e
      go_wp2
      all_goals
        go_ret
        exact ⟨by rw [HE.out]; rfl, rfl⟩
    case pos =>
      have hcell := HC.out (k + 2) (by omega)
      have hsp := Lib.hid (hex_split (xs := xs) (k := k) (by rw [HX.out]; exact h6) hlt)
      generalize xs.getD (k + 2) 0 = c at hcell hsp
      by_cases hd : (48 ≤ c ∧ c ≤ 57) ∨ (97 ≤ c ∧ c ≤ 102) ∨ (65 ≤ c ∧ c ≤ 70)
      · have hcs : c = 48 ∨ c = 49 ∨ c = 50 ∨ c = 51 ∨ c = 52 ∨ c = 53 ∨ c = 54 ∨ c = 55 ∨ c = 56 ∨ c = 57 ∨ c = 97 ∨ c = 98 ∨ c = 99 ∨ c = 100 ∨ c = 101 ∨ c = 102 ∨ c = 65 ∨ c = 66 ∨ c = 67 ∨ c = 68 ∨ c = 69 ∨ c = 70 := by omega
        clear hd
        rcases hcs with rfl | rfl | rfl | rfl | rfl | rfl | rfl | rfl | rfl | rfl | rfl | rfl | rfl | rfl | rfl | rfl | rfl | rfl | rfl | rfl | rfl | rfl
        · go_wp2
          go_round
          case rel => exact HexRel.step hlt hv0 hv1 HR.out hsp.out (d := 0) (by decide) (by decide) (by decide)
          case measure => simp [intOf]; omega
        · go_wp2
          go_round
          case rel => exact HexRel.step hlt hv0 hv1 HR.out hsp.out (d := 1) (by decide) (by decide) (by decide)
          case measure => simp [intOf]; omega
        · go_wp2
          go_round
          case rel => exact HexRel.step hlt hv0 hv1 HR.out hsp.out (d := 2) (by decide) (by decide) (by decide)
          case measure => simp [intOf]; omega
        · go_wp2
          go_round
          case rel => exact HexRel.step hlt hv0 hv1 HR.out hsp.out (d := 3) (by decide) (by decide) (by decide)
          case measure => simp [intOf]; omega
        · go_wp2
          go_round
          case rel => exact HexRel.step hlt hv0 hv1 HR.out hsp.out (d := 4) (by decide) (by decide) (by decide)
          case measure => simp [intOf]; omega
        · go_wp2
          go_round
          case rel => exact HexRel.step hlt hv0 hv1 HR.out hsp.out (d := 5) (by decide) (by decide) (by decide)
          case measure => simp [intOf]; omega
        · go_wp2
          go_round
          case rel => exact HexRel.step hlt hv0 hv1 HR.out hsp.out (d := 6) (by decide) (by decide) (by decide)
          case measure => simp [intOf]; omega
        · go_wp2
          go_round
          case rel => exact HexRel.step hlt hv0 hv1 HR.out hsp.out (d := 7) (by decide) (by decide) (by decide)
          case measure => simp [intOf]; omega
        · go_wp2
          go_round
          case rel => exact HexRel.step hlt hv0 hv1 HR.out hsp.out (d := 8) (by decide) (by decide) (by decide)
          case measure => simp [intOf]; omega
        · go_wp2
          go_round
          case rel => exact HexRel.step hlt hv0 hv1 HR.out hsp.out (d := 9) (by decide) (by decide) (by decide)
          case measure => simp [intOf]; omega
        · go_wp2
          go_round
          case rel => exact HexRel.step hlt hv0 hv1 HR.out hsp.out (d := 10) (by decide) (by decide) (by decide)
          case measure => simp [intOf]; omega
        · go_wp2
          go_round
          case rel => exact HexRel.step hlt hv0 hv1 HR.out hsp.out (d := 11) (by decide) (by decide) (by decide)
          case measure => simp [intOf]; omega
        · go_wp2
          go_round
          case rel => exact HexRel.step hlt hv0 hv1 HR.out hsp.out (d := 12) (by decide) (by decide) (by decide)
          case measure => simp [intOf]; omega
        · go_wp2
          go_round
          case rel => exact HexRel.step hlt hv0 hv1 HR.out hsp.out (d := 13) (by decide) (by decide) (by decide)
          case measure => simp [intOf]; omega
        · go_wp2
          go_round
          case rel => exact HexRel.step hlt hv0 hv1 HR.out hsp.out (d := 14) (by decide) (by decide) (by decide)
          case measure => simp [intOf]; omega
        · go_wp2
          go_round
          case rel => exact HexRel.step hlt hv0 hv1 HR.out hsp.out (d := 15) (by decide) (by decide) (by decide)
          case measure => simp [intOf]; omega
        · go_wp2
          go_round
          case rel => exact HexRel.step hlt hv0 hv1 HR.out hsp.out (d := 10) (by decide) (by decide) (by decide)
          case measure => simp [intOf]; omega
        · go_wp2
          go_round
          case rel => exact HexRel.step hlt hv0 hv1 HR.out hsp.out (d := 11) (by decide) (by decide) (by decide)
          case measure => simp [intOf]; omega
        · go_wp2
          go_round
          case rel => exact HexRel.step hlt hv0 hv1 HR.out hsp.out (d := 12) (by decide) (by decide) (by decide)
          case measure => simp [intOf]; omega
        · go_wp2
          go_round
          case rel => exact HexRel.step hlt hv0 hv1 HR.out hsp.out (d := 13) (by decide) (by decide) (by decide)
          case measure => simp [intOf]; omega
        · go_wp2
          go_round
          case rel => exact HexRel.step hlt hv0 hv1 HR.out hsp.out (d := 14) (by decide) (by decide) (by decide)
          case measure => simp [intOf]; omega
        · go_wp2
          go_round
          case rel => exact HexRel.step hlt hv0 hv1 HR.out hsp.out (d := 15) (by decide) (by decide) (by decide)
          case measure => simp [intOf]; omega
      · have HS := Lib.hid (hexRow_stop HR.out hsp.out (by unfold hexV; rw [if_neg (by omega), if_neg (by omega), if_neg (by omega)]; decide))
        have n48 : (c == 48) = false := beq_eq_false_iff_ne.2 (by omega)
        have n49 : (c == 49) = false := beq_eq_false_iff_ne.2 (by omega)
        have n50 : (c == 50) = false := beq_eq_false_iff_ne.2 (by omega)
        have n51 : (c == 51) = false := beq_eq_false_iff_ne.2 (by omega)
        have n52 : (c == 52) = false := beq_eq_false_iff_ne.2 (by omega)
        have n53 : (c == 53) = false := beq_eq_false_iff_ne.2 (by omega)
        have n54 : (c == 54) = false := beq_eq_false_iff_ne.2 (by omega)
        have n55 : (c == 55) = false := beq_eq_false_iff_ne.2 (by omega)
        have n56 : (c == 56) = false := beq_eq_false_iff_ne.2 (by omega)
        have n57 : (c == 57) = false := beq_eq_false_iff_ne.2 (by omega)
        have n97 : (c == 97) = false := beq_eq_false_iff_ne.2 (by omega)
        have n98 : (c == 98) = false := beq_eq_false_iff_ne.2 (by omega)
        have n99 : (c == 99) = false := beq_eq_false_iff_ne.2 (by omega)
        have n100 : (c == 100) = false := beq_eq_false_iff_ne.2 (by omega)
        have n101 : (c == 101) = false := beq_eq_false_iff_ne.2 (by omega)
        have n102 : (c == 102) = false := beq_eq_false_iff_ne.2 (by omega)
        have n65 : (c == 65) = false := beq_eq_false_iff_ne.2 (by omega)
        have n66 : (c == 66) = false := beq_eq_false_iff_ne.2 (by omega)
        have n67 : (c == 67) = false := beq_eq_false_iff_ne.2 (by omega)
        have n68 : (c == 68) = false := beq_eq_false_iff_ne.2 (by omega)
        have n69 : (c == 69) = false := beq_eq_false_iff_ne.2 (by omega)
        have n70 : (c == 70) = false := beq_eq_false_iff_ne.2 (by omega)
        clear hd
        go_wp2
        go_ret
        exact ⟨by rw [HS.out]; rfl, rfl⟩

set_option maxHeartbeats 4000000 in
set_option maxRecDepth 100000 in
/-- What is no number of four digits. -/
theorem getu4_no (a : Option Addr) (n cap : Nat) (w : World) (h6 : n < 6) :
    Calls Tryz.prog 156 #[.slice a n cap] w fun e w' => e = .returned (.int .i32 (-1)) ∧ w = w' := by
  have g1 : (n : Int) < 6 := by omega
  go_enter Tryz.func156, Tryz.ntmps156
  go_wp2
  go_ret
  exact ⟨rfl, rfl⟩
set_option maxHeartbeats 4000000 in
set_option maxRecDepth 100000 in
theorem getu4_no0 (b o n cap : Nat) (c0 : Int) (w : World) (h6 : 6 ≤ n) (h0 : w.cell? ⟨b, o, none⟩ = some (.int .u8 c0)) (hne : c0 ≠ 92) :
    Calls Tryz.prog 156 #[.slice (some ⟨b, o, none⟩) n cap] w fun e w' => e = .returned (.int .i32 (-1)) ∧ w = w' := by
  have g1 : ¬ (n : Int) < 6 := by omega
  have g2 : (c0 == 92) = false := beq_eq_false_iff_ne.2 hne
  have g3 : (c0 != 92) = true := bne_iff_ne.2 hne
  have n0 : 0 < n := by omega
  go_enter Tryz.func156, Tryz.ntmps156
  go_wp2
  go_ret
  exact ⟨rfl, rfl⟩
set_option maxHeartbeats 4000000 in
set_option maxRecDepth 100000 in
theorem getu4_no1 (b o n cap : Nat) (c1 : Int) (w : World) (h6 : 6 ≤ n) (h0 : w.cell? ⟨b, o, none⟩ = some (.int .u8 92)) (h1 : w.cell? ⟨b, o + 1, none⟩ = some (.int .u8 c1)) (hne : c1 ≠ 117) :
    Calls Tryz.prog 156 #[.slice (some ⟨b, o, none⟩) n cap] w fun e w' => e = .returned (.int .i32 (-1)) ∧ w = w' := by
  have g1 : ¬ (n : Int) < 6 := by omega
  have g2 : (c1 == 117) = false := beq_eq_false_iff_ne.2 hne
  have g3 : (c1 != 117) = true := bne_iff_ne.2 hne
  have n0 : 0 < n := by omega
  have n1 : 1 < n := by omega
  go_enter Tryz.func156, Tryz.ntmps156
  go_wp2
  go_ret
  exact ⟨rfl, rfl⟩

theorem getu4_any (b o n cap : Nat) (xs : List Int) (w : World) (hx : xs.length = n) (hn : n ≤ 1073741824) (hB : Bytes xs)
    (hc : ∀ i, i < n → w.cell? ⟨b, o + i, none⟩ = some (.int .u8 (xs.getD i 0))) :
    Calls Tryz.prog 156 #[.slice (some ⟨b, o, none⟩) n cap] w fun e w' => e = .returned (.int .i32 (getu4 xs)) ∧ w = w' := by
  unfold getu4
  by_cases h6 : n < 6
  · rw [if_pos (.inl (by omega))]
    exact getu4_no _ n cap w h6
  by_cases h0 : xs.getD 0 0 = 92
  case neg =>
    rw [if_pos (.inr (.inl h0))]
    exact getu4_no0 b o n cap _ w (by omega) (hc 0 (by omega)) h0
  by_cases h1 : xs.getD 1 0 = 117
  case neg =>
    rw [if_pos (.inr (.inr h1))]
    have c0 := hc 0 (by omega)
    rw [h0] at c0
    exact getu4_no1 b o n cap _ w (by omega) c0 (hc 1 (by omega)) h1
  rw [if_neg (by intro h; rcases h with h | h | h; omega; exact h h0; exact h h1)]
  exact getu4_long b o n cap xs w hx hn (by omega) h0 h1 hB hc
end Go.Proofs.YtaecbclonmhbcaaGreatDoor

/- utf16.IsSurrogate, utf16.DecodeRune, jlexer.decodeEscape. Printed by gen_desc.py. -/
namespace Go.Proofs.YtaecbclonmhbcaaGreatDoor
open Go.RowKit

set_option maxHeartbeats 1000000 in
theorem isSurr_yes (r : Int) (w : World) (h0 : 55296 ≤ r) (h1 : r < 57344) : Calls Tryz.prog 157 #[.int .i32 r] w fun e w' => e = .returned (.bool true) ∧ w = w' := by
  go_enter Tryz.func157, Tryz.ntmps157
  go_wp2
  go_ret
  exact ⟨rfl, rfl⟩
set_option maxHeartbeats 1000000 in
theorem isSurr_no (r : Int) (w : World) (h : r < 55296 ∨ 57344 ≤ r) : Calls Tryz.prog 157 #[.int .i32 r] w fun e w' => e = .returned (.bool false) ∧ w = w' := by
  rcases h with h | h
  · have h' : ¬ 55296 ≤ r := by omega
    go_enter Tryz.func157, Tryz.ntmps157
    go_wp2
    go_ret
    exact ⟨rfl, rfl⟩
  · have h0 : 55296 ≤ r := by omega
    have h' : ¬ r < 57344 := by omega
    go_enter Tryz.func157, Tryz.ntmps157
    go_wp2
    go_ret
    exact ⟨rfl, rfl⟩

theorem or_pair (a b : Int) (ha : 0 ≤ a) (ha1 : a < 1024) (hb : 0 ≤ b) (hb1 : b < 1024) : bits .or .i32 (a * 1024) b = a * 1024 + b :=
  bits_join .i32 31 (by decide) wraps_i32 10 (a * 1024) b (by omega) (by omega) (by omega) hb (by omega) (by omega)
set_option maxHeartbeats 1000000 in
theorem decodeRune_yes (a b : Int) (w : World) (h0 : 55296 ≤ a) (h1 : a < 56320) (h2 : 56320 ≤ b) (h3 : b < 57344) : Calls Tryz.prog 158 #[.int .i32 a, .int .i32 b] w fun e w' => e = .returned (.int .i32 (pairR a b)) ∧ w = w' := by
  have he : pairR a b = (a - 55296) * 1024 + (b - 56320) + 65536 := by unfold pairR; rw [if_pos ⟨h0, h1, h2, h3⟩]
  rw [he]
  have ho := or_pair (a - 55296) (b - 56320) (by omega) (by omega) (by omega) (by omega)
  have HO := Lib.hid ho
  clear ho he
  go_enter Tryz.func158, Tryz.ntmps158
  go_wp2
  go_ret
  refine ⟨?_, rfl⟩
  have hw2 : wrap32 ((a - 55296) * 1024 + (b - 56320) + 65536) = (a - 55296) * 1024 + (b - 56320) + 65536 := by unfold wrap32; omega
  simp only [HO.out, hw2]
  rfl
set_option maxHeartbeats 1000000 in
theorem decodeRune_no (a b : Int) (w : World) (h : ¬ (55296 ≤ a ∧ a < 56320 ∧ 56320 ≤ b ∧ b < 57344)) : Calls Tryz.prog 158 #[.int .i32 a, .int .i32 b] w fun e w' => e = .returned (.int .i32 (pairR a b)) ∧ w = w' := by
  have he : pairR a b = 65533 := by unfold pairR; rw [if_neg h]
  rw [he]
  clear he
  by_cases h0 : 55296 ≤ a
  · by_cases h1 : a < 56320
    · by_cases h2 : 56320 ≤ b
      · have h3 : ¬ b < 57344 := fun h3 => h ⟨h0, h1, h2, h3⟩
        clear h
        go_enter Tryz.func158, Tryz.ntmps158
        go_wp2
        go_ret
        exact ⟨rfl, rfl⟩
      · clear h
        go_enter Tryz.func158, Tryz.ntmps158
        go_wp2
        go_ret
        exact ⟨rfl, rfl⟩
    · clear h
      go_enter Tryz.func158, Tryz.ntmps158
      go_wp2
      go_ret
      exact ⟨rfl, rfl⟩
  · clear h
    go_enter Tryz.func158, Tryz.ntmps158
    go_wp2
    go_ret
    exact ⟨rfl, rfl⟩
theorem decodeRune_any (a b : Int) (w : World) : Calls Tryz.prog 158 #[.int .i32 a, .int .i32 b] w fun e w' => e = .returned (.int .i32 (pairR a b)) ∧ w = w' := by
  by_cases h : 55296 ≤ a ∧ a < 56320 ∧ 56320 ≤ b ∧ b < 57344
  · exact decodeRune_yes a b w h.1 h.2.1 h.2.2.1 h.2.2.2
  · exact decodeRune_no a b w h

/-- An error with a text, newly made. -/
def NewErr (w : World) (v : Value) (w' : World) : Prop := ∃ t : ByteArray, v = .iface 191 (.pointer (some ⟨w.heap.size, 0, none⟩)) ∧ w' = w.alloc (.cells #[.string t] 193)

set_option maxHeartbeats 1000000 in
theorem errNew_any (t : ByteArray) (w : World) : Calls Tryz.prog 155 #[.string t] w fun e w' => e = .returned (.iface 191 (.pointer (some ⟨w.heap.size, 0, none⟩))) ∧ w' = w.alloc (.cells #[.string t] 193) := by
  go_enter Tryz.func155, Tryz.ntmps155
  go_wp2
  go_ret
  exact ⟨rfl, rfl⟩

def EscBad (w : World) (e : Ending) (w' : World) : Prop := ∃ v, NewErr w v w' ∧ e = .returned (.tuple #[.int .i32 0, .int .i64 0, v])

set_option maxHeartbeats 1000000 in
set_option maxRecDepth 100000 in
theorem esc_short (a : Option Addr) (n cap : Nat) (w : World) (h : n < 2) : Calls Tryz.prog 133 #[.slice a n cap] w (EscBad w) := by
  have h' : (n : Int) < 2 := by omega
  go_enter Tryz.func133, Tryz.ntmps133
  go_wp2_with (go_at_call 155; refine (errNew_any _ _).mono ?_; rintro e w1 ⟨rfl, rfl⟩)
  go_ret3
  exact ⟨_, ⟨_, rfl, rfl⟩, rfl⟩

set_option maxHeartbeats 1000000 in
set_option maxRecDepth 100000 in
theorem esc_34 (b o n cap : Nat) (w : World) (h : 2 ≤ n) (h1 : w.cell? ⟨b, o + 1, none⟩ = some (.int .u8 34)) :
    Calls Tryz.prog 133 #[.slice (some ⟨b, o, none⟩) n cap] w fun e w' => e = .returned (.tuple #[.int .i32 34, .int .i64 2, .nilIface]) ∧ w = w' := by
  have h' : ¬ (n : Int) < 2 := by omega
  have n1 : 1 < n := by omega
  go_enter Tryz.func133, Tryz.ntmps133
  go_wp2
  go_ret3
  exact ⟨rfl, rfl⟩

set_option maxHeartbeats 1000000 in
set_option maxRecDepth 100000 in
theorem esc_47 (b o n cap : Nat) (w : World) (h : 2 ≤ n) (h1 : w.cell? ⟨b, o + 1, none⟩ = some (.int .u8 47)) :
    Calls Tryz.prog 133 #[.slice (some ⟨b, o, none⟩) n cap] w fun e w' => e = .returned (.tuple #[.int .i32 47, .int .i64 2, .nilIface]) ∧ w = w' := by
  have h' : ¬ (n : Int) < 2 := by omega
  have n1 : 1 < n := by omega
  go_enter Tryz.func133, Tryz.ntmps133
  go_wp2
  go_ret3
  exact ⟨rfl, rfl⟩

set_option maxHeartbeats 1000000 in
set_option maxRecDepth 100000 in
theorem esc_92 (b o n cap : Nat) (w : World) (h : 2 ≤ n) (h1 : w.cell? ⟨b, o + 1, none⟩ = some (.int .u8 92)) :
    Calls Tryz.prog 133 #[.slice (some ⟨b, o, none⟩) n cap] w fun e w' => e = .returned (.tuple #[.int .i32 92, .int .i64 2, .nilIface]) ∧ w = w' := by
  have h' : ¬ (n : Int) < 2 := by omega
  have n1 : 1 < n := by omega
  go_enter Tryz.func133, Tryz.ntmps133
  go_wp2
  go_ret3
  exact ⟨rfl, rfl⟩

set_option maxHeartbeats 1000000 in
set_option maxRecDepth 100000 in
theorem esc_98 (b o n cap : Nat) (w : World) (h : 2 ≤ n) (h1 : w.cell? ⟨b, o + 1, none⟩ = some (.int .u8 98)) :
    Calls Tryz.prog 133 #[.slice (some ⟨b, o, none⟩) n cap] w fun e w' => e = .returned (.tuple #[.int .i32 8, .int .i64 2, .nilIface]) ∧ w = w' := by
  have h' : ¬ (n : Int) < 2 := by omega
  have n1 : 1 < n := by omega
  go_enter Tryz.func133, Tryz.ntmps133
  go_wp2
  go_ret3
  exact ⟨rfl, rfl⟩

set_option maxHeartbeats 1000000 in
set_option maxRecDepth 100000 in
theorem esc_102 (b o n cap : Nat) (w : World) (h : 2 ≤ n) (h1 : w.cell? ⟨b, o + 1, none⟩ = some (.int .u8 102)) :
    Calls Tryz.prog 133 #[.slice (some ⟨b, o, none⟩) n cap] w fun e w' => e = .returned (.tuple #[.int .i32 12, .int .i64 2, .nilIface]) ∧ w = w' := by
  have h' : ¬ (n : Int) < 2 := by omega
  have n1 : 1 < n := by omega
  go_enter Tryz.func133, Tryz.ntmps133
  go_wp2
  go_ret3
  exact ⟨rfl, rfl⟩

set_option maxHeartbeats 1000000 in
set_option maxRecDepth 100000 in
theorem esc_110 (b o n cap : Nat) (w : World) (h : 2 ≤ n) (h1 : w.cell? ⟨b, o + 1, none⟩ = some (.int .u8 110)) :
    Calls Tryz.prog 133 #[.slice (some ⟨b, o, none⟩) n cap] w fun e w' => e = .returned (.tuple #[.int .i32 10, .int .i64 2, .nilIface]) ∧ w = w' := by
  have h' : ¬ (n : Int) < 2 := by omega
  have n1 : 1 < n := by omega
  go_enter Tryz.func133, Tryz.ntmps133
  go_wp2
  go_ret3
  exact ⟨rfl, rfl⟩

set_option maxHeartbeats 1000000 in
set_option maxRecDepth 100000 in
theorem esc_114 (b o n cap : Nat) (w : World) (h : 2 ≤ n) (h1 : w.cell? ⟨b, o + 1, none⟩ = some (.int .u8 114)) :
    Calls Tryz.prog 133 #[.slice (some ⟨b, o, none⟩) n cap] w fun e w' => e = .returned (.tuple #[.int .i32 13, .int .i64 2, .nilIface]) ∧ w = w' := by
  have h' : ¬ (n : Int) < 2 := by omega
  have n1 : 1 < n := by omega
  go_enter Tryz.func133, Tryz.ntmps133
  go_wp2
  go_ret3
  exact ⟨rfl, rfl⟩

set_option maxHeartbeats 1000000 in
set_option maxRecDepth 100000 in
theorem esc_116 (b o n cap : Nat) (w : World) (h : 2 ≤ n) (h1 : w.cell? ⟨b, o + 1, none⟩ = some (.int .u8 116)) :
    Calls Tryz.prog 133 #[.slice (some ⟨b, o, none⟩) n cap] w fun e w' => e = .returned (.tuple #[.int .i32 9, .int .i64 2, .nilIface]) ∧ w = w' := by
  have h' : ¬ (n : Int) < 2 := by omega
  have n1 : 1 < n := by omega
  go_enter Tryz.func133, Tryz.ntmps133
  go_wp2
  go_ret3
  exact ⟨rfl, rfl⟩

set_option maxHeartbeats 1000000 in
set_option maxRecDepth 100000 in
theorem esc_other (b o n cap : Nat) (c : Int) (w : World) (h : 2 ≤ n) (h1 : w.cell? ⟨b, o + 1, none⟩ = some (.int .u8 c))
    (hc : ¬ (c = 34 ∨ c = 47 ∨ c = 92 ∨ c = 98 ∨ c = 102 ∨ c = 110 ∨ c = 114 ∨ c = 116 ∨ c = 117)) : Calls Tryz.prog 133 #[.slice (some ⟨b, o, none⟩) n cap] w (EscBad w) := by
  have h' : ¬ (n : Int) < 2 := by omega
  have n1 : 1 < n := by omega
  have n34 : (c == 34) = false := beq_eq_false_iff_ne.2 (by omega)
  have n47 : (c == 47) = false := beq_eq_false_iff_ne.2 (by omega)
  have n92 : (c == 92) = false := beq_eq_false_iff_ne.2 (by omega)
  have n98 : (c == 98) = false := beq_eq_false_iff_ne.2 (by omega)
  have n102 : (c == 102) = false := beq_eq_false_iff_ne.2 (by omega)
  have n110 : (c == 110) = false := beq_eq_false_iff_ne.2 (by omega)
  have n114 : (c == 114) = false := beq_eq_false_iff_ne.2 (by omega)
  have n116 : (c == 116) = false := beq_eq_false_iff_ne.2 (by omega)
  have n117 : (c == 117) = false := beq_eq_false_iff_ne.2 (by omega)
  clear hc
  go_enter Tryz.func133, Tryz.ntmps133
  go_wp2_with (go_at_call 155; refine (errNew_any _ _).mono ?_; rintro e w1 ⟨rfl, rfl⟩)
  go_ret3
  exact ⟨_, ⟨_, rfl, rfl⟩, rfl⟩

/-- What the two readings of four digits tell. -/
structure U4 (b o n cap : Nat) (g g2 : Int) (w : World) : Prop where
  one : Calls Tryz.prog 156 #[.slice (some ⟨b, o, none⟩) n cap] w fun e w' => e = .returned (.int .i32 g) ∧ w = w'
  two : ∀ o' c', (cap = 6 ∨ o' = o + 6) → Calls Tryz.prog 156 #[.slice (some ⟨b, o', none⟩) (n - 6) c'] w fun e w' => e = .returned (.int .i32 g2) ∧ w = w'

set_option maxHeartbeats 1000000 in
set_option maxRecDepth 100000 in
theorem esc_u_bad (b o n cap : Nat) (g g2 : Int) (w : World) (h : 2 ≤ n) (h1 : w.cell? ⟨b, o + 1, none⟩ = some (.int .u8 117)) (hU : U4 b o n cap g g2 w) (hg : g < 0) :
    Calls Tryz.prog 133 #[.slice (some ⟨b, o, none⟩) n cap] w (EscBad w) := by
  have h' : ¬ (n : Int) < 2 := by omega
  have n1 : 1 < n := by omega
  go_enter Tryz.func133, Tryz.ntmps133
  go_wp2_with (first | (go_at_call 156; refine hU.one.mono ?_; rintro e w1 ⟨rfl, rfl⟩) | (go_at_call 155; refine (errNew_any _ _).mono ?_; rintro e w1 ⟨rfl, rfl⟩))
  go_ret3
  exact ⟨_, ⟨_, rfl, rfl⟩, rfl⟩
set_option maxHeartbeats 1000000 in
set_option maxRecDepth 100000 in
theorem esc_u_plain (b o n cap : Nat) (g g2 : Int) (w : World) (h : 2 ≤ n) (h1 : w.cell? ⟨b, o + 1, none⟩ = some (.int .u8 117)) (hU : U4 b o n cap g g2 w) (hg : 0 ≤ g) (hs : g < 55296 ∨ 57344 ≤ g) :
    Calls Tryz.prog 133 #[.slice (some ⟨b, o, none⟩) n cap] w fun e w' => e = .returned (.tuple #[.int .i32 g, .int .i64 6, .nilIface]) ∧ w = w' := by
  have h' : ¬ (n : Int) < 2 := by omega
  have n1 : 1 < n := by omega
  have hg' : ¬ g < 0 := by omega
  have HS := Lib.hid hs
  clear hs
  go_enter Tryz.func133, Tryz.ntmps133
  go_wp2_with (first | (go_at_call 156; refine hU.one.mono ?_; rintro e w1 ⟨rfl, rfl⟩) | (go_at_call 157; refine (isSurr_no _ _ HS.out).mono ?_; rintro e w1 ⟨rfl, rfl⟩))
  go_ret3
  exact ⟨rfl, rfl⟩

set_option maxHeartbeats 1000000 in
set_option maxRecDepth 100000 in
theorem esc_u_pair (b o n cap : Nat) (g g2 : Int) (w : World) (h6 : 6 ≤ n) (hn : n ≤ cap) (hnb : n ≤ 1073741824) (h1 : w.cell? ⟨b, o + 1, none⟩ = some (.int .u8 117)) (hU : U4 b o n cap g g2 w) (hs0 : 55296 ≤ g) (hs1 : g < 57344) (hp : pairR g g2 ≠ 65533) :
    Calls Tryz.prog 133 #[.slice (some ⟨b, o, none⟩) n cap] w fun e w' => e = .returned (.tuple #[.int .i32 (pairR g g2), .int .i64 12, .nilIface]) ∧ w = w' := by
  have h' : ¬ (n : Int) < 2 := by omega
  have n1 : 1 < n := by omega
  have hg' : ¬ g < 0 := by omega
  have n6 : (6 : Int) ≤ (n : Int) := by omega
  have n7 : (6 : Int) ≤ (cap : Int) := by omega
  have hd := decodeRune_any g g2 w
  obtain ⟨P, hP⟩ : ∃ P, P = pairR g g2 := ⟨_, rfl⟩
  rw [← hP] at hd
  have HP := Lib.hid hP
  have HD := Lib.hid hd
  clear hd hP
  have p1 : (P == 65533) = false := beq_eq_false_iff_ne.2 (by rw [HP.out]; exact hp)
  have p2 : (P != 65533) = true := bne_iff_ne.2 (by rw [HP.out]; exact hp)
  have hb := pairR_bounds g g2
  have p3 : 65533 ≤ P := by rw [HP.out]; omega
  have p4 : P ≤ 1114111 := by rw [HP.out]; omega
  clear hb
  clear hp
  by_cases hc : cap = 6
  · have HC := Lib.hid hc; have c1 : cap ≤ 6 := (by omega); clear hc
    go_enter Tryz.func133, Tryz.ntmps133
    go_wp2_with (first
      | (go_at_call 156; with_reducible refine hU.one.mono ?_; rintro e w1 ⟨rfl, rfl⟩)
      | (go_at_call 156; refine (hU.two _ _ (.inl HC.out)).mono ?_; rintro e w1 ⟨rfl, rfl⟩)
      | (go_at_call 157; refine (isSurr_yes _ _ hs0 hs1).mono ?_; rintro e w1 ⟨rfl, rfl⟩)
      | (go_at_call 158; refine HD.out.mono ?_; rintro e w1 ⟨rfl, rfl⟩))
    go_ret3
    exact ⟨by rw [HP.out]; rfl, rfl⟩
  · have hc2 : 6 ≠ cap := Ne.symm hc
    go_enter Tryz.func133, Tryz.ntmps133
    go_wp2_with (first
      | (go_at_call 156; with_reducible refine hU.one.mono ?_; rintro e w1 ⟨rfl, rfl⟩)
      | (go_at_call 156; refine (hU.two _ _ (.inr rfl)).mono ?_; rintro e w1 ⟨rfl, rfl⟩)
      | (go_at_call 157; refine (isSurr_yes _ _ hs0 hs1).mono ?_; rintro e w1 ⟨rfl, rfl⟩)
      | (go_at_call 158; refine HD.out.mono ?_; rintro e w1 ⟨rfl, rfl⟩))
    go_ret3
    exact ⟨by rw [HP.out]; rfl, rfl⟩

set_option maxHeartbeats 1000000 in
set_option maxRecDepth 100000 in
theorem esc_u_alone (b o n cap : Nat) (g g2 : Int) (w : World) (h6 : 6 ≤ n) (hn : n ≤ cap) (hnb : n ≤ 1073741824) (h1 : w.cell? ⟨b, o + 1, none⟩ = some (.int .u8 117)) (hU : U4 b o n cap g g2 w) (hs0 : 55296 ≤ g) (hs1 : g < 57344) (hp : pairR g g2 = 65533) :
    Calls Tryz.prog 133 #[.slice (some ⟨b, o, none⟩) n cap] w fun e w' => e = .returned (.tuple #[.int .i32 65533, .int .i64 6, .nilIface]) ∧ w = w' := by
  have h' : ¬ (n : Int) < 2 := by omega
  have n1 : 1 < n := by omega
  have hg' : ¬ g < 0 := by omega
  have n6 : (6 : Int) ≤ (n : Int) := by omega
  have n7 : (6 : Int) ≤ (cap : Int) := by omega
  have hd := decodeRune_any g g2 w
  obtain ⟨P, hP⟩ : ∃ P, P = pairR g g2 := ⟨_, rfl⟩
  rw [← hP] at hd
  have HP := Lib.hid hP
  have HD := Lib.hid hd
  clear hd hP
  obtain rfl : P = 65533 := by rw [HP.out]; exact hp
  clear hp
  by_cases hc : cap = 6
  · have HC := Lib.hid hc; have c1 : cap ≤ 6 := (by omega); clear hc
    go_enter Tryz.func133, Tryz.ntmps133
    go_wp2_with (first
      | (go_at_call 156; with_reducible refine hU.one.mono ?_; rintro e w1 ⟨rfl, rfl⟩)
      | (go_at_call 156; refine (hU.two _ _ (.inl HC.out)).mono ?_; rintro e w1 ⟨rfl, rfl⟩)
      | (go_at_call 157; refine (isSurr_yes _ _ hs0 hs1).mono ?_; rintro e w1 ⟨rfl, rfl⟩)
      | (go_at_call 158; refine HD.out.mono ?_; rintro e w1 ⟨rfl, rfl⟩))
    go_ret3
    exact ⟨rfl, rfl⟩
  · have hc2 : 6 ≠ cap := Ne.symm hc
    go_enter Tryz.func133, Tryz.ntmps133
    go_wp2_with (first
      | (go_at_call 156; with_reducible refine hU.one.mono ?_; rintro e w1 ⟨rfl, rfl⟩)
      | (go_at_call 156; refine (hU.two _ _ (.inr rfl)).mono ?_; rintro e w1 ⟨rfl, rfl⟩)
      | (go_at_call 157; refine (isSurr_yes _ _ hs0 hs1).mono ?_; rintro e w1 ⟨rfl, rfl⟩)
      | (go_at_call 158; refine HD.out.mono ?_; rintro e w1 ⟨rfl, rfl⟩))
    go_ret3
    exact ⟨rfl, rfl⟩
end Go.Proofs.YtaecbclonmhbcaaGreatDoor
