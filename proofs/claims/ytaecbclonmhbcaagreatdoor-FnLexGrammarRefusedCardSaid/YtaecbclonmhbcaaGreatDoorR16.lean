/- errInvalidToken of a lexer with one error. The unescaping of a string token, as plain functions on lists of bytes. No program, no memory. jlexer.getu4, decodeEscape: what they tell. utf16.IsSurrogate, utf16.DecodeRune, jlexer.decodeEscape. Printed by gen_desc.py. decodeEscape at every row of bytes; the error's own text. FetchToken at the text's end. What a look ahead keeps. Plain. What every statement of the seat ends with: the listed errors, the arguments that stay, the reading behind the call. -/
import Derived.Test.YtaecbclonmhbcaaGreatDoorR03
import Derived.Test.YtaecbclonmhbcaaGreatDoorR01
import Derived.Lib.RuneBytes
import Derived.Laws.BitsLemmas
import Derived.Stop.Asserts
import Derived.Test.YtaecbclonmhbcaaGreatDoorR02
import Derived.Test.YtaecbclonmhbcaaGreatDoorRows
import Derived.Stop.LaidTwo
import Derived.ChangeStays
import Derived.ProofKit
import Derived.OpenShut
import Derived.ReadAgain
import Derived.MakeChecks
set_option linter.unusedVariables false
set_option linter.unusedSimpArgs false
namespace Go.Proofs.YtaecbclonmhbcaaGreatDoor
open Go.RowKit
section
variable {w : World} {b : Nat} {ae : Sur} {ao : Addr} {x : Lx} {vd vt ve vm : Value}
theorem LexAt.errNil (h : LexAt w b ae ao x vd vt ve vm) (hx : x.ok = true) : ve = .nilIface := by
  have he := h.err
  have hx' : x.err.isNil = true := hx
  cases hxe : x.err <;> rw [hxe] at he hx' <;> simp only [ErrAt, Er.isNil, Bool.false_eq_true] at he hx'
  exact he
theorem LexAt.errSome (h : LexAt w b ae ao x vd vt ve vm) (hx : x.ok = false) : ∃ t v, ve = .iface t v := by
  have he := h.err
  have hx' : x.err.isNil = false := hx
  cases hxe : x.err <;> rw [hxe] at he hx' <;> simp only [ErrAt, Er.isNil, Bool.true_eq_false] at he hx'
  · exact ⟨_, _, he⟩
  · exact ⟨_, _, he⟩
  · obtain ⟨k, s, t, rfl, -, -⟩ := he; exact ⟨_, _, rfl⟩
theorem LexAt.newErr' (h : LexAt w b ae ao x vd vt ve vm) (s t : ByteArray) (n : Nat) :
    LexAt ((w.setCell ⟨b, 11, none⟩ (.iface 60 (.pointer (some ⟨w.heap.size, 0, none⟩)))).alloc (.cells #[.string s, .int .i64 n, .string t] 66)) b ae ao { x with err := .lex n } vd vt (.iface 60 (.pointer (some ⟨w.heap.size, 0, none⟩))) vm := by
  have hb := h.lt
  have hk := ((Kept.refl b w).setCell 11 (.iface 60 (.pointer (some ⟨w.heap.size, 0, none⟩)))).alloc (.cells #[.string s, .int .i64 n, .string t] 66)
  refine h.into hk rfl ?_ (h.tok.kept hk) ⟨w.heap.size, s, t, rfl, h.fresh, ?_⟩
  · rw [heap_alloc_lt (by simpa using hb), heap_setCell h.heap 11 _]; rfl
  · have := heap_alloc_new (w.setCell ⟨b, 11, none⟩ (.iface 60 (.pointer (some ⟨w.heap.size, 0, none⟩)))) (.cells #[.string s, .int .i64 n, .string t] 66)
    rw [← this]; simp
set_option maxHeartbeats 400000 in
theorem errInvalid_held (h : LexAt w b ae ao x vd vt ve vm) (hx : x.ok = false) (s : ByteArray) :
    Calls Tryz.prog 103 #[.pointer (some ⟨b, 0, none⟩), .string s] w fun e w' => e = .returned (.tuple #[]) ∧ w = w' := by
  obtain ⟨t, v, rfl⟩ := h.errSome hx
  have c11 := h.c11
  clear h
  go_enter Tryz.func103, Tryz.ntmps103
  go_wp2
  (try simp only [Exit.inBlock, Exit.then])
  refine bodyPost_ret (results_none rfl _ _ _) rfl ?_
  exact ⟨rfl, rfl⟩
set_option maxHeartbeats 1000000 in
theorem errInvalid_short (p : Option Addr) (cap : Nat) (h : LexAt w b ae ao x vd (.slice p x.tok.length cap) ve vm) (hx : x.ok = true) (hm : x.multi = false) (s : ByteArray) (hs : s.size ≤ 1000) (hl : x.tok.length ≤ 13) :
    Calls Tryz.prog 103 #[.pointer (some ⟨b, 0, none⟩), .string s] w fun e w' => e = .returned (.tuple #[]) ∧ Failed w b ae ao { x with err := .lex x.pos } vd (.slice p x.tok.length cap) vm w' := by
  have c11 := h.c11
  have c2 := h.c2
  have c6 := h.c6
  have c10 := h.c10
  rw [hm] at c10
  have f11 := h.free 11
  have hlt := h.lt
  rw [h.errNil hx] at c11
  have hd : decide ((x.tok.length : Int) ≤ 13) = true := decide_eq_true (by omega)
  have hcv0 := run_bytes_str h.tok
  have hcv := hcv0 0
  have h0 : w.drewN 0 = w := rfl
  rw [h0] at hcv
  have H := Lib.hid h
  clear h hx hm hcv0 h0
  go_enter Tryz.func103, Tryz.ntmps103
  go_wp2
  all_goals go_end0
  all_goals exact ⟨rfl, _, H.out.newErr' _ _ _, ((Kept.refl b w).setCell 11 _).alloc _⟩
set_option maxHeartbeats 1000000 in
theorem errInvalid_long (bt o cap : Nat) (h : LexAt w b ae ao x vd (.slice (some ⟨bt, o, none⟩) x.tok.length cap) ve vm) (hx : x.ok = true) (hm : x.multi = false) (s : ByteArray) (hs : s.size ≤ 1000) (hl : 13 < x.tok.length) (hcap : x.tok.length ≤ cap)
    (hcell : ∀ i, i < x.tok.length → w.cell? ⟨bt, o + i, none⟩ = some (.int .u8 (x.tok.getD i 0))) :
    Calls Tryz.prog 103 #[.pointer (some ⟨b, 0, none⟩), .string s] w fun e w' => e = .returned (.tuple #[]) ∧ Failed w b ae ao { x with err := .lex x.pos } vd (.slice (some ⟨bt, o, none⟩) x.tok.length cap) vm w' := by
  have c11 := h.c11
  have c2 := h.c2
  have c6 := h.c6
  have c10 := h.c10
  rw [hm] at c10
  have f11 := h.free 11
  have hlt := h.lt
  rw [h.errNil hx] at c11
  have hd : decide ((x.tok.length : Int) ≤ 13) = false := decide_eq_false (by omega)
  obtain ⟨sv, hcv, hsz⟩ : ∃ sv : ByteArray, (∀ (cp : Nat) (dst : TypeId), Tryz.prog.underlying dst = some .string → (convert 22 dst (.slice (some ⟨bt, o, none⟩) 10 cp)).run Tryz.prog w = .ok (.string sv) w) ∧ sv.size ≤ 10 :=
    ⟨strOfNums (x.tok.take 10), fun cp =>
    run_convert_bytes_arg w 22 5 Tryz.underlying22 Tryz.underlying5 bt o 10 cp (x.tok.take 10) (by simp; omega) (fun i hi => by
      rw [hcell i (by omega)]
      simp [List.getD, hi]), by rw [strOfNums_size]; simp; omega⟩
  have hc10 : (10 : Int) ≤ (cap : Int) := by omega
  have H := Lib.hid h
  clear h hx hm hcell
  go_enter Tryz.func103, Tryz.ntmps103
  go_wp2
  all_goals go_end0
  all_goals exact ⟨rfl, _, H.out.newErr' _ _ _, ((Kept.refl b w).setCell 11 _).alloc _⟩
theorem errInvalid_any (h : LexAt w b ae ao x vd vt ve vm) (hm : x.multi = false) (s : ByteArray) (hs : s.size ≤ 1000) :
    Calls Tryz.prog 103 #[.pointer (some ⟨b, 0, none⟩), .string s] w fun e w' => e = .returned (.tuple #[]) ∧ Failed w b ae ao x.fail vd vt vm w' := by
  unfold Lx.fail
  cases hx : x.ok with
  | false =>
    refine (errInvalid_held h hx s).mono ?_
    rintro e w' ⟨he, rfl⟩
    exact ⟨he, _, h, Kept.refl b w⟩
  | true =>
    rcases h.tok with ⟨h0, rfl⟩ | ⟨bt, o, cap, rfl, hc, hn, hx'⟩
    · have h1 : x.tok.length = 0 := by rw [h0]; rfl
      have := errInvalid_short none 0 (x := x) (vd := vd) (ve := ve) (vm := vm) (by rw [h1]; exact h) hx hm s hs (by omega)
      rw [h1] at this
      exact this
    · by_cases hl : x.tok.length ≤ 13
      · exact errInvalid_short _ _ h hx hm s hs hl
      · exact errInvalid_long bt o cap h hx hm s hs (by omega) hc hx'
end
end Go.Proofs.YtaecbclonmhbcaaGreatDoor

namespace Go.Proofs.YtaecbclonmhbcaaGreatDoor
def hexV (c : Int) : Int :=
  if 48 ≤ c ∧ c ≤ 57 then c - 48 else if 97 ≤ c ∧ c ≤ 102 then c - 87 else if 65 ≤ c ∧ c ≤ 70 then c - 55 else -1
theorem hexV_lt (c : Int) : -1 ≤ hexV c ∧ hexV c ≤ 15 := by
  unfold hexV
  split
  · omega
  · split
    · omega
    · split <;> omega
def hexRow : Int → List Int → Int
  | v, [] => v
  | v, c :: cs => if hexV c < 0 then -1 else hexRow (v * 16 + hexV c) cs
theorem hexRow_bounds : ∀ (cs : List Int) (v B : Int), 0 ≤ v → v < B → -1 ≤ hexRow v cs ∧ hexRow v cs < B * 16 ^ cs.length
  | [], v, B, h0, h1 => ⟨by simp only [hexRow]; omega, by simp only [hexRow, List.length_nil, Int.pow_zero]; omega⟩
  | c :: cs, v, B, h0, h1 => by
    have hc := hexV_lt c
    simp only [hexRow]
    split
    · refine ⟨by omega, ?_⟩
      have : (0 : Int) < B * 16 ^ (c :: cs).length := Int.mul_pos (by omega) (Int.pow_pos (by decide))
      omega
    · have ih := hexRow_bounds cs (v * 16 + hexV c) (B * 16) (by omega) (by omega)
      refine ⟨ih.1, Int.lt_of_lt_of_le ih.2 ?_⟩
      rw [List.length_cons, Int.pow_succ, Int.mul_assoc, Int.mul_comm 16]
      exact Int.le_refl _
def getu4 (s : List Int) : Int :=
  if s.length < 6 ∨ s.getD 0 0 ≠ 92 ∨ s.getD 1 0 ≠ 117 then -1 else hexRow 0 ((s.drop 2).take 4)
theorem getu4_bounds (s : List Int) : -1 ≤ getu4 s ∧ getu4 s ≤ 65535 := by
  unfold getu4
  split
  · omega
  · rename_i h
    have hl : ((s.drop 2).take 4).length = 4 := by rw [List.length_take, List.length_drop]; omega
    have := hexRow_bounds ((s.drop 2).take 4) 0 1 (by omega) (by omega)
    rw [hl] at this
    omega
def pairR (a b : Int) : Int := if 55296 ≤ a ∧ a < 56320 ∧ 56320 ≤ b ∧ b < 57344 then (a - 55296) * 1024 + (b - 56320) + 65536 else 65533
theorem pairR_bounds (a b : Int) : 65533 ≤ pairR a b ∧ pairR a b ≤ 1114111 := by
  unfold pairR; split <;> omega
def escOf (s : List Int) : Option (Int × Nat) :=
  let c := s.getD 1 0
  if s.length < 2 then none
  else if c = 34 ∨ c = 47 ∨ c = 92 then some (c, 2)
  else if c = 98 then some (8, 2)
  else if c = 102 then some (12, 2)
  else if c = 110 then some (10, 2)
  else if c = 114 then some (13, 2)
  else if c = 116 then some (9, 2)
  else if c = 117 then
    if getu4 s < 0 then none
    else if 55296 ≤ getu4 s ∧ getu4 s < 57344 then
      if pairR (getu4 s) (getu4 (s.drop 6)) ≠ 65533 then some (pairR (getu4 s) (getu4 (s.drop 6)), 12) else some (65533, 6)
    else some (getu4 s, 6)
  else none
theorem getu4_length {s : List Int} (h : 0 ≤ getu4 s) : 6 ≤ s.length := by
  unfold getu4 at h
  split at h
  · omega
  · omega
theorem getu4_u {s : List Int} (h : 0 ≤ getu4 s) : s.getD 0 0 = 92 ∧ s.getD 1 0 = 117 := by
  unfold getu4 at h
  split at h
  · omega
  · rename_i hh
    exact ⟨Classical.byContradiction fun a => hh (.inr (.inl a)), Classical.byContradiction fun a => hh (.inr (.inr a))⟩
theorem escOf_bounds {s : List Int} {r : Int} {n : Nat} (h : escOf s = some (r, n)) : 0 ≤ r ∧ r ≤ 1114111 ∧ 2 ≤ n ∧ n ≤ s.length := by
  unfold escOf at h
  simp only at h
  split at h
  · cases h
  rename_i hl
  split at h
  · cases h; rename_i hc; rcases hc with e | e | e <;> rw [e] <;> omega
  split at h
  · cases h; omega
  split at h
  · cases h; omega
  split at h
  · cases h; omega
  split at h
  · cases h; omega
  split at h
  · cases h; omega
  split at h
  · have hb := getu4_bounds s
    split at h
    · cases h
    rename_i hg
    have hl6 := getu4_length (s := s) (by omega)
    split at h
    · have hp := pairR_bounds (getu4 s) (getu4 (s.drop 6))
      split at h
      · rename_i hne
        cases h
        have h2 : 0 ≤ getu4 (s.drop 6) := by
          apply Classical.byContradiction
          intro hn
          apply hne
          unfold pairR
          rw [if_neg (by omega)]
        have := getu4_length h2
        rw [List.length_drop] at this
        omega
      · cases h; omega
    · cases h; omega
  · cases h
def unesc : Nat → List Int → List Int → Option (List Int)
  | 0, _, _ => none
  | f + 1, acc, data =>
    match idxOf 92 data with
    | none => some (acc ++ data)
    | some i =>
      match escOf (data.drop i) with
      | none => none
      | some (r, n) => unesc f (acc ++ data.take i ++ Lib.encodeRuneZ r) (data.drop (i + n))
end Go.Proofs.YtaecbclonmhbcaaGreatDoor

namespace Go.Proofs.YtaecbclonmhbcaaGreatDoor
open Go.RowKit
theorem wraps_i32 (n : Int) (h₀ : 0 ≤ n) (h₁ : n < 2 ^ 31) : IntKind.i32.wrap n = n := by
  simp [IntKind.wrap, IntKind.bits, IntKind.signed]; omega
theorem or_hex (v d : Int) (hv : 0 ≤ v) (hv1 : v < 65536) (hd : 0 ≤ d) (hd1 : d < 16) : bits .or .i32 (v * 16) d = v * 16 + d :=
  bits_join .i32 31 (by decide) wraps_i32 4 (v * 16) d (by omega) (by omega) (by omega) hd (by omega) (by omega)
def HexRel (xs : List Int) (val i : Value) : Prop :=
  ∃ (k : Nat) (v : Int), k ≤ 4 ∧ i = .int .i64 ((k + 2 : Nat) : Int) ∧ val = .int .i32 v ∧ 0 ≤ v ∧ v < 16 ^ k ∧ hexRow 0 ((xs.drop 2).take 4) = hexRow v (((xs.drop 2).take 4).drop k)
theorem hex_split {xs : List Int} {k : Nat} (hl : 6 ≤ xs.length) (hk : k < 4) : ((xs.drop 2).take 4).drop k = xs.getD (k + 2) 0 :: ((xs.drop 2).take 4).drop (k + 1) := by
  have h : k < ((xs.drop 2).take 4).length := by rw [List.length_take, List.length_drop]; omega
  rw [List.drop_eq_getElem_cons h]
  congr 1
  rw [List.getElem_take, List.getElem_drop]
  simp [List.getD, show 2 + k < xs.length by omega, Nat.add_comm k 2]
theorem pow16 {k : Nat} {v d : Int} (hk : k < 4) (h1 : v < 16 ^ k) (hd : d < 16) : v < 4096 ∧ v * 16 + d < 16 ^ (k + 1) := by
  have : (16 : Int) ^ k ≤ 4096 := by
    match k, hk with
    | 0, _ => decide
    | 1, _ => decide
    | 2, _ => decide
    | 3, _ => decide
  rw [Int.pow_succ]
  omega
theorem HexRel.step {xs : List Int} {k : Nat} {v c d : Int} (hk : k < 4) (hv0 : 0 ≤ v) (hv1 : v < 16 ^ k) (hrow : hexRow 0 ((xs.drop 2).take 4) = hexRow v (((xs.drop 2).take 4).drop k))
    (hsp : ((xs.drop 2).take 4).drop k = c :: ((xs.drop 2).take 4).drop (k + 1)) (hc : hexV c = d) (h0 : 0 ≤ d) (h1 : d < 16) :
    HexRel xs (.int .i32 (bits .or .i32 (wrap32 (v * 16)) d)) (.int .i64 ((k : Int) + 2 + 1)) := by
  obtain ⟨h2, h3⟩ := pow16 hk hv1 h1
  have hw : wrap32 (v * 16) = v * 16 := by unfold wrap32; omega
  rw [hw, or_hex v d hv0 (by omega) h0 h1]
  refine ⟨k + 1, v * 16 + d, by omega, by go_num, rfl, by omega, h3, ?_⟩
  rw [hrow, hsp, hexRow, hc, if_neg (by omega)]
theorem hexRow_stop {xs : List Int} {k : Nat} {v c : Int} (hrow : hexRow 0 ((xs.drop 2).take 4) = hexRow v (((xs.drop 2).take 4).drop k))
    (hsp : ((xs.drop 2).take 4).drop k = c :: ((xs.drop 2).take 4).drop (k + 1)) (hc : hexV c < 0) : hexRow 0 ((xs.drop 2).take 4) = -1 := by
  rw [hrow, hsp, hexRow, if_pos hc]
set_option maxHeartbeats 4000000 in
set_option maxRecDepth 100000 in
theorem getu4_long (b o n cap : Nat) (xs : List Int) (w : World) (hx : xs.length = n) (hn : n ≤ 1073741824) (h6 : 6 ≤ n) (h0 : xs.getD 0 0 = 92) (h1 : xs.getD 1 0 = 117) (hB : Bytes xs)
    (hc : ∀ i, i < n → w.cell? ⟨b, o + i, none⟩ = some (.int .u8 (xs.getD i 0))) :
    Calls Tryz.prog 156 #[.slice (some ⟨b, o, none⟩) n cap] w fun e w' => e = .returned (.int .i32 (hexRow 0 ((xs.drop 2).take 4))) ∧ w = w' := by
  have c0 := hc 0 (by omega)
  have c1 := hc 1 (by omega)
  rw [h0] at c0
  rw [h1] at c1
  simp only [Nat.add_zero] at c0
  have HX := Lib.hid hx
  have HC := Lib.hid hc
  have HB := Lib.hid hB
  have g1 : ¬ (n : Int) < 6 := by omega
  have n0 : 0 < n := by omega
  have n1 : 1 < n := by omega
  clear hx hc hB h0 h1
  go_enter Tryz.func156, Tryz.ntmps156
  go_wp2
  go_loop [3, 4] (fun val i => HexRel xs val i) (fun _ i => 6 - (intOf i).toNat)
  case atStart => exact ⟨0, 0, by decide, rfl, rfl, by decide, by decide, rfl⟩
  case round =>
    obtain ⟨k, v, hk, rfl, rfl, hv0, hv1, hrow⟩ := hrel
    have HR := Lib.hid hrow
    clear hrow
    by_cases hlt : k < 4
    case neg =>
      obtain rfl : k = 4 := by omega
      have e : hexRow 0 ((xs.drop 2).take 4) = v := by
        have h := HR.out
        have h4 : ((xs.drop 2).take 4).drop 4 = [] := List.drop_eq_nil_of_le (by rw [List.length_take, List.length_drop, HX.out]; omega)
        rw [h4] at h
        exact h
      have HE := Lib.hid e
      clear e
      go_wp2
      all_goals
        go_ret
        exact ⟨by rw [HE.out]; rfl, rfl⟩
    case pos =>
      have hcell := HC.out (k + 2) (by omega)
      have hsp := Lib.hid (hex_split (xs := xs) (k := k) (by rw [HX.out]; exact h6) hlt)
      generalize xs.getD (k + 2) 0 = c at hcell hsp
      by_cases hd : (48 ≤ c ∧ c ≤ 57) ∨ (97 ≤ c ∧ c ≤ 102) ∨ (65 ≤ c ∧ c ≤ 70)
      · have hcs : c = 48 ∨ c = 49 ∨ c = 50 ∨ c = 51 ∨ c = 52 ∨ c = 53 ∨ c = 54 ∨ c = 55 ∨ c = 56 ∨ c = 57 ∨ c = 97 ∨ c = 98 ∨ c = 99 ∨ c = 100 ∨ c = 101 ∨ c = 102 ∨ c = 65 ∨ c = 66 ∨ c = 67 ∨ c = 68 ∨ c = 69 ∨ c = 70 := by omega
        clear hd
        rcases hcs with rfl | rfl | rfl | rfl | rfl | rfl | rfl | rfl | rfl | rfl | rfl | rfl | rfl | rfl | rfl | rfl | rfl | rfl | rfl | rfl | rfl | rfl
        · go_wp2
          go_round
          case rel => exact HexRel.step hlt hv0 hv1 HR.out hsp.out (d := 0) (by decide) (by decide) (by decide)
          case measure => simp [intOf]; omega
        · go_wp2
          go_round
          case rel => exact HexRel.step hlt hv0 hv1 HR.out hsp.out (d := 1) (by decide) (by decide) (by decide)
          case measure => simp [intOf]; omega
        · go_wp2
          go_round
          case rel => exact HexRel.step hlt hv0 hv1 HR.out hsp.out (d := 2) (by decide) (by decide) (by decide)
          case measure => simp [intOf]; omega
        · go_wp2
          go_round
          case rel => exact HexRel.step hlt hv0 hv1 HR.out hsp.out (d := 3) (by decide) (by decide) (by decide)
          case measure => simp [intOf]; omega
        · go_wp2
          go_round
          case rel => exact HexRel.step hlt hv0 hv1 HR.out hsp.out (d := 4) (by decide) (by decide) (by decide)
          case measure => simp [intOf]; omega
        · go_wp2
          go_round
          case rel => exact HexRel.step hlt hv0 hv1 HR.out hsp.out (d := 5) (by decide) (by decide) (by decide)
          case measure => simp [intOf]; omega
        · go_wp2
          go_round
          case rel => exact HexRel.step hlt hv0 hv1 HR.out hsp.out (d := 6) (by decide) (by decide) (by decide)
          case measure => simp [intOf]; omega
        · go_wp2
          go_round
          case rel => exact HexRel.step hlt hv0 hv1 HR.out hsp.out (d := 7) (by decide) (by decide) (by decide)
          case measure => simp [intOf]; omega
        · go_wp2
          go_round
          case rel => exact HexRel.step hlt hv0 hv1 HR.out hsp.out (d := 8) (by decide) (by decide) (by decide)
          case measure => simp [intOf]; omega
        · go_wp2
          go_round
          case rel => exact HexRel.step hlt hv0 hv1 HR.out hsp.out (d := 9) (by decide) (by decide) (by decide)
          case measure => simp [intOf]; omega
        · go_wp2
          go_round
          case rel => exact HexRel.step hlt hv0 hv1 HR.out hsp.out (d := 10) (by decide) (by decide) (by decide)
          case measure => simp [intOf]; omega
        · go_wp2
          go_round
          case rel => exact HexRel.step hlt hv0 hv1 HR.out hsp.out (d := 11) (by decide) (by decide) (by decide)
          case measure => simp [intOf]; omega
        · go_wp2
          go_round
          case rel => exact HexRel.step hlt hv0 hv1 HR.out hsp.out (d := 12) (by decide) (by decide) (by decide)
          case measure => simp [intOf]; omega
        · go_wp2
          go_round
          case rel => exact HexRel.step hlt hv0 hv1 HR.out hsp.out (d := 13) (by decide) (by decide) (by decide)
          case measure => simp [intOf]; omega
        · go_wp2
          go_round
          case rel => exact HexRel.step hlt hv0 hv1 HR.out hsp.out (d := 14) (by decide) (by decide) (by decide)
          case measure => simp [intOf]; omega
        · go_wp2
          go_round
          case rel => exact HexRel.step hlt hv0 hv1 HR.out hsp.out (d := 15) (by decide) (by decide) (by decide)
          case measure => simp [intOf]; omega
        · go_wp2
          go_round
          case rel => exact HexRel.step hlt hv0 hv1 HR.out hsp.out (d := 10) (by decide) (by decide) (by decide)
          case measure => simp [intOf]; omega
        · go_wp2
          go_round
          case rel => exact HexRel.step hlt hv0 hv1 HR.out hsp.out (d := 11) (by decide) (by decide) (by decide)
          case measure => simp [intOf]; omega
        · go_wp2
          go_round
          case rel => exact HexRel.step hlt hv0 hv1 HR.out hsp.out (d := 12) (by decide) (by decide) (by decide)
          case measure => simp [intOf]; omega
        · go_wp2
          go_round
          case rel => exact HexRel.step hlt hv0 hv1 HR.out hsp.out (d := 13) (by decide) (by decide) (by decide)
          case measure => simp [intOf]; omega
        · go_wp2
          go_round
          case rel => exact HexRel.step hlt hv0 hv1 HR.out hsp.out (d := 14) (by decide) (by decide) (by decide)
          case measure => simp [intOf]; omega
        · go_wp2
          go_round
          case rel => exact HexRel.step hlt hv0 hv1 HR.out hsp.out (d := 15) (by decide) (by decide) (by decide)
          case measure => simp [intOf]; omega
      · have HS := Lib.hid (hexRow_stop HR.out hsp.out (by unfold hexV; rw [if_neg (by omega), if_neg (by omega), if_neg (by omega)]; decide))
        have n48 : (c == 48) = false := beq_eq_false_iff_ne.2 (by omega)
        have n49 : (c == 49) = false := beq_eq_false_iff_ne.2 (by omega)
        have n50 : (c == 50) = false := beq_eq_false_iff_ne.2 (by omega)
        have n51 : (c == 51) = false := beq_eq_false_iff_ne.2 (by omega)
        have n52 : (c == 52) = false := beq_eq_false_iff_ne.2 (by omega)
        have n53 : (c == 53) = false := beq_eq_false_iff_ne.2 (by omega)
        have n54 : (c == 54) = false := beq_eq_false_iff_ne.2 (by omega)
        have n55 : (c == 55) = false := beq_eq_false_iff_ne.2 (by omega)
        have n56 : (c == 56) = false := beq_eq_false_iff_ne.2 (by omega)
        have n57 : (c == 57) = false := beq_eq_false_iff_ne.2 (by omega)
        have n97 : (c == 97) = false := beq_eq_false_iff_ne.2 (by omega)
        have n98 : (c == 98) = false := beq_eq_false_iff_ne.2 (by omega)
        have n99 : (c == 99) = false := beq_eq_false_iff_ne.2 (by omega)
        have n100 : (c == 100) = false := beq_eq_false_iff_ne.2 (by omega)
        have n101 : (c == 101) = false := beq_eq_false_iff_ne.2 (by omega)
        have n102 : (c == 102) = false := beq_eq_false_iff_ne.2 (by omega)
        have n65 : (c == 65) = false := beq_eq_false_iff_ne.2 (by omega)
        have n66 : (c == 66) = false := beq_eq_false_iff_ne.2 (by omega)
        have n67 : (c == 67) = false := beq_eq_false_iff_ne.2 (by omega)
        have n68 : (c == 68) = false := beq_eq_false_iff_ne.2 (by omega)
        have n69 : (c == 69) = false := beq_eq_false_iff_ne.2 (by omega)
        have n70 : (c == 70) = false := beq_eq_false_iff_ne.2 (by omega)
        clear hd
        go_wp2
        go_ret
        exact ⟨by rw [HS.out]; rfl, rfl⟩
set_option maxHeartbeats 4000000 in
set_option maxRecDepth 100000 in
theorem getu4_no (a : Option Addr) (n cap : Nat) (w : World) (h6 : n < 6) :
    Calls Tryz.prog 156 #[.slice a n cap] w fun e w' => e = .returned (.int .i32 (-1)) ∧ w = w' := by
  have g1 : (n : Int) < 6 := by omega
  go_enter Tryz.func156, Tryz.ntmps156
  go_wp2
  go_ret
  exact ⟨rfl, rfl⟩
set_option maxHeartbeats 4000000 in
set_option maxRecDepth 100000 in
theorem getu4_no0 (b o n cap : Nat) (c0 : Int) (w : World) (h6 : 6 ≤ n) (h0 : w.cell? ⟨b, o, none⟩ = some (.int .u8 c0)) (hne : c0 ≠ 92) :
    Calls Tryz.prog 156 #[.slice (some ⟨b, o, none⟩) n cap] w fun e w' => e = .returned (.int .i32 (-1)) ∧ w = w' := by
  have g1 : ¬ (n : Int) < 6 := by omega
  have g2 : (c0 == 92) = false := beq_eq_false_iff_ne.2 hne
  have g3 : (c0 != 92) = true := bne_iff_ne.2 hne
  have n0 : 0 < n := by omega
  go_enter Tryz.func156, Tryz.ntmps156
  go_wp2
  go_ret
  exact ⟨rfl, rfl⟩
set_option maxHeartbeats 4000000 in
set_option maxRecDepth 100000 in
theorem getu4_no1 (b o n cap : Nat) (c1 : Int) (w : World) (h6 : 6 ≤ n) (h0 : w.cell? ⟨b, o, none⟩ = some (.int .u8 92)) (h1 : w.cell? ⟨b, o + 1, none⟩ = some (.int .u8 c1)) (hne : c1 ≠ 117) :
    Calls Tryz.prog 156 #[.slice (some ⟨b, o, none⟩) n cap] w fun e w' => e = .returned (.int .i32 (-1)) ∧ w = w' := by
  have g1 : ¬ (n : Int) < 6 := by omega
  have g2 : (c1 == 117) = false := beq_eq_false_iff_ne.2 hne
  have g3 : (c1 != 117) = true := bne_iff_ne.2 hne
  have n0 : 0 < n := by omega
  have n1 : 1 < n := by omega
  go_enter Tryz.func156, Tryz.ntmps156
  go_wp2
  go_ret
  exact ⟨rfl, rfl⟩
theorem getu4_any (b o n cap : Nat) (xs : List Int) (w : World) (hx : xs.length = n) (hn : n ≤ 1073741824) (hB : Bytes xs)
    (hc : ∀ i, i < n → w.cell? ⟨b, o + i, none⟩ = some (.int .u8 (xs.getD i 0))) :
    Calls Tryz.prog 156 #[.slice (some ⟨b, o, none⟩) n cap] w fun e w' => e = .returned (.int .i32 (getu4 xs)) ∧ w = w' := by
  unfold getu4
  by_cases h6 : n < 6
  · rw [if_pos (.inl (by omega))]
    exact getu4_no _ n cap w h6
  by_cases h0 : xs.getD 0 0 = 92
  case neg =>
    rw [if_pos (.inr (.inl h0))]
    exact getu4_no0 b o n cap _ w (by omega) (hc 0 (by omega)) h0
  by_cases h1 : xs.getD 1 0 = 117
  case neg =>
    rw [if_pos (.inr (.inr h1))]
    have c0 := hc 0 (by omega)
    rw [h0] at c0
    exact getu4_no1 b o n cap _ w (by omega) c0 (hc 1 (by omega)) h1
  rw [if_neg (by intro h; rcases h with h | h | h; omega; exact h h0; exact h h1)]
  exact getu4_long b o n cap xs w hx hn (by omega) h0 h1 hB hc
end Go.Proofs.YtaecbclonmhbcaaGreatDoor

namespace Go.Proofs.YtaecbclonmhbcaaGreatDoor
open Go.RowKit
set_option maxHeartbeats 1000000 in
theorem isSurr_yes (r : Int) (w : World) (h0 : 55296 ≤ r) (h1 : r < 57344) : Calls Tryz.prog 157 #[.int .i32 r] w fun e w' => e = .returned (.bool true) ∧ w = w' := by
  go_enter Tryz.func157, Tryz.ntmps157
  go_wp2
  go_ret
  exact ⟨rfl, rfl⟩
set_option maxHeartbeats 1000000 in
theorem isSurr_no (r : Int) (w : World) (h : r < 55296 ∨ 57344 ≤ r) : Calls Tryz.prog 157 #[.int .i32 r] w fun e w' => e = .returned (.bool false) ∧ w = w' := by
  rcases h with h | h
  · have h' : ¬ 55296 ≤ r := by omega
    go_enter Tryz.func157, Tryz.ntmps157
    go_wp2
    go_ret
    exact ⟨rfl, rfl⟩
  · have h0 : 55296 ≤ r := by omega
    have h' : ¬ r < 57344 := by omega
    go_enter Tryz.func157, Tryz.ntmps157
    go_wp2
    go_ret
    exact ⟨rfl, rfl⟩
theorem or_pair (a b : Int) (ha : 0 ≤ a) (ha1 : a < 1024) (hb : 0 ≤ b) (hb1 : b < 1024) : bits .or .i32 (a * 1024) b = a * 1024 + b :=
  bits_join .i32 31 (by decide) wraps_i32 10 (a * 1024) b (by omega) (by omega) (by omega) hb (by omega) (by omega)
set_option maxHeartbeats 1000000 in
theorem decodeRune_yes (a b : Int) (w : World) (h0 : 55296 ≤ a) (h1 : a < 56320) (h2 : 56320 ≤ b) (h3 : b < 57344) : Calls Tryz.prog 158 #[.int .i32 a, .int .i32 b] w fun e w' => e = .returned (.int .i32 (pairR a b)) ∧ w = w' := by
  have he : pairR a b = (a - 55296) * 1024 + (b - 56320) + 65536 := by unfold pairR; rw [if_pos ⟨h0, h1, h2, h3⟩]
  rw [he]
  have ho := or_pair (a - 55296) (b - 56320) (by omega) (by omega) (by omega) (by omega)
  have HO := Lib.hid ho
  clear ho he
  go_enter Tryz.func158, Tryz.ntmps158
  go_wp2
  go_ret
  refine ⟨?_, rfl⟩
  have hw2 : wrap32 ((a - 55296) * 1024 + (b - 56320) + 65536) = (a - 55296) * 1024 + (b - 56320) + 65536 := by unfold wrap32; omega
  simp only [HO.out, hw2]
  rfl
set_option maxHeartbeats 1000000 in
theorem decodeRune_no (a b : Int) (w : World) (h : ¬ (55296 ≤ a ∧ a < 56320 ∧ 56320 ≤ b ∧ b < 57344)) : Calls Tryz.prog 158 #[.int .i32 a, .int .i32 b] w fun e w' => e = .returned (.int .i32 (pairR a b)) ∧ w = w' := by
  have he : pairR a b = 65533 := by unfold pairR; rw [if_neg h]
  rw [he]
  clear he
  by_cases h0 : 55296 ≤ a
  · by_cases h1 : a < 56320
    · by_cases h2 : 56320 ≤ b
      · have h3 : ¬ b < 57344 := fun h3 => h ⟨h0, h1, h2, h3⟩
        clear h
        go_enter Tryz.func158, Tryz.ntmps158
        go_wp2
        go_ret
        exact ⟨rfl, rfl⟩
      · clear h
        go_enter Tryz.func158, Tryz.ntmps158
        go_wp2
        go_ret
        exact ⟨rfl, rfl⟩
    · clear h
      go_enter Tryz.func158, Tryz.ntmps158
      go_wp2
      go_ret
      exact ⟨rfl, rfl⟩
  · clear h
    go_enter Tryz.func158, Tryz.ntmps158
    go_wp2
    go_ret
    exact ⟨rfl, rfl⟩
theorem decodeRune_any (a b : Int) (w : World) : Calls Tryz.prog 158 #[.int .i32 a, .int .i32 b] w fun e w' => e = .returned (.int .i32 (pairR a b)) ∧ w = w' := by
  by_cases h : 55296 ≤ a ∧ a < 56320 ∧ 56320 ≤ b ∧ b < 57344
  · exact decodeRune_yes a b w h.1 h.2.1 h.2.2.1 h.2.2.2
  · exact decodeRune_no a b w h
def NewErr (w : World) (v : Value) (w' : World) : Prop := ∃ t : ByteArray, v = .iface 191 (.pointer (some ⟨w.heap.size, 0, none⟩)) ∧ w' = w.alloc (.cells #[.string t] 193)
set_option maxHeartbeats 1000000 in
theorem errNew_any (t : ByteArray) (w : World) : Calls Tryz.prog 155 #[.string t] w fun e w' => e = .returned (.iface 191 (.pointer (some ⟨w.heap.size, 0, none⟩))) ∧ w' = w.alloc (.cells #[.string t] 193) := by
  go_enter Tryz.func155, Tryz.ntmps155
  go_wp2
  go_ret
  exact ⟨rfl, rfl⟩
def EscBad (w : World) (e : Ending) (w' : World) : Prop := ∃ v, NewErr w v w' ∧ e = .returned (.tuple #[.int .i32 0, .int .i64 0, v])
set_option maxHeartbeats 1000000 in
set_option maxRecDepth 100000 in
theorem esc_short (a : Option Addr) (n cap : Nat) (w : World) (h : n < 2) : Calls Tryz.prog 133 #[.slice a n cap] w (EscBad w) := by
  have h' : (n : Int) < 2 := by omega
  go_enter Tryz.func133, Tryz.ntmps133
  go_wp2_with (go_at_call 155; refine (errNew_any _ _).mono ?_; rintro e w1 ⟨rfl, rfl⟩)
  go_ret3
  exact ⟨_, ⟨_, rfl, rfl⟩, rfl⟩
set_option maxHeartbeats 1000000 in
set_option maxRecDepth 100000 in
theorem esc_34 (b o n cap : Nat) (w : World) (h : 2 ≤ n) (h1 : w.cell? ⟨b, o + 1, none⟩ = some (.int .u8 34)) :
    Calls Tryz.prog 133 #[.slice (some ⟨b, o, none⟩) n cap] w fun e w' => e = .returned (.tuple #[.int .i32 34, .int .i64 2, .nilIface]) ∧ w = w' := by
  have h' : ¬ (n : Int) < 2 := by omega
  have n1 : 1 < n := by omega
  go_enter Tryz.func133, Tryz.ntmps133
  go_wp2
  go_ret3
  exact ⟨rfl, rfl⟩
set_option maxHeartbeats 1000000 in
set_option maxRecDepth 100000 in
theorem esc_47 (b o n cap : Nat) (w : World) (h : 2 ≤ n) (h1 : w.cell? ⟨b, o + 1, none⟩ = some (.int .u8 47)) :
    Calls Tryz.prog 133 #[.slice (some ⟨b, o, none⟩) n cap] w fun e w' => e = .returned (.tuple #[.int .i32 47, .int .i64 2, .nilIface]) ∧ w = w' := by
  have h' : ¬ (n : Int) < 2 := by omega
  have n1 : 1 < n := by omega
  go_enter Tryz.func133, Tryz.ntmps133
  go_wp2
  go_ret3
  exact ⟨rfl, rfl⟩
set_option maxHeartbeats 1000000 in
set_option maxRecDepth 100000 in
theorem esc_92 (b o n cap : Nat) (w : World) (h : 2 ≤ n) (h1 : w.cell? ⟨b, o + 1, none⟩ = some (.int .u8 92)) :
    Calls Tryz.prog 133 #[.slice (some ⟨b, o, none⟩) n cap] w fun e w' => e = .returned (.tuple #[.int .i32 92, .int .i64 2, .nilIface]) ∧ w = w' := by
  have h' : ¬ (n : Int) < 2 := by omega
  have n1 : 1 < n := by omega
  go_enter Tryz.func133, Tryz.ntmps133
  go_wp2
  go_ret3
  exact ⟨rfl, rfl⟩
set_option maxHeartbeats 1000000 in
set_option maxRecDepth 100000 in
theorem esc_98 (b o n cap : Nat) (w : World) (h : 2 ≤ n) (h1 : w.cell? ⟨b, o + 1, none⟩ = some (.int .u8 98)) :
    Calls Tryz.prog 133 #[.slice (some ⟨b, o, none⟩) n cap] w fun e w' => e = .returned (.tuple #[.int .i32 8, .int .i64 2, .nilIface]) ∧ w = w' := by
  have h' : ¬ (n : Int) < 2 := by omega
  have n1 : 1 < n := by omega
  go_enter Tryz.func133, Tryz.ntmps133
  go_wp2
  go_ret3
  exact ⟨rfl, rfl⟩
set_option maxHeartbeats 1000000 in
set_option maxRecDepth 100000 in
theorem esc_102 (b o n cap : Nat) (w : World) (h : 2 ≤ n) (h1 : w.cell? ⟨b, o + 1, none⟩ = some (.int .u8 102)) :
    Calls Tryz.prog 133 #[.slice (some ⟨b, o, none⟩) n cap] w fun e w' => e = .returned (.tuple #[.int .i32 12, .int .i64 2, .nilIface]) ∧ w = w' := by
  have h' : ¬ (n : Int) < 2 := by omega
  have n1 : 1 < n := by omega
  go_enter Tryz.func133, Tryz.ntmps133
  go_wp2
  go_ret3
  exact ⟨rfl, rfl⟩
set_option maxHeartbeats 1000000 in
set_option maxRecDepth 100000 in
theorem esc_110 (b o n cap : Nat) (w : World) (h : 2 ≤ n) (h1 : w.cell? ⟨b, o + 1, none⟩ = some (.int .u8 110)) :
    Calls Tryz.prog 133 #[.slice (some ⟨b, o, none⟩) n cap] w fun e w' => e = .returned (.tuple #[.int .i32 10, .int .i64 2, .nilIface]) ∧ w = w' := by
  have h' : ¬ (n : Int) < 2 := by omega
  have n1 : 1 < n := by omega
  go_enter Tryz.func133, Tryz.ntmps133
  go_wp2
  go_ret3
  exact ⟨rfl, rfl⟩
set_option maxHeartbeats 1000000 in
set_option maxRecDepth 100000 in
theorem esc_114 (b o n cap : Nat) (w : World) (h : 2 ≤ n) (h1 : w.cell? ⟨b, o + 1, none⟩ = some (.int .u8 114)) :
    Calls Tryz.prog 133 #[.slice (some ⟨b, o, none⟩) n cap] w fun e w' => e = .returned (.tuple #[.int .i32 13, .int .i64 2, .nilIface]) ∧ w = w' := by
  have h' : ¬ (n : Int) < 2 := by omega
  have n1 : 1 < n := by omega
  go_enter Tryz.func133, Tryz.ntmps133
  go_wp2
  go_ret3
  exact ⟨rfl, rfl⟩
set_option maxHeartbeats 1000000 in
set_option maxRecDepth 100000 in
theorem esc_116 (b o n cap : Nat) (w : World) (h : 2 ≤ n) (h1 : w.cell? ⟨b, o + 1, none⟩ = some (.int .u8 116)) :
    Calls Tryz.prog 133 #[.slice (some ⟨b, o, none⟩) n cap] w fun e w' => e = .returned (.tuple #[.int .i32 9, .int .i64 2, .nilIface]) ∧ w = w' := by
  have h' : ¬ (n : Int) < 2 := by omega
  have n1 : 1 < n := by omega
  go_enter Tryz.func133, Tryz.ntmps133
  go_wp2
  go_ret3
  exact ⟨rfl, rfl⟩
set_option maxHeartbeats 1000000 in
set_option maxRecDepth 100000 in
theorem esc_other (b o n cap : Nat) (c : Int) (w : World) (h : 2 ≤ n) (h1 : w.cell? ⟨b, o + 1, none⟩ = some (.int .u8 c))
    (hc : ¬ (c = 34 ∨ c = 47 ∨ c = 92 ∨ c = 98 ∨ c = 102 ∨ c = 110 ∨ c = 114 ∨ c = 116 ∨ c = 117)) : Calls Tryz.prog 133 #[.slice (some ⟨b, o, none⟩) n cap] w (EscBad w) := by
  have h' : ¬ (n : Int) < 2 := by omega
  have n1 : 1 < n := by omega
  have n34 : (c == 34) = false := beq_eq_false_iff_ne.2 (by omega)
  have n47 : (c == 47) = false := beq_eq_false_iff_ne.2 (by omega)
  have n92 : (c == 92) = false := beq_eq_false_iff_ne.2 (by omega)
  have n98 : (c == 98) = false := beq_eq_false_iff_ne.2 (by omega)
  have n102 : (c == 102) = false := beq_eq_false_iff_ne.2 (by omega)
  have n110 : (c == 110) = false := beq_eq_false_iff_ne.2 (by omega)
  have n114 : (c == 114) = false := beq_eq_false_iff_ne.2 (by omega)
  have n116 : (c == 116) = false := beq_eq_false_iff_ne.2 (by omega)
  have n117 : (c == 117) = false := beq_eq_false_iff_ne.2 (by omega)
  clear hc
  go_enter Tryz.func133, Tryz.ntmps133
  go_wp2_with (go_at_call 155; refine (errNew_any _ _).mono ?_; rintro e w1 ⟨rfl, rfl⟩)
  go_ret3
  exact ⟨_, ⟨_, rfl, rfl⟩, rfl⟩
structure U4 (b o n cap : Nat) (g g2 : Int) (w : World) : Prop where
  one : Calls Tryz.prog 156 #[.slice (some ⟨b, o, none⟩) n cap] w fun e w' => e = .returned (.int .i32 g) ∧ w = w'
  two : ∀ o' c', (cap = 6 ∨ o' = o + 6) → Calls Tryz.prog 156 #[.slice (some ⟨b, o', none⟩) (n - 6) c'] w fun e w' => e = .returned (.int .i32 g2) ∧ w = w'
set_option maxHeartbeats 1000000 in
set_option maxRecDepth 100000 in
theorem esc_u_bad (b o n cap : Nat) (g g2 : Int) (w : World) (h : 2 ≤ n) (h1 : w.cell? ⟨b, o + 1, none⟩ = some (.int .u8 117)) (hU : U4 b o n cap g g2 w) (hg : g < 0) :
    Calls Tryz.prog 133 #[.slice (some ⟨b, o, none⟩) n cap] w (EscBad w) := by
  have h' : ¬ (n : Int) < 2 := by omega
  have n1 : 1 < n := by omega
  go_enter Tryz.func133, Tryz.ntmps133
  go_wp2_with (first | (go_at_call 156; refine hU.one.mono ?_; rintro e w1 ⟨rfl, rfl⟩) | (go_at_call 155; refine (errNew_any _ _).mono ?_; rintro e w1 ⟨rfl, rfl⟩))
  go_ret3
  exact ⟨_, ⟨_, rfl, rfl⟩, rfl⟩
set_option maxHeartbeats 1000000 in
set_option maxRecDepth 100000 in
theorem esc_u_plain (b o n cap : Nat) (g g2 : Int) (w : World) (h : 2 ≤ n) (h1 : w.cell? ⟨b, o + 1, none⟩ = some (.int .u8 117)) (hU : U4 b o n cap g g2 w) (hg : 0 ≤ g) (hs : g < 55296 ∨ 57344 ≤ g) :
    Calls Tryz.prog 133 #[.slice (some ⟨b, o, none⟩) n cap] w fun e w' => e = .returned (.tuple #[.int .i32 g, .int .i64 6, .nilIface]) ∧ w = w' := by
  have h' : ¬ (n : Int) < 2 := by omega
  have n1 : 1 < n := by omega
  have hg' : ¬ g < 0 := by omega
  have HS := Lib.hid hs
  clear hs
  go_enter Tryz.func133, Tryz.ntmps133
  go_wp2_with (first | (go_at_call 156; refine hU.one.mono ?_; rintro e w1 ⟨rfl, rfl⟩) | (go_at_call 157; refine (isSurr_no _ _ HS.out).mono ?_; rintro e w1 ⟨rfl, rfl⟩))
  go_ret3
  exact ⟨rfl, rfl⟩
set_option maxHeartbeats 1000000 in
set_option maxRecDepth 100000 in
theorem esc_u_pair (b o n cap : Nat) (g g2 : Int) (w : World) (h6 : 6 ≤ n) (hn : n ≤ cap) (hnb : n ≤ 1073741824) (h1 : w.cell? ⟨b, o + 1, none⟩ = some (.int .u8 117)) (hU : U4 b o n cap g g2 w) (hs0 : 55296 ≤ g) (hs1 : g < 57344) (hp : pairR g g2 ≠ 65533) :
    Calls Tryz.prog 133 #[.slice (some ⟨b, o, none⟩) n cap] w fun e w' => e = .returned (.tuple #[.int .i32 (pairR g g2), .int .i64 12, .nilIface]) ∧ w = w' := by
  have h' : ¬ (n : Int) < 2 := by omega
  have n1 : 1 < n := by omega
  have hg' : ¬ g < 0 := by omega
  have n6 : (6 : Int) ≤ (n : Int) := by omega
  have n7 : (6 : Int) ≤ (cap : Int) := by omega
  have hd := decodeRune_any g g2 w
  obtain ⟨P, hP⟩ : ∃ P, P = pairR g g2 := ⟨_, rfl⟩
  rw [← hP] at hd
  have HP := Lib.hid hP
  have HD := Lib.hid hd
  clear hd hP
  have p1 : (P == 65533) = false := beq_eq_false_iff_ne.2 (by rw [HP.out]; exact hp)
  have p2 : (P != 65533) = true := bne_iff_ne.2 (by rw [HP.out]; exact hp)
  have hb := pairR_bounds g g2
  have p3 : 65533 ≤ P := by rw [HP.out]; omega
  have p4 : P ≤ 1114111 := by rw [HP.out]; omega
  clear hb
  clear hp
  by_cases hc : cap = 6
  · have HC := Lib.hid hc; have c1 : cap ≤ 6 := (by omega); clear hc
    go_enter Tryz.func133, Tryz.ntmps133
    go_wp2_with (first
      | (go_at_call 156; with_reducible refine hU.one.mono ?_; rintro e w1 ⟨rfl, rfl⟩)
      | (go_at_call 156; refine (hU.two _ _ (.inl HC.out)).mono ?_; rintro e w1 ⟨rfl, rfl⟩)
      | (go_at_call 157; refine (isSurr_yes _ _ hs0 hs1).mono ?_; rintro e w1 ⟨rfl, rfl⟩)
      | (go_at_call 158; refine HD.out.mono ?_; rintro e w1 ⟨rfl, rfl⟩))
    go_ret3
    exact ⟨by rw [HP.out]; rfl, rfl⟩
  · have hc2 : 6 ≠ cap := Ne.symm hc
    go_enter Tryz.func133, Tryz.ntmps133
    go_wp2_with (first
      | (go_at_call 156; with_reducible refine hU.one.mono ?_; rintro e w1 ⟨rfl, rfl⟩)
      | (go_at_call 156; refine (hU.two _ _ (.inr rfl)).mono ?_; rintro e w1 ⟨rfl, rfl⟩)
      | (go_at_call 157; refine (isSurr_yes _ _ hs0 hs1).mono ?_; rintro e w1 ⟨rfl, rfl⟩)
      | (go_at_call 158; refine HD.out.mono ?_; rintro e w1 ⟨rfl, rfl⟩))
    go_ret3
    exact ⟨by rw [HP.out]; rfl, rfl⟩
set_option maxHeartbeats 1000000 in
set_option maxRecDepth 100000 in
theorem esc_u_alone (b o n cap : Nat) (g g2 : Int) (w : World) (h6 : 6 ≤ n) (hn : n ≤ cap) (hnb : n ≤ 1073741824) (h1 : w.cell? ⟨b, o + 1, none⟩ = some (.int .u8 117)) (hU : U4 b o n cap g g2 w) (hs0 : 55296 ≤ g) (hs1 : g < 57344) (hp : pairR g g2 = 65533) :
    Calls Tryz.prog 133 #[.slice (some ⟨b, o, none⟩) n cap] w fun e w' => e = .returned (.tuple #[.int .i32 65533, .int .i64 6, .nilIface]) ∧ w = w' := by
  have h' : ¬ (n : Int) < 2 := by omega
  have n1 : 1 < n := by omega
  have hg' : ¬ g < 0 := by omega
  have n6 : (6 : Int) ≤ (n : Int) := by omega
  have n7 : (6 : Int) ≤ (cap : Int) := by omega
  have hd := decodeRune_any g g2 w
  obtain ⟨P, hP⟩ : ∃ P, P = pairR g g2 := ⟨_, rfl⟩
  rw [← hP] at hd
  have HP := Lib.hid hP
  have HD := Lib.hid hd
  clear hd hP
  obtain rfl : P = 65533 := by rw [HP.out]; exact hp
  clear hp
  by_cases hc : cap = 6
  · have HC := Lib.hid hc; have c1 : cap ≤ 6 := (by omega); clear hc
    go_enter Tryz.func133, Tryz.ntmps133
    go_wp2_with (first
      | (go_at_call 156; with_reducible refine hU.one.mono ?_; rintro e w1 ⟨rfl, rfl⟩)
      | (go_at_call 156; refine (hU.two _ _ (.inl HC.out)).mono ?_; rintro e w1 ⟨rfl, rfl⟩)
      | (go_at_call 157; refine (isSurr_yes _ _ hs0 hs1).mono ?_; rintro e w1 ⟨rfl, rfl⟩)
      | (go_at_call 158; refine HD.out.mono ?_; rintro e w1 ⟨rfl, rfl⟩))
    go_ret3
    exact ⟨rfl, rfl⟩
  · have hc2 : 6 ≠ cap := Ne.symm hc
    go_enter Tryz.func133, Tryz.ntmps133
    go_wp2_with (first
      | (go_at_call 156; with_reducible refine hU.one.mono ?_; rintro e w1 ⟨rfl, rfl⟩)
      | (go_at_call 156; refine (hU.two _ _ (.inr rfl)).mono ?_; rintro e w1 ⟨rfl, rfl⟩)
      | (go_at_call 157; refine (isSurr_yes _ _ hs0 hs1).mono ?_; rintro e w1 ⟨rfl, rfl⟩)
      | (go_at_call 158; refine HD.out.mono ?_; rintro e w1 ⟨rfl, rfl⟩))
    go_ret3
    exact ⟨rfl, rfl⟩
end Go.Proofs.YtaecbclonmhbcaaGreatDoor

namespace Go.Proofs.YtaecbclonmhbcaaGreatDoor
open Go.RowKit
theorem u4_of (b o n cap : Nat) (xs : List Int) (w : World) (hx : xs.length = n) (hn : n ≤ 1073741824) (hcap : n ≤ cap) (hB : Bytes xs)
    (hc : ∀ i, i < n → w.cell? ⟨b, o + i, none⟩ = some (.int .u8 (xs.getD i 0))) : U4 b o n cap (getu4 xs) (getu4 (xs.drop 6)) w := by
  refine ⟨getu4_any b o n cap xs w hx hn hB hc, fun o' c' ho => ?_⟩
  by_cases h6 : n - 6 = 0
  · have he : getu4 (xs.drop 6) = -1 := by
      unfold getu4
      rw [if_pos (.inl (by rw [List.length_drop]; omega))]
    rw [he, h6]
    exact getu4_no _ 0 c' w (by decide)
  · rcases ho with ho | rfl
    · omega
    · refine getu4_any b (o + 6) (n - 6) c' (xs.drop 6) w (by rw [List.length_drop, hx]) (by omega) (hB.drop 6) fun i hi => ?_
      rw [getD_drop, ← hc (6 + i) (by omega), Nat.add_assoc]
def EscDone (w : World) (r : Option (Int × Nat)) (e : Ending) (w' : World) : Prop :=
  match r with
  | some (r, n) => e = .returned (.tuple #[.int .i32 r, .int .i64 n, .nilIface]) ∧ w = w'
  | none => EscBad w e w'
theorem decode_any (b o n cap : Nat) (xs : List Int) (w : World) (hx : xs.length = n) (hn : n ≤ 1073741824) (hcap : n ≤ cap) (hB : Bytes xs)
    (hc : ∀ i, i < n → w.cell? ⟨b, o + i, none⟩ = some (.int .u8 (xs.getD i 0))) :
    Calls Tryz.prog 133 #[.slice (some ⟨b, o, none⟩) n cap] w (EscDone w (escOf xs)) := by
  unfold escOf
  simp only
  by_cases h2 : n < 2
  · rw [if_pos (by omega)]
    exact esc_short _ n cap w h2
  rw [if_neg (by omega)]
  have h1 := hc 1 (by omega)
  have hU := u4_of b o n cap xs w hx hn hcap hB hc
  generalize xs.getD 1 0 = c at h1 ⊢
  by_cases e34 : c = 34
  · subst e34; exact esc_34 b o n cap w (by omega) h1
  by_cases e47 : c = 47
  · subst e47; exact esc_47 b o n cap w (by omega) h1
  by_cases e92 : c = 92
  · subst e92; exact esc_92 b o n cap w (by omega) h1
  rw [if_neg (by omega)]
  by_cases e98 : c = 98
  · subst e98; exact esc_98 b o n cap w (by omega) h1
  rw [if_neg e98]
  by_cases e102 : c = 102
  · subst e102; exact esc_102 b o n cap w (by omega) h1
  rw [if_neg e102]
  by_cases e110 : c = 110
  · subst e110; exact esc_110 b o n cap w (by omega) h1
  rw [if_neg e110]
  by_cases e114 : c = 114
  · subst e114; exact esc_114 b o n cap w (by omega) h1
  rw [if_neg e114]
  by_cases e116 : c = 116
  · subst e116; exact esc_116 b o n cap w (by omega) h1
  rw [if_neg e116]
  by_cases e117 : c = 117
  case neg =>
    rw [if_neg e117]
    exact esc_other b o n cap c w (by omega) h1 (by omega)
  subst e117
  rw [if_pos rfl]
  have hgb := getu4_bounds xs
  have hgl := getu4_length (s := xs)
  generalize getu4 xs = g at hU hgb hgl ⊢
  generalize getu4 (xs.drop 6) = g2 at hU ⊢
  by_cases hg : g < 0
  · rw [if_pos hg]
    exact esc_u_bad b o n cap g g2 w (by omega) h1 hU hg
  rw [if_neg hg]
  have h6 : 6 ≤ n := by have := hgl (by omega); omega
  by_cases hs : 55296 ≤ g ∧ g < 57344
  case neg =>
    rw [if_neg hs]
    exact esc_u_plain b o n cap g g2 w (by omega) h1 hU (by omega) (by omega)
  rw [if_pos hs]
  by_cases hp : pairR g g2 = 65533
  · rw [if_neg (fun h => h hp)]
    exact esc_u_alone b o n cap g g2 w h6 hcap hn h1 hU hs.1 hs.2 hp
  · rw [if_pos hp]
    exact esc_u_pair b o n cap g g2 w h6 hcap hn h1 hU hs.1 hs.2 hp
end Go.Proofs.YtaecbclonmhbcaaGreatDoor

namespace Go.Proofs.YtaecbclonmhbcaaGreatDoor
open Go.RowKit
section
variable {w : World} {b : Nat} {ae : Sur} {ao : Addr} {x : Lx} {vd vt ve vm : Value}
theorem fetch_end (h : x.pos = x.d.length) : x.fetch = { x with kind := 0, start := x.pos, err := .eof } := by
  unfold Lx.fetch
  rw [h, List.drop_length]
  rfl
set_option maxHeartbeats 4000000 in
set_option maxRecDepth 100000 in
theorem fetchToken_cap (bd o : Nat) (h : LexAt w b ae ao x (.slice (some ⟨bd, o, none⟩) x.d.length x.d.length) vt ve vm) (hw : x.Wf) (hp : x.pos = x.d.length) :
    Calls Tryz.prog 86 #[.pointer (some ⟨b, 0, none⟩)] w fun e w' => e = .returned (.tuple #[]) ∧ NumDone w b ae ao x.fetch (.slice (some ⟨bd, o, none⟩) x.d.length x.d.length) vm w' := by
  have HE := Lib.hid (fetch_end hp)
  have c0 := h.c0
  have c1 := h.c1
  have c2 := h.c2
  have c3 := h.c3
  have c11 := h.c11
  have f1 := h.free 1
  have f3 := h.free 3
  have f11 := h.free 11
  have eeof := h.env.eof
  have hb2 := h.b2
  have hb3 : ¬ b = 1 := by omega
  have hb4 : ¬ 1 = b := by omega
  have hl := hw.len
  rw [hp] at c2
  have HP := Lib.hid hp
  clear hp
  generalize hn : x.d.length = n at c0 c2 hl
  have HN := Lib.hid hn
  clear hn
  have H1 := Lib.hid h
  clear h
  go_enter Tryz.func86, Tryz.ntmps86
  go_wp2
  go_quiet (fail)
  go_wp2
  go_quiet (fail)
  go_wp2
  go_loop [37] (fun i => i = .int .i64 0) (fun _ => 0)
  case atStart => rfl
  case round =>
    subst hrel
    go_wp2
    (try simp only [Exit.inBlock, Exit.then])
    refine bodyPost_ret (results_none rfl _ _ _) rfl ?_
    have e : n = x.pos := (HP.out.trans HN.out).symm
    have g := H1.out
    rw [HN.out, e] at g
    rw [HE.out, e]
    exact ⟨rfl, _, _, (((g.setKind 0).setStart x.pos).drewN _).setErr (.iface 191 (.pointer (some ae.addr))) .eof rfl, ((((Kept.refl b w).setCell 3 _).setCell 1 _).drewN _).setCell 11 _⟩
set_option maxHeartbeats 4000000 in
set_option maxRecDepth 100000 in
theorem fetchToken_none (h : LexAt w b ae ao x (.slice none 0 0) vt ve vm) (hp : x.pos = 0) (hd : x.d.length = 0) :
    Calls Tryz.prog 86 #[.pointer (some ⟨b, 0, none⟩)] w fun e w' => e = .returned (.tuple #[]) ∧ NumDone w b ae ao x.fetch (.slice none 0 0) vm w' := by
  have HE : RowKit.Hid (x.fetch = { x with kind := 0, start := 0, err := .eof }) := by
    show _ = _
    rw [fetch_end (by omega)]; simp [hp]
  have c0 := h.c0
  have c1 := h.c1
  have c2 := h.c2
  have c3 := h.c3
  have c11 := h.c11
  have f1 := h.free 1
  have f3 := h.free 3
  have f11 := h.free 11
  have eeof := h.env.eof
  have hb2 := h.b2
  have hb3 : ¬ b = 1 := by omega
  have hb4 : ¬ 1 = b := by omega
  rw [hp] at c2
  have H1 := Lib.hid h
  clear hp h hd
  go_enter Tryz.func86, Tryz.ntmps86
  go_wp2
  go_quiet (fail)
  go_wp2
  go_quiet (fail)
  go_wp2
  go_loop [37] (fun i => i = .int .i64 0) (fun _ => 0)
  case atStart => rfl
  case round =>
    subst hrel
    go_wp2
    (try simp only [Exit.inBlock, Exit.then])
    refine bodyPost_ret (results_none rfl _ _ _) rfl ?_
    rw [HE.out]
    exact ⟨rfl, _, _, (((H1.out.setKind 0).setStart 0).drewN _).setErr (.iface 191 (.pointer (some ae.addr))) .eof rfl, ((((Kept.refl b w).setCell 3 _).setCell 1 _).drewN _).setCell 11 _⟩
end
end Go.Proofs.YtaecbclonmhbcaaGreatDoor

namespace Go.Proofs.YtaecbclonmhbcaaGreatDoor
structure Lx.Same (x y : Lx) : Prop where
  d : y.d = x.d
  multi : y.multi = x.multi
  errs : y.errs = x.errs
theorem Lx.Same.refl (x : Lx) : x.Same x := ⟨rfl, rfl, rfl⟩
theorem Lx.Same.trans {x y z : Lx} (h : x.Same y) (k : y.Same z) : x.Same z := ⟨k.d.trans h.d, k.multi.trans h.multi, k.errs.trans h.errs⟩
section
variable {x : Lx}
theorem Lx.Same.of {x y z : Lx} (h : y.Same z) (hd : y.d = x.d) (hm : y.multi = x.multi) (he : y.errs = x.errs) : x.Same z := ⟨h.d.trans hd, h.multi.trans hm, h.errs.trans he⟩
theorem fail_same : x.Same x.fail := by unfold Lx.fail; split <;> exact ⟨rfl, rfl, rfl⟩
theorem sepFail_same : x.Same x.sepFail := by unfold Lx.sepFail; split; exact fail_same; exact Lx.Same.refl x
theorem sepFail_pos : x.sepFail.pos = x.pos := by unfold Lx.sepFail; split; exact fail_pos; rfl
theorem sepFail_start : x.sepFail.start = x.start := by unfold Lx.sepFail; split; exact fail_start; rfl
theorem word_same (ws : List Int) : x.Same (x.word ws) := by unfold Lx.word; split; exact ⟨rfl, rfl, rfl⟩; exact fail_same
theorem fetchNumber_same : x.Same x.fetchNumber := by
  unfold Lx.fetchNumber
  split
  · exact ⟨rfl, rfl, rfl⟩
  · split
    · exact ⟨rfl, rfl, rfl⟩
    · exact fail_same.of rfl rfl rfl
theorem fetchString_same : x.Same x.fetchString := by
  unfold Lx.fetchString
  split
  · exact ⟨rfl, rfl, rfl⟩
  · exact fail_same.of rfl rfl rfl
theorem wordAt_len {d : List Int} {p : Nat} {ws : List Int} (h : wordAt d p ws = true) (hp : p < d.length) : p + 1 + ws.length ≤ d.length := by
  simp only [wordAt, Bool.and_eq_true, beq_iff_eq] at h
  have := congrArg List.length h.1
  simp at this
  omega
theorem numScan_le : ∀ (l : List Int) (e a t : Bool), (numScan l e a t).1 ≤ l.length
  | [], _, _, _ => Nat.le_refl _
  | c :: cs, e, a, t => by
    simp only [numScan]
    split
    · have := numScan_le cs e false t; simp; omega
    · split
      · have := numScan_le cs e a true; simp; omega
      · split
        · have := numScan_le cs true true true; simp; omega
        · split
          · have := numScan_le cs e false t; simp; omega
          · simp
theorem word_wf (h : x.Wf) (hp : x.pos < x.d.length) (ws : List Int) : (x.word ws).Wf := by
  unfold Lx.word
  split
  · rename_i hc
    have := wordAt_len hc hp
    exact ⟨h.len, this, by show x.start ≤ x.pos + 1 + ws.length; have := h.start; omega, h.byte⟩
  · exact h.fail
theorem fetchNumber_wf (h : x.Wf) (hp : x.pos < x.d.length) : x.fetchNumber.Wf := by
  have hb := numScan_le (x.d.drop (x.pos + 1)) false false false
  have hs := h.start
  unfold Lx.fetchNumber
  split
  · exact ⟨h.len, Nat.le_refl _, by show x.start ≤ x.d.length; omega, h.byte⟩
  · rename_i n c hn
    rw [hn] at hb
    simp at hb
    have hw : ({ x with pos := x.pos + 1 + n } : Lx).Wf := ⟨h.len, by show x.pos + 1 + n ≤ x.d.length; omega, by show x.start ≤ x.pos + 1 + n; omega, h.byte⟩
    split
    · exact ⟨hw.len, hw.pos, hw.start, hw.byte⟩
    · exact hw.fail
theorem fetchString_wf (h : x.Wf) (hp : x.pos < x.d.length) : x.fetchString.Wf := by
  have hb := strLen_bound (x.d.length + 1) (x.d.drop (x.pos + 1)) 0 (by simp; omega)
  have hs := h.start
  unfold Lx.fetchString
  split
  · rename_i n hn
    rw [hn] at hb
    have := hb.1 rfl
    simp at this
    exact ⟨h.len, by show x.pos + 1 + n + 1 ≤ x.d.length; omega, by show x.start ≤ x.pos + 1 + n + 1; omega, h.byte⟩
  · rename_i n hn
    rw [hn] at hb
    have := hb.2 rfl
    simp at this
    exact Lx.Wf.fail ⟨h.len, by show x.pos + 1 + n ≤ x.d.length; omega, by show x.start ≤ x.pos + 1 + n; omega, h.byte⟩
theorem scan_same : ∀ (cs : List Int) (x : Lx), x.Same (Lx.scan x cs)
  | [], x => ⟨rfl, rfl, rfl⟩
  | c :: cs, x => by
    have hs := sepFail_same (x := x)
    have hf := fail_same (x := x)
    simp only [Lx.scan]
    repeat' split
    · exact (scan_same cs _).of rfl rfl rfl
    · exact fail_same.trans (scan_same cs _)
    · exact (scan_same cs _).of rfl rfl rfl
    · exact fetchString_same.of hs.d hs.multi hs.errs
    · exact ⟨hs.d, hs.multi, hs.errs⟩
    · exact ⟨hf.d, hf.multi, hf.errs⟩
    · exact ⟨rfl, rfl, rfl⟩
    · exact fetchNumber_same.of hs.d hs.multi hs.errs
    · exact (word_same _).of hs.d hs.multi hs.errs
    · exact (word_same _).of hs.d hs.multi hs.errs
    · exact (word_same _).of hs.d hs.multi hs.errs
    · exact fail_same
theorem scan_wf : ∀ (cs : List Int) (x : Lx), x.Wf → x.pos + cs.length ≤ x.d.length → (Lx.scan x cs).Wf
  | [], x, h, _ => h.as rfl rfl rfl
  | c :: cs, x, h, hp => by
    have hp' : x.pos + cs.length + 1 ≤ x.d.length := by simpa [Nat.add_assoc] using hp
    have hs := h.start
    have h1 : ∀ y : Lx, y.d = x.d → y.pos = x.pos → y.start = x.start → y.Wf := fun y a b c => h.as a b c
    have h2 : ∀ y : Lx, y.d = x.d → y.pos = x.pos + 1 → y.start = x.start → y.Wf := fun y a b c => ⟨by rw [a]; exact h.len, by rw [a, b]; omega, by rw [b, c]; omega, by rw [a]; exact h.byte⟩
    have h3 : ∀ y : Lx, y.d = x.d → y.pos = x.pos + 1 → y.start = x.start + 1 → y.Wf := fun y a b c => ⟨by rw [a]; exact h.len, by rw [a, b]; omega, by rw [b, c]; omega, by rw [a]; exact h.byte⟩
    have hlt : ∀ y : Lx, y.d = x.d → y.pos = x.pos → y.pos < y.d.length := fun y a b => by rw [a, b]; omega
    have e1 := (sepFail_same (x := x)).d
    have e2 := sepFail_pos (x := x)
    have e3 := sepFail_start (x := x)
    simp only [Lx.scan]
    repeat' split
    · exact scan_wf cs _ (h3 _ rfl rfl rfl) (by show x.pos + 1 + cs.length ≤ x.d.length; omega)
    · exact scan_wf cs _ h.fail (by rw [fail_pos, fail_d]; omega)
    · exact scan_wf cs _ (h3 _ rfl rfl rfl) (by show x.pos + 1 + cs.length ≤ x.d.length; omega)
    · exact fetchString_wf (h1 _ e1 e2 e3) (hlt _ e1 e2)
    · exact h2 _ e1 rfl e3
    · exact h2 _ fail_d rfl fail_start
    · exact h2 _ rfl rfl rfl
    · exact fetchNumber_wf (h1 _ e1 e2 e3) (hlt _ e1 e2)
    · exact word_wf (x := { x.sepFail with kind := 5 }) (h1 _ e1 e2 e3) (hlt _ e1 e2) _
    · exact word_wf (x := { x.sepFail with kind := 4, bv := true }) (h1 _ e1 e2 e3) (hlt _ e1 e2) _
    · exact word_wf (x := { x.sepFail with kind := 4, bv := false }) (h1 _ e1 e2 e3) (hlt _ e1 e2) _
    · exact h.fail
theorem fetch_same : x.Same x.fetch := (scan_same (x.d.drop x.pos) { x with kind := 0, start := x.pos }).of rfl rfl rfl
theorem fetch_wf (h : x.Wf) : x.fetch.Wf :=
  scan_wf _ _ ⟨h.len, h.pos, Nat.le_refl _, h.byte⟩ (by have := h.pos; show x.pos + (x.d.drop x.pos).length ≤ x.d.length; simp; omega)
theorem peek_same : x.Same x.peek := by unfold Lx.peek; split; exact fetch_same; exact Lx.Same.refl x
theorem peek_wf (h : x.Wf) : x.peek.Wf := by unfold Lx.peek; split; exact fetch_wf h; exact h
end
end Go.Proofs.YtaecbclonmhbcaaGreatDoor

namespace Go.Proofs.YtaecbclonmhbcaaGreatDoor
open Go.RowKit Go.WideShapes Go.ChangeShapes
def BytesArg (w : World) (v : Value) (l : List Int) : Prop := (l = [] ∧ ∃ a c, v = .slice (some a) 0 c) ∨ BytesAt w (fun _ => False) v l
theorem kids : Kids Tryz.prog (· < Tryz.prog.types.size) := kids_rows (by kernel_rfl) (by kernel_rfl)
theorem full : ∀ t e, t < Tryz.prog.types.size → Tryz.prog.underlying t = some (.slice e) → 0 < Tryz.prog.cellsOf e := slices_full_of Tryz.prog (by kernel_rfl)
theorem own : ownKnob Tryz.prog.godebug = none := by kernel_rfl
noncomputable def laidL : List (String × DataW Unit) := Rows.fnLexDelimsRow.laid
theorem star191 : "*" ++ "errors.errorString" = "*errors.errorString" := by decide
theorem row191 (u : TypeId) (h : Tryz.prog.typeName? 3 u = some "*errors.errorString") : u = 191 :=
  typeName_ptr_named (nm := "errors.errorString") (by rw [star191]; kernel_rfl) (by kernel_rfl) (by decide) u (by rw [star191]; exact h)
theorem gEOF : Tryz.prog.globalNamed "io.EOF" = some 1 := by kernel_rfl
theorem gOther : Tryz.prog.globalNamed "pub-duolect/impl.errOther" = some 0 := by kernel_rfl
theorem env_of_laid {W : World} (h : laidMetH Tryz.prog laidL W) :
    ∃ (ae ao : Addr) (c0 c1 : Array Value) (t0 t1 : TypeId), Env W ⟨ae, fun _ => False⟩ ao ∧ 1 < W.heap.size ∧ W.heap[ae.block]? = some (.cells c0 t0 (0, 0)) ∧ W.heap[ao.block]? = some (.cells c1 t1 (0, 0)) := by
  rw [MakeChecks.laidMetH_plain _ _ _ (by kernel_rfl)] at h
  have h12 := h.tail.tail.tail.tail.tail.tail.tail.tail.tail.tail.tail.tail
  obtain ⟨a0, a1, s0, s1, c0, c1, t0, t1, hv0, hv1, -, -, -, -, -, -, hne, hb0, hb1⟩ := laid_sentinels2 h12 gEOF (by kernel_rfl) gOther (by kernel_rfl) Tryz.underlying63 row191 Tryz.underlying191 Tryz.underlying193 rfl rfl Tryz.underlying9 (by kernel_rfl) (by kernel_rfl)
  have e0 : W.cell? ⟨1, 0, none⟩ = some (.iface 191 (.pointer (some a0))) := by have := World.var?_cell gEOF hv0 0; simpa using this
  have e1 : W.cell? ⟨0, 0, none⟩ = some (.iface 191 (.pointer (some a1))) := by have := World.var?_cell gOther hv1 0; simpa using this
  exact ⟨a0, a1, c0, c1, t0, t1, ⟨e0, e1, hne⟩, World.block_lt_of_cell? W _ e0, hb0, hb1⟩
section
variable {H : Type} {enc : TypeId × Value → H}
theorem args_stay {W W' : World} (hb : Below W.heap.size W W') {sp' : Nat → Bool} : ∀ {ts : List TypeId} {vs : List Value} {ds : List (DataW H)} {ps : List MemPlace}, (∀ t ∈ ts, t < Tryz.prog.types.size) →
    DataW.TrodAll enc Tryz.prog W 0 (fun _ => true) true ts vs ds ps → (∀ p ∈ ps, p.block < W.heap.size) → (∀ p ∈ ps, sp' p.block = true) → DataW.TrodAll enc Tryz.prog W' 0 sp' true ts vs ds ps
  | [], [], [], _, _, h, _, _ => h
  | _ :: _, _ :: _, _ :: _, _, hT, ⟨p, q, h1, h2, e⟩, hl, hs => by
    subst e
    obtain ⟨n, hn⟩ := h1
    refine ⟨p, q, ⟨n, ?_⟩, args_stay hb (fun t ht => hT t (List.mem_cons_of_mem _ ht)) h2 (fun x hx => hl x (List.mem_append_right _ hx)) (fun x hx => hs x (List.mem_append_right _ hx)), rfl⟩
    exact DataW.trod_stays kids (fun {t e} => full t e) (fun h => by cases h) (hT _ (List.mem_cons_self ..)) hn (fun x hx => hb.same (hl x (List.mem_append_left _ hx))) (fun x hx => hs x (List.mem_append_left _ hx))
set_option maxRecDepth 100000 in
theorem law_post {f : Func} {s : ChangeSpec} {W W' : World} {args : Array Value} {ds gs : List (DataW H)} {before : List MemPlace}
    (hW : DataW.Whole enc Tryz.prog f.params.toList s.vars false W args.toList ds gs before) (hv : s.vars = []) (hr : f.resultTypes = #[4]) (hf : ∀ t ∈ f.params.toList, t < Tryz.prog.types.size)
    (hs : s.fn H (ds ++ gs) = { results := [.lit (.bool true)], args := ds }) (hb : Below W.heap.size W W') :
    s.post enc Tryz.prog f false true false false W args (.bool true) W' := by
  have hlt : ∀ p ∈ before, p.block < W.heap.size := fun p hp => hW.lt p hp
  have hold : ∀ p ∈ before, (fun b => decide (b < W.heap.size)) p.block = true := fun p hp => by simpa using hlt p hp
  have hW' := hW
  obtain ⟨pa, pv, hA, hV, hps, hz, hn⟩ := hW
  rw [hv] at hV
  obtain ⟨hg, hpv⟩ := trodVars_none hV
  subst hpv
  rw [List.append_nil] at hps
  subst hps
  have hres : ∀ (b : Nat) (sp : Nat → Bool) (hd : Bool), DataW.TrodAll enc Tryz.prog W' b sp hd f.resultTypes.toList ((Value.bool true).resultList f.resultTypes.size) (s.fn H (ds ++ gs)).results [] := fun b sp hd => by
    rw [hr, hs]; exact trodAll_mk1 (shut_bool Tryz.underlying4 _)
  have hargs : ∀ sp : Nat → Bool, (∀ p ∈ before, sp p.block = true) → DataW.TrodAll enc Tryz.prog W' 0 sp true f.params.toList args.toList (s.fn H (ds ++ gs)).args before := fun sp hsp => by
    rw [hs]; exact args_stay hb hf hA hlt hsp
  have hvars : ∀ sp : Nat → Bool, DataW.TrodVars enc Tryz.prog W' sp s.vars (s.fn H (ds ++ gs)).vars [] := fun sp => by
    rw [hs, hv]; rfl
  refine ⟨ds, gs, before, [], before, [], hW', hres _ _ _, hargs _ hold, hvars _, World.keptBut_mono (fun p hp => ⟨hp, ?_⟩) (hb.frame (· ∈ before)), fun _ => ?_⟩
  · exact Or.inr (by simpa using hp)
  · have hok : ∀ (j : Nat) (t : TypeId) (r : Value), f.resultTypes[j]? = some t → ((Value.bool true).resultList f.resultTypes.size)[j]? = some r → Value.okWide Tryz.prog W' .any 0 t r :=
      ok_one hr rfl (okWide_bool_mk Tryz.underlying4 _)
    refine ⟨hok, _, _, ([] ++ before) ++ [], ⟨[] ++ before, [], trodAll_append (hargs _ (fun _ _ => rfl)) (hres _ _ _), hvars _, rfl, ?_, ?_⟩, ?_⟩
    · intro b off hp
      have hin : MemPlace.cell b off ∈ before := by simpa using hp
      rw [hb.frozen (hlt _ hin)]
      exact hz b off hin
    · intro ha
      have := hn ha
      simpa using this
    · intro p hp _
      simpa using hp
theorem cells5 : Tryz.prog.cellsOf 5 = 1 := by kernel_rfl
set_option maxRecDepth 100000 in
theorem bytes_arg {W : World} {base : Nat} {v : Value} {d : DataW H} {p : List MemPlace} (hval : Value.okWide Tryz.prog W .any base 22 v) (h : DataW.Trod enc Tryz.prog W 0 (fun _ => true) true 22 v d p) :
    ∃ (a : Option Addr) (n cap : Nat) (l : List Int), v = .slice a n cap ∧ BytesArg W (.slice a n cap) l ∧ Bytes l ∧ n = l.length := by
  obtain ⟨a0, len, cap, rfl⟩ := okWide_slice Tryz.underlying22 hval
  obtain ⟨fuel, hf⟩ := h
  rcases open_ints Tryz.underlying22 Tryz.underlying5 cells5 hf with ⟨hcs, -⟩ | ⟨a, len', cap', zs, hcs, -, hl, -, hz, -, hcell, hwz⟩
  · simp [Value.cells] at hcs
    obtain ⟨rfl, rfl, rfl⟩ := hcs
    exact ⟨none, 0, 0, [], rfl, .inr (.inl ⟨rfl, rfl⟩), fun i => by simp, rfl⟩
  · simp [Value.cells] at hcs
    obtain ⟨rfl, rfl, rfl⟩ := hcs
    simp only [if_true] at hz
    by_cases h0 : len = 0
    · subst h0
      exact ⟨some a, 0, cap, [], rfl, .inl ⟨rfl, _, _, rfl⟩, fun i => by simp, rfl⟩
    have hsp : a.spot = none := by simpa [Addr.add] using World.cell?_spot (hcell 0 (by omega))
    obtain ⟨b, o, sp⟩ := a
    simp only at hsp
    subst hsp
    have hlen : (zs.take len).length = len := by rw [List.length_take]; omega
    refine ⟨some ⟨b, o, none⟩, len, cap, zs.take len, rfl, .inr (.inr ⟨b, o, cap, by rw [hlen], by rw [hlen]; exact hl, ⟨id, World.block_lt_of_cell? W _ (hcell 0 (by omega))⟩, fun i hi => ?_⟩), fun i => ?_, hlen.symm⟩
    · rw [hlen] at hi
      have := hcell i (by omega)
      rw [show (⟨b, o, none⟩ : Addr).add i = ⟨b, o + i, none⟩ by unfold Addr.add; split <;> simp_all] at this
      rw [this]
      simp [List.getD, hi]
    · by_cases hi : i < (zs.take len).length
      · rw [List.getD, List.getElem?_eq_getElem hi]
        exact bounds_u8 (hwz _ (List.mem_of_mem_take (List.getElem_mem hi)))
      · simp [List.getD, List.getElem?_eq_none (Nat.le_of_not_lt hi)]
end
end Go.Proofs.YtaecbclonmhbcaaGreatDoor
