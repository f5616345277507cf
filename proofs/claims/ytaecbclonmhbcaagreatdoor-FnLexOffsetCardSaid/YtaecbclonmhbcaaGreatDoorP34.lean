/- The lexer's reading of a number's bytes. What the calls that read a number share. Plain, but for the worlds. Lexer.String over every state, one error. Printed by gen_str.py. impl.mark and impl.text: the calls of FnLexAdded and FnLexStops, by what each may do. Printed by gen_markr.py. What impl.call's contracts share: the named errors' blocks; impl.kind at every error; behind the store of a number. impl.text at String, by what it may do. impl.number: the calls that read numbers, by their numbers. Printed by gen_imn.py. -/
import Derived.Test.YtaecbclonmhbcaaGreatDoorP33
import Derived.Test.YtaecbclonmhbcaaGreatDoorP29
import Derived.Test.YtaecbclonmhbcaaGreatDoorP31
import Derived.Test.YtaecbclonmhbcaaGreatDoorP28
set_option linter.unusedVariables false
set_option linter.unusedSimpArgs false
namespace Go.Proofs.YtaecbclonmhbcaaGreatDoor
open Go.RowKit
namespace Lx
def numS (x : Lx) : Lx := if !x.ok || x.kind != 3 then x.fail else x.consume
def numR (x : Lx) : ByteArray := if !x.ok || x.kind != 3 then ⟨#[]⟩ else strOfNums x.tok
def num (x : Lx) : Lx := x.peek.numS
def numV (x : Lx) : ByteArray := x.peek.numR
end Lx
theorem bytesToStr_any {w : World} {A : Nat → Prop} {v : Value} {l : List Int} (h : BytesAt w A v l) :
    Calls Tryz.prog 110 #[v] w fun e w' => e = .returned (.string (strOfNums l)) ∧ w = w' := by
  have hcv := run_bytes_str h 0 9 Tryz.underlying9
  have hcv' : (convert 22 9 v).run Tryz.prog w = .ok (.string (strOfNums l)) w := hcv
  clear hcv h
  go_enter Tryz.func110, Tryz.ntmps110
  go_wp2
  go_ret
  exact ⟨rfl, rfl⟩
section
variable {w : World} {b : Nat} {ae : Sur} {ao : Addr} {x : Lx} {vd vt ve vm : Value}
set_option maxHeartbeats 4000000 in
set_option maxRecDepth 100000 in
theorem number_any (h : LexAt w b ae ao x vd vt ve vm) (hw : x.Wf) (hm : x.multi = false) :
    Calls Tryz.prog 106 #[.pointer (some ⟨b, 0, none⟩)] w fun e w' => e = .returned (.string x.numV) ∧ NumDone w b ae ao x.num vd vm w' := by
  unfold Lx.num Lx.numV
  have H := Lib.hid h
  have HW := Lib.hid hw
  by_cases hk : x.kind = 0
  case neg =>
    rw [peek_kept (by simp [hk])]
    have n1 : ((x.kind : Int) == 0) = false := beq_eq_false_iff_ne.2 (by omega)
    have HM := Lib.hid hm
    have HKD : RowKit.Hid (x.kind ≠ 0) := hk
    have c3 := h.c3
    have c6 := h.c6
    clear h hw hk hm
    cases hok2 : x.ok with
    | false =>
      have HE : RowKit.Hid (x.numS = x.fail) := by show _ = _; unfold Lx.numS; rw [if_pos (by simp [hok2])]
      have HV : RowKit.Hid (x.numR = ⟨#[]⟩) := by show _ = _; unfold Lx.numR; rw [if_pos (by simp [hok2])]
      go_enter Tryz.func106, Tryz.ntmps106
      go_wp2_with (first | (go_at_call 47; refine (ok_any H.out).mono ?_; rintro e w' ⟨rfl, rfl⟩) | (go_at_call 103; refine (errInvalid_any H.out HM.out _ (by decide)).mono ?_; rintro e w4 ⟨rfl, ve4, g5, g6⟩))
      go_ret
      rw [HE.out, HV.out]
      exact ⟨rfl, _, ve4, g5, (Kept.refl b w).trans g6⟩
    | true =>
      by_cases hd : x.kind = 3
      · have HE : RowKit.Hid (x.numS = x.consume) := by show _ = _; unfold Lx.numS; rw [if_neg (by simp [hok2, hd])]
        have HV : RowKit.Hid (x.numR = strOfNums x.tok) := by show _ = _; unfold Lx.numR; rw [if_neg (by simp [hok2, hd])]
        have d1 : ((x.kind : Int) == 3) = true := by simp; omega
        have d2 : ((x.kind : Int) != 3) = false := by simp; omega
        clear hd
        go_enter Tryz.func106, Tryz.ntmps106
        go_wp2_with (first | (go_at_call 47; refine (ok_any H.out).mono ?_; rintro e w' ⟨rfl, rfl⟩) | (go_at_call 110; refine (bytesToStr_any H.out.tok).mono ?_; rintro e w5 ⟨rfl, rfl⟩) | (go_at_call 104; refine (consume_any H.out).mono ?_; rintro e w3 ⟨rfl, g3, g4⟩))
        go_ret
        rw [HE.out, HV.out]
        exact ⟨rfl, _, _, g3, (Kept.refl b w).trans g4⟩
      · have d1 : ((x.kind : Int) == 3) = false := beq_eq_false_iff_ne.2 (by omega)
        have d2 : ((x.kind : Int) != 3) = true := bne_iff_ne.2 (by omega)
        have HE : RowKit.Hid (x.numS = x.fail) := by show _ = _; unfold Lx.numS; rw [if_pos (by simp [hok2, hd])]
        have HV : RowKit.Hid (x.numR = ⟨#[]⟩) := by show _ = _; unfold Lx.numR; rw [if_pos (by simp [hok2, hd])]
        clear hd
        go_enter Tryz.func106, Tryz.ntmps106
        go_wp2_with (first | (go_at_call 47; refine (ok_any H.out).mono ?_; rintro e w' ⟨rfl, rfl⟩) | (go_at_call 103; refine (errInvalid_any H.out HM.out _ (by decide)).mono ?_; rintro e w4 ⟨rfl, ve4, g5, g6⟩))
        go_ret
        rw [HE.out, HV.out]
        exact ⟨rfl, _, ve4, g5, (Kept.refl b w).trans g6⟩
  case pos =>
    have c3 := h.c3
    rw [hk] at c3
    have c6 := h.c6
    have HM := Lib.hid hm
    cases hok : x.ok with
    | false =>
      rw [peek_kept (by simp [hok])]
      have HKD := Lib.hid hk
      clear h hw hm
      have HE : RowKit.Hid (x.numS = x.fail) := by show _ = _; unfold Lx.numS; rw [if_pos (by simp [hok])]
      have HV : RowKit.Hid (x.numR = ⟨#[]⟩) := by show _ = _; unfold Lx.numR; rw [if_pos (by simp [hok])]
      go_enter Tryz.func106, Tryz.ntmps106
      go_wp2_with (first | (go_at_call 47; refine (ok_any H.out).mono ?_; rintro e w' ⟨rfl, rfl⟩) | (go_at_call 103; refine (errInvalid_any H.out HM.out _ (by decide)).mono ?_; rintro e w4 ⟨rfl, ve4, g5, g6⟩))
      go_ret
      rw [HE.out, HV.out]
      exact ⟨rfl, _, ve4, g5, (Kept.refl b w).trans g6⟩
    | true =>
      rw [peek_new (by simp [hok, hk])]
      have HM2 : RowKit.Hid (x.fetch.multi = false) := fetch_same.multi.trans hm
      clear h hw hk hm c6
      cases hok2 : x.fetch.ok with
      | false =>
        have HE : RowKit.Hid (x.fetch.numS = x.fetch.fail) := by show _ = _; unfold Lx.numS; rw [if_pos (by simp [hok2])]
        have HV : RowKit.Hid (x.fetch.numR = ⟨#[]⟩) := by show _ = _; unfold Lx.numR; rw [if_pos (by simp [hok2])]
        go_enter Tryz.func106, Tryz.ntmps106
        go_wp2_with (first | (go_at_call 47; with_reducible refine (ok_any G1.out).mono ?_; rintro e w2 ⟨rfl, rfl⟩) | (go_at_call 47; refine (ok_any H.out).mono ?_; rintro e w' ⟨rfl, rfl⟩) | (go_at_call 86; refine (fetchToken_any H.out HW.out).mono ?_; rintro e w1 ⟨rfl, vt1, ve1, g1, g2⟩; have z3 := g1.c3; have z6 := g1.c6; have G1 := Lib.hid g1; have G2 := Lib.hid g2; clear g1 g2) | (go_at_call 103; refine (errInvalid_any G1.out HM2.out _ (by decide)).mono ?_; rintro e w4 ⟨rfl, ve4, g5, g6⟩))
        go_ret
        rw [HE.out, HV.out]
        exact ⟨rfl, _, ve4, g5, G2.out.trans g6⟩
      | true =>
        by_cases hd : x.fetch.kind = 3
        · have HE : RowKit.Hid (x.fetch.numS = x.fetch.consume) := by show _ = _; unfold Lx.numS; rw [if_neg (by simp [hok2, hd])]
          have HV : RowKit.Hid (x.fetch.numR = strOfNums x.fetch.tok) := by show _ = _; unfold Lx.numR; rw [if_neg (by simp [hok2, hd])]
          have d1 : ((x.fetch.kind : Int) == 3) = true := by simp; omega
          have d2 : ((x.fetch.kind : Int) != 3) = false := by simp; omega
          clear hd
          go_enter Tryz.func106, Tryz.ntmps106
          go_wp2_with (first | (go_at_call 47; with_reducible refine (ok_any G1.out).mono ?_; rintro e w2 ⟨rfl, rfl⟩) | (go_at_call 47; refine (ok_any H.out).mono ?_; rintro e w' ⟨rfl, rfl⟩) | (go_at_call 86; refine (fetchToken_any H.out HW.out).mono ?_; rintro e w1 ⟨rfl, vt1, ve1, g1, g2⟩; have z3 := g1.c3; have z6 := g1.c6; have G1 := Lib.hid g1; have G2 := Lib.hid g2; clear g1 g2) | (go_at_call 110; refine (bytesToStr_any G1.out.tok).mono ?_; rintro e w5 ⟨rfl, rfl⟩) | (go_at_call 104; refine (consume_any G1.out).mono ?_; rintro e w3 ⟨rfl, g3, g4⟩))
          go_ret
          rw [HE.out, HV.out]
          exact ⟨rfl, _, _, g3, G2.out.trans g4⟩
        · have d1 : ((x.fetch.kind : Int) == 3) = false := beq_eq_false_iff_ne.2 (by omega)
          have d2 : ((x.fetch.kind : Int) != 3) = true := bne_iff_ne.2 (by omega)
          have HE : RowKit.Hid (x.fetch.numS = x.fetch.fail) := by show _ = _; unfold Lx.numS; rw [if_pos (by simp [hok2, hd])]
          have HV : RowKit.Hid (x.fetch.numR = ⟨#[]⟩) := by show _ = _; unfold Lx.numR; rw [if_pos (by simp [hok2, hd])]
          clear hd
          go_enter Tryz.func106, Tryz.ntmps106
          go_wp2_with (first | (go_at_call 47; with_reducible refine (ok_any G1.out).mono ?_; rintro e w2 ⟨rfl, rfl⟩) | (go_at_call 47; refine (ok_any H.out).mono ?_; rintro e w' ⟨rfl, rfl⟩) | (go_at_call 86; refine (fetchToken_any H.out HW.out).mono ?_; rintro e w1 ⟨rfl, vt1, ve1, g1, g2⟩; have z3 := g1.c3; have z6 := g1.c6; have G1 := Lib.hid g1; have G2 := Lib.hid g2; clear g1 g2) | (go_at_call 103; refine (errInvalid_any G1.out HM2.out _ (by decide)).mono ?_; rintro e w4 ⟨rfl, ve4, g5, g6⟩))
          go_ret
          rw [HE.out, HV.out]
          exact ⟨rfl, _, ve4, g5, G2.out.trans g6⟩
end
end Go.Proofs.YtaecbclonmhbcaaGreatDoor

namespace Go.Proofs.YtaecbclonmhbcaaGreatDoor
open Go.RowKit
section
variable {x : Lx}
theorem Lx.Inv.fail (h : x.Inv) : x.fail.Inv :=
  ⟨h.wf.fail, fail_same.multi.trans h.multi, by unfold Lx.fail; split <;> exact h.kind, fail_tf, fail_nf, by rw [fail_same.d]; exact h.len⟩
theorem Lx.Inv.consume (h : x.Inv) : x.consume.Inv :=
  ⟨h.wf.consume, h.multi, by show (0 : Nat) ≤ 5; decide, tf_kind (by show (0 : Nat) ≠ 2 ∧ (0 : Nat) ≠ 3; decide), nf_kind (by show (0 : Nat) ≠ 3; decide), h.len⟩
theorem Lx.Inv.err (h : x.Inv) {e : Er} (he : e.isNil = false) : ({ x with err := e } : Lx).Inv := by
  have hn : ({ x with err := e } : Lx).ok = false := he
  exact ⟨h.wf.as rfl rfl rfl, h.multi, h.kind, fun ho => absurd (hn.symm.trans ho) (by decide), nf_notok hn, h.len⟩
theorem Lx.Inv.peek (h : x.Inv) : x.peek.Inv := by
  refine ⟨peek_wf h.wf, peek_same.multi.trans h.multi, ?_, peek_tf h.tf (fun i => h.wf.byte i), peek_nf h.nf, by rw [peek_same.d]; exact h.len⟩
  unfold Lx.peek
  split
  · rename_i hc
    simp only [Bool.and_eq_true] at hc
    exact (fetch_fine ⟨h.kind, by intro e; have := hc.2; rw [show x.ok = x.err.isNil from rfl, e] at this; cases this⟩).kind
  · exact h.kind
end
theorem below_kept {B b : Nat} {u v w : World} (h : Below B u v) (k : Kept b v w) (hB : B ≤ b) (hs : B ≤ u.heap.size) : Below B u w :=
  h.trans ⟨k.os, k.tape, k.output, k.size, fun j hj => k.block j (by have := h.size; omega) (by omega)⟩
def Gr (b : Nat) (w : World) : Prop := ∃ w0, Tabs w0 ∧ w0.heap.size ≤ b ∧ Below w0.heap.size w0 w
theorem Gr.kept {b : Nat} {w w' : World} (h : Gr b w) (k : Kept b w w') : Gr b w' := by
  obtain ⟨w0, h1, h2, h3⟩ := h
  exact ⟨w0, h1, h2, below_kept h3 k h2 (Nat.le_refl _)⟩
theorem Gr.tabs {b : Nat} {w : World} (h : Gr b w) : Tabs w := by
  obtain ⟨w0, h1, h2, h3⟩ := h
  exact h1.below h3
theorem Gr.below {b : Nat} {w w' : World} (h : Gr b w) (hl : b < w.heap.size) (k : Below w.heap.size w w') : Gr b w' := by
  obtain ⟨w0, h1, h2, h3⟩ := h
  exact ⟨w0, h1, h2, h3.trans ⟨k.os, k.tape, k.output, k.size, fun j hj => k.block j (by omega)⟩⟩
theorem Tabs.c3 {w : World} (h : Tabs w) : ∃ te pe, w.cell? ⟨3, 0, none⟩ = some (.iface te pe) := by obtain ⟨a, t, h1, -, -⟩ := h.e3; exact ⟨_, _, h1⟩
theorem Tabs.c4 {w : World} (h : Tabs w) : ∃ te pe, w.cell? ⟨4, 0, none⟩ = some (.iface te pe) := by obtain ⟨a, t, h1, -, -⟩ := h.e4; exact ⟨_, _, h1⟩
section
variable {w w' : World} {b : Nat} {ae : Sur} {ao : Addr} {x : Lx} {vd vt ve vm : Value}
theorem LexAt.belowNew (h : LexAt w b ae ao x vd vt ve vm) (k : Below w.heap.size w w') : LexAt w' b ae ao x vd vt ve vm :=
  h.grown (r := none) ⟨k.os, k.tape, k.output, k.size, fun j hj _ => k.block j hj⟩ (by simp)
theorem below_drewN (w : World) (n : Nat) : Below w.heap.size w (w.drewN n) := ⟨rfl, rfl, rfl, Nat.le_refl _, fun _ _ => rfl⟩
theorem kept_below (k : Below w.heap.size w w') (b : Nat) : Kept b w w' := ⟨k.os, k.tape, k.output, k.size, fun j hj _ => k.block j hj⟩
theorem below_of_kept (k : Kept w.heap.size w w') : Below w.heap.size w w' := ⟨k.os, k.tape, k.output, k.size, fun j hj => k.block j hj (Nat.ne_of_lt hj)⟩
end
end Go.Proofs.YtaecbclonmhbcaaGreatDoor

namespace Go.Proofs.YtaecbclonmhbcaaGreatDoor
open Go.RowKit
namespace Lx
end Lx
theorem unescS_tok {x : Lx} {l : List Int} (h : unesc (x.tok.length + 1) [] x.tok = some l) : (x.unescS l).tok = l := by
  unfold Lx.unescS
  split
  · rename_i hi
    have : unesc (x.tok.length + 1) [] x.tok = some x.tok := by simp [unesc, hi]
    rw [this] at h; exact Option.some.inj h
  · rfl
section
variable {w w' : World} {b : Nat} {ae : Sur} {ao : Addr} {x : Lx} {vd vt ve vm : Value}
def StrDone (w : World) (b : Nat) (ae : Sur) (ao : Addr) (x' : Lx) (vd vm : Value) (l : List Int) (e : Ending) (w' : World) : Prop := e = .returned (.string (strOfNums l)) ∧ NumDone w b ae ao x' vd vm w'
end
end Go.Proofs.YtaecbclonmhbcaaGreatDoor

namespace Go.Proofs.YtaecbclonmhbcaaGreatDoor
open Go.RowKit
namespace Lx
def added (x : Lx) : Lx := if x.ok then { x with err := .other } else x
end Lx
section
variable {w w' : World} {b : Nat} {ae : Sur} {ao : Addr} {x : Lx} {vd vt ve vm : Value}
set_option maxHeartbeats 1000000 in
theorem addError_any (h : LexAt w b ae ao x vd vt ve vm) : Calls Tryz.prog 48 #[.pointer (some ⟨b, 0, none⟩), .iface 191 (.pointer (some ao))] w fun e w' => e = .returned (.tuple #[]) ∧ NumDone w b ae ao x.added vd vm w' := by
  have H := Lib.hid h
  have c11 := h.c11
  have f11 := h.free 11
  have he := h.err
  have hx : x.ok = x.err.isNil := rfl
  have hkp := Kept.refl b w
  have HK := Lib.hid hkp
  unfold Lx.added
  rw [hx]
  clear h hx hkp
  cases hxe : x.err <;> rw [hxe] at he <;> simp only [ErrAt] at he
  case nil =>
    subst he
    clear hxe
    simp only [Er.isNil, if_true]
    go_enter Tryz.func48, Tryz.ntmps48
    go_wp2
    refine bodyPost_end (results_none rfl _ _ _) rfl ⟨rfl, vt, .iface 191 (.pointer (some ao)), ?_, HK.out.setCell _ _⟩
    exact H.out.setErr _ .other rfl
  case lex n =>
    obtain ⟨k, s, t, rfl, -, -⟩ := he
    clear hxe
    simp only [Er.isNil, Bool.false_eq_true, if_false]
    go_enter Tryz.func48, Tryz.ntmps48
    go_wp2
    exact bodyPost_end (results_none rfl _ _ _) rfl ⟨rfl, vt, _, H.out, HK.out⟩
  all_goals
    subst he
    clear hxe
    simp only [Er.isNil, Bool.false_eq_true, if_false]
    go_enter Tryz.func48, Tryz.ntmps48
    go_wp2
    exact bodyPost_end (results_none rfl _ _ _) rfl ⟨rfl, vt, _, H.out, HK.out⟩
end
end Go.Proofs.YtaecbclonmhbcaaGreatDoor

namespace Go.Proofs.YtaecbclonmhbcaaGreatDoor
open Go.RowKit
def ErrB (b : Nat) (ae ao : Addr) (w : World) : Prop := ∃ (ca cb : Array Value) (ta tb : TypeId), w.heap[ao.block]? = some (.cells ca ta (0, 0)) ∧ w.heap[ae.block]? = some (.cells cb tb (0, 0)) ∧ ao.block ≠ b ∧ ae.block ≠ b
theorem ErrB.kept {b : Nat} {ae ao : Addr} {w w' : World} (h : ErrB b ae ao w) (k : Kept b w w') : ErrB b ae ao w' := by
  obtain ⟨ca, cb, ta, tb, h1, h2, h3, h4⟩ := h
  exact ⟨ca, cb, ta, tb, k.heap h1 h3, k.heap h2 h4, h3, h4⟩
section
variable {w w' : World} {b : Nat} {ae : Sur} {ao : Addr} {x : Lx} {vd vt ve vm : Value}
theorem kind_all {v : Value} {e : Er} (h : ErrAt w b ae ao v e) (he : Env w ae ao) (hB : ErrB b ae.addr ao w) :
    Calls Tryz.prog 35 #[v] w fun e' w' => e' = .returned (.int .i64 e.num) ∧ w = w' := by
  by_cases ho : e = .other
  · subst ho
    simp only [ErrAt] at h
    subst h
    obtain ⟨ca, cb, ta, tb, h1, h2, -, -⟩ := hB
    exact kind_other w he h1 h2
  · exact kind_any h he ho
end
end Go.Proofs.YtaecbclonmhbcaaGreatDoor

namespace Go.Proofs.YtaecbclonmhbcaaGreatDoor
open Go.RowKit
theorem conv_str (s : ByteArray) (W : World) : ∃ cp W', (convert 9 22 (.string s)).run Tryz.prog W = .ok (.slice (some ⟨W.heap.size, 0, none⟩) s.size cp) W' ∧ W.grownBy W' none := by
  have hcv := run_bytes_of_string (P := Tryz.prog) W 9 22 5 s Tryz.underlying9 Tryz.underlying22 Tryz.underlying5
  exact ⟨_, _, hcv, ⟨rfl, rfl, rfl, by simp, fun k hk _ => heap_alloc_lt (w := W.drew) hk⟩⟩
theorem StrDone.split {w w' : World} {b : Nat} {ae : Sur} {ao : Addr} {x' : Lx} {vd vm : Value} {l : List Int} {e : Ending} (h : StrDone w b ae ao x' vd vm l e w') :
    e = .returned (.string (strOfNums l)) ∧ ∃ vt' ve', LexAt w' b ae ao x' vd vt' ve' vm ∧ Kept b w w' := h
end Go.Proofs.YtaecbclonmhbcaaGreatDoor

namespace Go.Proofs.YtaecbclonmhbcaaGreatDoor
open Go.RowKit
theorem tobits_run (x : Nat) (w : World) : (callFunc 105 #[.float .f64 x]).run Tryz.prog w = .ok (.value (.int .u64 x)) w := by
  rw [run_callFunc_extern Tryz.func105 (by kernel_rfl) (by kernel_rfl) (by kernel_rfl) (e := Extern.MathFloatBits.float64bits) (by kernel_rfl)]
  rfl
set_option maxHeartbeats 1000000 in
theorem bits_any (x : Nat) (w : World) : Calls Tryz.prog 51 #[.float .f64 x] w fun e w' => e = .returned (.int .i64 (wrap64 x)) ∧ w = w' := by
  have hb := tobits_run x
  go_enter Tryz.func51, Tryz.ntmps51
  go_wp2
  go_ret
  exact ⟨rfl, rfl⟩
theorem NumDone.drewN {w w' : World} {b : Nat} {ae : Sur} {ao : Addr} {x : Lx} {vd vm : Value} (h : NumDone w b ae ao x vd vm w') (n : Nat) : NumDone w b ae ao x vd vm (w'.drewN n) := by
  obtain ⟨vt, ve, h1, h2⟩ := h
  exact ⟨vt, ve, h1.drewN n, h2.drewN n⟩
end Go.Proofs.YtaecbclonmhbcaaGreatDoor
