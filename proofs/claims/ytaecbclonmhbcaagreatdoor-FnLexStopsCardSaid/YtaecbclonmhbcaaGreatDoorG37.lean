/- The lexer's reading of a number's bytes. What the calls that read a number share. Plain, but for the worlds. Lexer.String over every state, one error. Printed by gen_str.py. impl.mark and impl.text: the calls of FnLexAdded and FnLexStops, by what each may do. Printed by gen_markr.py. -/
import Derived.Test.YtaecbclonmhbcaaGreatDoorG35
import Derived.Test.YtaecbclonmhbcaaGreatDoorG36
import Derived.Test.YtaecbclonmhbcaaGreatDoorG32
import Derived.Test.YtaecbclonmhbcaaGreatDoorG33
set_option linter.unusedVariables false
set_option linter.unusedSimpArgs false
/- The lexer's reading of a number's bytes. -/
namespace Go.Proofs.YtaecbclonmhbcaaGreatDoor
open Go.RowKit

namespace Lx
def numS (x : Lx) : Lx := if !x.ok || x.kind != 3 then x.fail else x.consume
def numR (x : Lx) : ByteArray := if !x.ok || x.kind != 3 then ⟨#[]⟩ else strOfNums x.tok
def num (x : Lx) : Lx := x.peek.numS
def numV (x : Lx) : ByteArray := x.peek.numR
end Lx

theorem bytesToStr_any {w : World} {A : Nat → Prop} {v : Value} {l : List Int} (h : BytesAt w A v l) :
    Calls Tryz.prog 110 #[v] w fun e w' => e = .returned (.string (strOfNums l)) ∧ w = w' := by
  have hcv := run_bytes_str h 0 9 Tryz.underlying9
  have hcv' : (convert 22 9 v).run Tryz.prog w = .ok (.string (strOfNums l)) w := hcv
  clear hcv h
  go_enter Tryz.func110, Tryz.ntmps110
  go_wp2
  go_ret
  exact ⟨rfl, rfl⟩

section
variable {w : World} {b : Nat} {ae : Sur} {ao : Addr} {x : Lx} {vd vt ve vm : Value}

set_option maxHeartbeats 4000000 in
set_option maxRecDepth 100000 in
theorem number_any (h : LexAt w b ae ao x vd vt ve vm) (hw : x.Wf) (hm : x.multi = false) :
    Calls Tryz.prog 106 #[.pointer (some ⟨b, 0, none⟩)] w fun e w' => e = .returned (.string x.numV) ∧ NumDone w b ae ao x.num vd vm w' := by
  unfold Lx.num Lx.numV
  have H := Lib.hid h
  have HW := Lib.hid hw
  by_cases hk : x.kind = 0
  case neg =>
    rw [peek_kept (by simp [hk])]
    have n1 : ((x.kind : Int) == 0) = false := beq_eq_false_iff_ne.2 (by omega)
    have HM := Lib.hid hm
    have HKD : RowKit.Hid (x.kind ≠ 0) := hk
    have c3 := h.c3
    have c6 := h.c6
    clear h hw hk hm
    cases hok2 : x.ok with
    | false =>
      have HE : RowKit.Hid (x.numS = x.fail) := by show _ = _; unfold Lx.numS; rw [if_pos (by simp [hok2])]
      have HV : RowKit.Hid (x.numR = ⟨#[]⟩) := by show _ = _; unfold Lx.numR; rw [if_pos (by simp [hok2])]
      go_enter Tryz.func106, Tryz.ntmps106
      go_wp2_with (first | (go_at_call 47; refine (ok_any H.out).mono ?_; rintro e w' ⟨rfl, rfl⟩) | (go_at_call 103; refine (errInvalid_any H.out HM.out _ (by decide)).mono ?_; rintro e w4 ⟨rfl, ve4, g5, g6⟩))
      go_ret
      rw [HE.out, HV.out]
      exact ⟨rfl, _, ve4, g5, (Kept.refl b w).trans g6⟩
    | true =>
      by_cases hd : x.kind = 3
      · have HE : RowKit.Hid (x.numS = x.consume) := by show _ = _; unfold Lx.numS; rw [if_neg (by simp [hok2, hd])]
        have HV : RowKit.Hid (x.numR = strOfNums x.tok) := by show _ = _; unfold Lx.numR; rw [if_neg (by simp [hok2, hd])]
        have d1 : ((x.kind : Int) == 3) = true := by simp; omega
        have d2 : ((x.kind : Int) != 3) = false := by simp; omega
        clear hd
        go_enter Tryz.func106, Tryz.ntmps106
        go_wp2_with (first | (go_at_call 47; refine (ok_any H.out).mono ?_; rintro e w' ⟨rfl, rfl⟩) | (go_at_call 110; refine (bytesToStr_any H.out.tok).mono ?_; rintro e w5 ⟨rfl, rfl⟩) | (go_at_call 104; refine (consume_any H.out).mono ?_; rintro e w3 ⟨rfl, g3, g4⟩))
        go_ret
        rw [HE.out, HV.out]
        exact ⟨rfl, _, _, g3, (Kept.refl b w).trans g4⟩
      · have d1 : ((x.kind : Int) == 3) = false := beq_eq_false_iff_ne.2 (by omega)
        have d2 : ((x.kind : Int) != 3) = true := bne_iff_ne.2 (by omega)
        have HE : RowKit.Hid (x.numS = x.fail) := by show _ = _; unfold Lx.numS; rw [if_pos (by simp [hok2, hd])]
        have HV : RowKit.Hid (x.numR = ⟨#[]⟩) := by show _ = _; unfold Lx.numR; rw [if_pos (by simp [hok2, hd])]
        clear hd
        go_enter Tryz.func106, Tryz.ntmps106
        go_wp2_with (first | (go_at_call 47; refine (ok_any H.out).mono ?_; rintro e w' ⟨rfl, rfl⟩) | (go_at_call 103; refine (errInvalid_any H.out HM.out _ (by decide)).mono ?_; rintro e w4 ⟨rfl, ve4, g5, g6⟩))
        go_ret
        rw [HE.out, HV.out]
        exact ⟨rfl, _, ve4, g5, (Kept.refl b w).trans g6⟩
  case pos =>
    have c3 := h.c3
    rw [hk] at c3
    have c6 := h.c6
    have HM := Lib.hid hm
    cases hok : x.ok with
    | false =>
      rw [peek_kept (by simp [hok])]
      have HKD := Lib.hid hk
      clear h hw hm
      have HE : RowKit.Hid (x.numS = x.fail) := by show _ = _; unfold Lx.numS; rw [if_pos (by simp [hok])]
      have HV : RowKit.Hid (x.numR = ⟨#[]⟩) := by show _ = _; unfold Lx.numR; rw [if_pos (by simp [hok])]
      go_enter Tryz.func106, Tryz.ntmps106
      go_wp2_with (first | (go_at_call 47; refine (ok_any H.out).mono ?_; rintro e w' ⟨rfl, rfl⟩) | (go_at_call 103; refine (errInvalid_any H.out HM.out _ (by decide)).mono ?_; rintro e w4 ⟨rfl, ve4, g5, g6⟩))
      go_ret
      rw [HE.out, HV.out]
      exact ⟨rfl, _, ve4, g5, (Kept.refl b w).trans g6⟩
    | true =>
      rw [peek_new (by simp [hok, hk])]
      have HM2 : RowKit.Hid (x.fetch.multi = false) := fetch_same.multi.trans hm
      clear h hw hk hm c6
      cases hok2 : x.fetch.ok with
      | false =>
        have HE : RowKit.Hid (x.fetch.numS = x.fetch.fail) := by show _ = _; unfold Lx.numS; rw [if_pos (by simp [hok2])]
        have HV : RowKit.Hid (x.fetch.numR = ⟨#[]⟩) := by show _ = _; unfold Lx.numR; rw [if_pos (by simp [hok2])]
        go_enter Tryz.func106, Tryz.ntmps106
        go_wp2_with (first | (go_at_call 47; with_reducible refine (ok_any G1.out).mono ?_; rintro e w2 ⟨rfl, rfl⟩) | (go_at_call 47; refine (ok_any H.out).mono ?_; rintro e w' ⟨rfl, rfl⟩) | (go_at_call 86; refine (fetchToken_any H.out HW.out).mono ?_; rintro e w1 ⟨rfl, vt1, ve1, g1, g2⟩; have z3 := g1.c3; have z6 := g1.c6; have G1 := Lib.hid g1; have G2 := Lib.hid g2; clear g1 g2) | (go_at_call 103; refine (errInvalid_any G1.out HM2.out _ (by decide)).mono ?_; rintro e w4 ⟨rfl, ve4, g5, g6⟩))
        go_ret
        rw [HE.out, HV.out]
        exact ⟨rfl, _, ve4, g5, G2.out.trans g6⟩
      | true =>
        by_cases hd : x.fetch.kind = 3
        · have HE : RowKit.Hid (x.fetch.numS = x.fetch.consume) := by show _ = _; unfold Lx.numS; rw [if_neg (by simp [hok2, hd])]
          have HV : RowKit.Hid (x.fetch.numR = strOfNums x.fetch.tok) := by show _ = _; unfold Lx.numR; rw [if_neg (by simp [hok2, hd])]
          have d1 : ((x.fetch.kind : Int) == 3) = true := by simp; omega
          have d2 : ((x.fetch.kind : Int) != 3) = false := by simp; omega
          clear hd
          go_enter Tryz.func106, Tryz.ntmps106
          go_wp2_with (first | (go_at_call 47; with_reducible refine (ok_any G1.out).mono ?_; rintro e w2 ⟨rfl, rfl⟩) | (go_at_call 47; refine (ok_any H.out).mono ?_; rintro e w' ⟨rfl, rfl⟩) | (go_at_call 86; refine (fetchToken_any H.out HW.out).mono ?_; rintro e w1 ⟨rfl, vt1, ve1, g1, g2⟩; have z3 := g1.c3; have z6 := g1.c6; have G1 := Lib.hid g1; have G2 := Lib.hid g2; clear g1 g2) | (go_at_call 110; refine (bytesToStr_any G1.out.tok).mono ?_; rintro e w5 ⟨rfl, rfl⟩) | (go_at_call 104; refine (consume_any G1.out).mono ?_; rintro e w3 ⟨rfl, g3, g4⟩))
          go_ret
          rw [HE.out, HV.out]
          exact ⟨rfl, _, _, g3, G2.out.trans g4⟩
        · have d1 : ((x.fetch.kind : Int) == 3) = false := beq_eq_false_iff_ne.2 (by omega)
          have d2 : ((x.fetch.kind : Int) != 3) = true := bne_iff_ne.2 (by omega)
          have HE : RowKit.Hid (x.fetch.numS = x.fetch.fail) := by show _ = _; unfold Lx.numS; rw [if_pos (by simp [hok2, hd])]
          have HV : RowKit.Hid (x.fetch.numR = ⟨#[]⟩) := by show _ = _; unfold Lx.numR; rw [if_pos (by simp [hok2, hd])]
          clear hd
          go_enter Tryz.func106, Tryz.ntmps106
          go_wp2_with (first | (go_at_call 47; with_reducible refine (ok_any G1.out).mono ?_; rintro e w2 ⟨rfl, rfl⟩) | (go_at_call 47; refine (ok_any H.out).mono ?_; rintro e w' ⟨rfl, rfl⟩) | (go_at_call 86; refine (fetchToken_any H.out HW.out).mono ?_; rintro e w1 ⟨rfl, vt1, ve1, g1, g2⟩; have z3 := g1.c3; have z6 := g1.c6; have G1 := Lib.hid g1; have G2 := Lib.hid g2; clear g1 g2) | (go_at_call 103; refine (errInvalid_any G1.out HM2.out _ (by decide)).mono ?_; rintro e w4 ⟨rfl, ve4, g5, g6⟩))
          go_ret
          rw [HE.out, HV.out]
          exact ⟨rfl, _, ve4, g5, G2.out.trans g6⟩

end
end Go.Proofs.YtaecbclonmhbcaaGreatDoor

/- What the calls that read a number share. Plain, but for the worlds. -/
namespace Go.Proofs.YtaecbclonmhbcaaGreatDoor
open Go.RowKit

section
variable {x : Lx}
theorem fail_shut (h : x.ok = false) : x.fail = x := by unfold Lx.fail; rw [h]; rfl
theorem peek_shut (h : x.ok = false) : x.peek = x := peek_kept (by simp [h])
theorem Lx.Inv.fail (h : x.Inv) : x.fail.Inv :=
  ⟨h.wf.fail, fail_same.multi.trans h.multi, by unfold Lx.fail; split <;> exact h.kind, fail_tf, fail_nf, by rw [fail_same.d]; exact h.len⟩
theorem Lx.Inv.consume (h : x.Inv) : x.consume.Inv :=
  ⟨h.wf.consume, h.multi, by show (0 : Nat) ≤ 5; decide, tf_kind (by show (0 : Nat) ≠ 2 ∧ (0 : Nat) ≠ 3; decide), nf_kind (by show (0 : Nat) ≠ 3; decide), h.len⟩
theorem Lx.Inv.err (h : x.Inv) {e : Er} (he : e.isNil = false) : ({ x with err := e } : Lx).Inv := by
  have hn : ({ x with err := e } : Lx).ok = false := he
  exact ⟨h.wf.as rfl rfl rfl, h.multi, h.kind, fun ho => absurd (hn.symm.trans ho) (by decide), nf_notok hn, h.len⟩
theorem Lx.Inv.peek (h : x.Inv) : x.peek.Inv := by
  refine ⟨peek_wf h.wf, peek_same.multi.trans h.multi, ?_, peek_tf h.tf (fun i => h.wf.byte i), peek_nf h.nf, by rw [peek_same.d]; exact h.len⟩
  unfold Lx.peek
  split
  · rename_i hc
    simp only [Bool.and_eq_true] at hc
    exact (fetch_fine ⟨h.kind, by intro e; have := hc.2; rw [show x.ok = x.err.isNil from rfl, e] at this; cases this⟩).kind
  · exact h.kind
theorem num_inv (h : x.Inv) : x.num.Inv := by
  unfold Lx.num Lx.numS
  split
  · exact h.peek.fail
  · exact h.peek.consume
theorem num_shut (h : x.ok = false) : x.num = x := by
  unfold Lx.num Lx.numS
  rw [peek_shut h, if_pos (by simp [h]), fail_shut h]
theorem numV_good (h : x.Inv) (ho : x.num.ok = true) : NumS x.numV ∧ 0 < x.numV.size ∧ x.numV.size ≤ 100000 := by
  unfold Lx.num Lx.numS at ho
  unfold Lx.numV Lx.numR
  split at ho
  · rw [fail_ok] at ho; cases ho
  · rename_i hc
    rw [if_neg hc]
    simp only [Bool.or_eq_true, Bool.not_eq_true', bne_iff_ne, not_or, Bool.not_eq_false, Decidable.not_not] at hc
    obtain ⟨h1, h2⟩ := h.peek.nf hc.1 hc.2
    obtain ⟨h3, h4⟩ := h.peek.tf hc.1 (.inr hc.2)
    have hl := h.peek.len
    rw [strOfNums_size]
    refine ⟨numS_of h4 h2, ?_, by omega⟩
    cases hx : x.peek.tok with
    | nil => exact absurd hx h1
    | cons a l => simp
end

theorem below_kept {B b : Nat} {u v w : World} (h : Below B u v) (k : Kept b v w) (hB : B ≤ b) (hs : B ≤ u.heap.size) : Below B u w :=
  h.trans ⟨k.os, k.tape, k.output, k.size, fun j hj => k.block j (by have := h.size; omega) (by omega)⟩
/-- The tables lie below the lexer. -/
def Gr (b : Nat) (w : World) : Prop := ∃ w0, Tabs w0 ∧ w0.heap.size ≤ b ∧ Below w0.heap.size w0 w
theorem Gr.kept {b : Nat} {w w' : World} (h : Gr b w) (k : Kept b w w') : Gr b w' := by
  obtain ⟨w0, h1, h2, h3⟩ := h
  exact ⟨w0, h1, h2, below_kept h3 k h2 (Nat.le_refl _)⟩
theorem Gr.tabs {b : Nat} {w : World} (h : Gr b w) : Tabs w := by
  obtain ⟨w0, h1, h2, h3⟩ := h
  exact h1.below h3
theorem Gr.below {b : Nat} {w w' : World} (h : Gr b w) (hl : b < w.heap.size) (k : Below w.heap.size w w') : Gr b w' := by
  obtain ⟨w0, h1, h2, h3⟩ := h
  exact ⟨w0, h1, h2, h3.trans ⟨k.os, k.tape, k.output, k.size, fun j hj => k.block j (by omega)⟩⟩
theorem Tabs.c3 {w : World} (h : Tabs w) : ∃ te pe, w.cell? ⟨3, 0, none⟩ = some (.iface te pe) := by obtain ⟨a, t, h1, -, -⟩ := h.e3; exact ⟨_, _, h1⟩
theorem Tabs.c4 {w : World} (h : Tabs w) : ∃ te pe, w.cell? ⟨4, 0, none⟩ = some (.iface te pe) := by obtain ⟨a, t, h1, -, -⟩ := h.e4; exact ⟨_, _, h1⟩

section
variable {w w' : World} {b : Nat} {ae : Sur} {ao : Addr} {x : Lx} {vd vt ve vm : Value}
/-- New blocks alone: the lexer is as it was. -/
theorem LexAt.belowNew (h : LexAt w b ae ao x vd vt ve vm) (k : Below w.heap.size w w') : LexAt w' b ae ao x vd vt ve vm :=
  h.grown (r := none) ⟨k.os, k.tape, k.output, k.size, fun j hj _ => k.block j hj⟩ (by simp)
theorem below_drewN (w : World) (n : Nat) : Below w.heap.size w (w.drewN n) := ⟨rfl, rfl, rfl, Nat.le_refl _, fun _ _ => rfl⟩
theorem kept_below (k : Below w.heap.size w w') (b : Nat) : Kept b w w' := ⟨k.os, k.tape, k.output, k.size, fun j hj _ => k.block j hj⟩
theorem below_of_kept (k : Kept w.heap.size w w') : Below w.heap.size w w' := ⟨k.os, k.tape, k.output, k.size, fun j hj => k.block j hj (Nat.ne_of_lt hj)⟩

/-- What a call that reads a number may do. -/
def NopPost (mk : Int → Value) (w : World) (b : Nat) (ae : Sur) (ao : Addr) (x : Lx) (vd vm : Value) (e : Ending) (w' : World) : Prop :=
  ∃ (x' : Lx) (n : Int), x'.Inv ∧ (x.ok = false → x'.err = x.err ∧ n = 0) ∧ e = .returned (mk n) ∧ NumDone w b ae ao x' vd vm w'
end
end Go.Proofs.YtaecbclonmhbcaaGreatDoor

/- Lexer.String over every state, one error. Printed by gen_str.py. -/
namespace Go.Proofs.YtaecbclonmhbcaaGreatDoor
open Go.RowKit

namespace Lx
def strS (x : Lx) : Lx := if !x.ok || x.kind != 2 then x.fail else match unesc (x.tok.length + 1) [] x.tok with | none => x.fail | some l => (x.unescS l).consume
def strR (x : Lx) : List Int := if !x.ok || x.kind != 2 then [] else match unesc (x.tok.length + 1) [] x.tok with | none => [] | some l => l
def str (x : Lx) : Lx := x.peek.strS
def strV (x : Lx) : List Int := x.peek.strR
end Lx
theorem strOf_nil : strOfNums [] = ⟨#[]⟩ := by decide
theorem fail_fail {x : Lx} : x.fail.fail = x.fail := by
  have h : x.fail.ok = false := fail_ok
  generalize x.fail = y at h
  unfold Lx.fail
  rw [h]; rfl
theorem unescS_tok {x : Lx} {l : List Int} (h : unesc (x.tok.length + 1) [] x.tok = some l) : (x.unescS l).tok = l := by
  unfold Lx.unescS
  split
  · rename_i hi
    have : unesc (x.tok.length + 1) [] x.tok = some x.tok := by simp [unesc, hi]
    rw [this] at h; exact Option.some.inj h
  · rfl

section
variable {w w' : World} {b : Nat} {ae : Sur} {ao : Addr} {x : Lx} {vd vt ve vm : Value}
/-- A name for what is told, and done. -/
def StrDone (w : World) (b : Nat) (ae : Sur) (ao : Addr) (x' : Lx) (vd vm : Value) (l : List Int) (e : Ending) (w' : World) : Prop := e = .returned (.string (strOfNums l)) ∧ NumDone w b ae ao x' vd vm w'

set_option maxHeartbeats 8000000 in
set_option maxRecDepth 100000 in
theorem string_any (h : LexAt w b ae ao x vd vt ve vm) (hw : x.Wf) (hm : x.multi = false) (htf : x.TF) (hlen : x.d.length ≤ 100000) :
    Calls Tryz.prog 53 #[.pointer (some ⟨b, 0, none⟩)] w fun e w' => StrDone w b ae ao x.str vd vm x.strV e w' := by
  unfold Lx.str Lx.strV
  have H := Lib.hid h
  have HW := Lib.hid hw
  by_cases hk : x.kind = 0
  case neg =>
    rw [peek_kept (by simp [hk])]
    have n1 : ((x.kind : Int) == 0) = false := beq_eq_false_iff_ne.2 (by omega)
    have HM2 := Lib.hid hm
    have HTF := Lib.hid htf
    have HWY := Lib.hid hw
    have HLD := Lib.hid hlen
    have HKD : RowKit.Hid (x.kind ≠ 0) := hk
    have c3 := h.c3
    have c6 := h.c6
    clear h hw hk hm htf hlen
    cases hok2 : (x).ok with
    | false =>
      have HE : RowKit.Hid ((x).strS = (x).fail) := by show _ = _; unfold Lx.strS; rw [if_pos (by simp [hok2])]
      have HV : RowKit.Hid ((x).strR = []) := by show _ = _; unfold Lx.strR; rw [if_pos (by simp [hok2])]
      go_enter Tryz.func53, Tryz.ntmps53
      go_wp2_with (first | (go_at_call 47; with_reducible refine (ok_any H.out).mono ?_; rintro e w2 ⟨rfl, rfl⟩) | (go_at_call 103; refine (errInvalid_any H.out HM2.out _ (by decide)).mono ?_; rintro e w4 ⟨rfl, ve4, g5, g6⟩))
      go_ret
      rw [HE.out, HV.out]
      unfold StrDone
      rw [strOf_nil]
      exact ⟨rfl, _, ve4, g5, (Kept.refl b w).trans g6⟩
    | true =>
      by_cases hd : (x).kind = 2
      case neg =>
        have d1 : (((x).kind : Int) == 2) = false := beq_eq_false_iff_ne.2 (by omega)
        have d2 : (((x).kind : Int) != 2) = true := bne_iff_ne.2 (by omega)
        have HE : RowKit.Hid ((x).strS = (x).fail) := by show _ = _; unfold Lx.strS; rw [if_pos (by simp [hok2, hd])]
        have HV : RowKit.Hid ((x).strR = []) := by show _ = _; unfold Lx.strR; rw [if_pos (by simp [hok2, hd])]
        clear hd
        go_enter Tryz.func53, Tryz.ntmps53
        go_wp2_with (first | (go_at_call 47; with_reducible refine (ok_any H.out).mono ?_; rintro e w2 ⟨rfl, rfl⟩) | (go_at_call 103; refine (errInvalid_any H.out HM2.out _ (by decide)).mono ?_; rintro e w4 ⟨rfl, ve4, g5, g6⟩))
        go_ret
        rw [HE.out, HV.out]
        unfold StrDone
        rw [strOf_nil]
        exact ⟨rfl, _, ve4, g5, (Kept.refl b w).trans g6⟩
      case pos =>
        have HTK := Lib.hid (HTF.out hok2 (.inl hd))
        have d1 : (((x).kind : Int) == 2) = true := by simp; omega
        have d2 : (((x).kind : Int) != 2) = false := by simp; omega
        cases hu : unesc ((x).tok.length + 1) [] (x).tok with
        | none =>
          have HE : RowKit.Hid ((x).strS = (x).fail) := by show _ = _; unfold Lx.strS; rw [if_neg (by simp [hok2, hd]), hu]
          have HV : RowKit.Hid ((x).strR = []) := by show _ = _; unfold Lx.strR; rw [if_neg (by simp [hok2, hd]), hu]
          have HU := Lib.hid hu
          have HM3 : RowKit.Hid ((x).fail.multi = false) := fail_multi.trans HM2.out
          clear hd hu
          go_enter Tryz.func53, Tryz.ntmps53
          go_wp2_with (first | (go_at_call 47; with_reducible refine (ok_any H.out).mono ?_; rintro e w2 ⟨rfl, rfl⟩) | (go_at_call 109; refine (unescape_any H.out HWY.out HTK.out.2 (Nat.le_trans HTK.out.1 HLD.out)).mono ?_; intro e w5 h5; unfold UnescDone at h5; rw [HU.out] at h5; obtain ⟨v5, he5, vt5, ve5, g5, g6⟩ := h5; subst he5; have G5 := Lib.hid g5; have G6 := Lib.hid g6; clear g5 g6) | (go_at_call 103; refine (errInvalid_any G5.out HM3.out _ (by decide)).mono ?_; rintro e w4 ⟨rfl, ve4, g7, g8⟩))
          go_ret
          rw [HE.out, HV.out]
          unfold StrDone
          rw [strOf_nil]
          rw [fail_fail] at g7
          exact ⟨rfl, _, ve4, g7, ((Kept.refl b w).trans G6.out).trans g8⟩
        | some l =>
          have HE : RowKit.Hid ((x).strS = ((x).unescS l).consume) := by show _ = _; unfold Lx.strS; rw [if_neg (by simp [hok2, hd]), hu]
          have HV : RowKit.Hid ((x).strR = l) := by show _ = _; unfold Lx.strR; rw [if_neg (by simp [hok2, hd]), hu]
          have HU := Lib.hid hu
          have HTL := Lib.hid (unescS_tok hu)
          clear hd hu
          obtain ⟨Z, hZ⟩ : ∃ Z, Z = (x).unescS l := ⟨_, rfl⟩
          rw [← hZ] at HE HTL
          have HZ := Lib.hid hZ
          clear hZ
          cases hcl : Z.cl
          all_goals
            go_enter Tryz.func53, Tryz.ntmps53
            go_wp2_with (first | (go_at_call 47; with_reducible refine (ok_any H.out).mono ?_; rintro e w2 ⟨rfl, rfl⟩) | (go_at_call 109; refine (unescape_any H.out HWY.out HTK.out.2 (Nat.le_trans HTK.out.1 HLD.out)).mono ?_; intro e w5 h5; unfold UnescDone at h5; rw [HU.out] at h5; obtain ⟨he5, vt5, ve5, g5, g6⟩ := h5; rw [← HZ.out] at g5; subst he5; have y5 := g5.c5; rw [hcl] at y5; have y6 := g5.c6; have hcv : (convert 22 9 vt5).run Tryz.prog w5 = .ok (.string (strOfNums l)) w5 := (by have := run_bytes_str g5.tok 0 9 Tryz.underlying9; rw [HTL.out] at this; exact this); have G5 := Lib.hid g5; have G6 := Lib.hid g6; clear g5 g6) | (go_at_call 110; refine (bytesToStr_any G5.out.tok).mono ?_; rintro e w7 ⟨he, rfl⟩; rw [HTL.out] at he; subst he) | (go_at_call 104; refine (consume_any G5.out).mono ?_; rintro e w3 ⟨rfl, g3, g4⟩))
            go_ret
            rw [HE.out, HV.out]
            exact ⟨rfl, _, _, g3, ((Kept.refl b w).trans G6.out).trans g4⟩
  case pos =>
    have c3 := h.c3
    rw [hk] at c3
    have c6 := h.c6
    cases hok : x.ok with
    | false =>
      rw [peek_kept (by simp [hok])]
      have HM2 := Lib.hid hm
      have HKD := Lib.hid hk
      have hok2 := hok
      clear h hw hm htf hlen
      have HE : RowKit.Hid ((x).strS = (x).fail) := by show _ = _; unfold Lx.strS; rw [if_pos (by simp [hok2])]
      have HV : RowKit.Hid ((x).strR = []) := by show _ = _; unfold Lx.strR; rw [if_pos (by simp [hok2])]
      go_enter Tryz.func53, Tryz.ntmps53
      go_wp2_with (first | (go_at_call 47; with_reducible refine (ok_any H.out).mono ?_; rintro e w2 ⟨rfl, rfl⟩) | (go_at_call 103; refine (errInvalid_any H.out HM2.out _ (by decide)).mono ?_; rintro e w4 ⟨rfl, ve4, g5, g6⟩))
      go_ret
      rw [HE.out, HV.out]
      unfold StrDone
      rw [strOf_nil]
      exact ⟨rfl, _, ve4, g5, (Kept.refl b w).trans g6⟩
    | true =>
      rw [peek_new (by simp [hok, hk])]
      have HM2 : RowKit.Hid (x.fetch.multi = false) := fetch_same.multi.trans hm
      have HTF : RowKit.Hid x.fetch.TF := fetch_tf (fun i => hw.byte i)
      have HWY : RowKit.Hid x.fetch.Wf := fetch_wf hw
      have HLD : RowKit.Hid (x.fetch.d.length ≤ 100000) := by show _ ≤ _; rw [fetch_same.d]; exact hlen
      clear h hw hk hm c6 htf hlen
      cases hok2 : (x.fetch).ok with
      | false =>
        have HE : RowKit.Hid ((x.fetch).strS = (x.fetch).fail) := by show _ = _; unfold Lx.strS; rw [if_pos (by simp [hok2])]
        have HV : RowKit.Hid ((x.fetch).strR = []) := by show _ = _; unfold Lx.strR; rw [if_pos (by simp [hok2])]
        go_enter Tryz.func53, Tryz.ntmps53
        go_wp2_with (first | (go_at_call 47; with_reducible refine (ok_any G1.out).mono ?_; rintro e w2 ⟨rfl, rfl⟩) | (go_at_call 47; refine (ok_any H.out).mono ?_; rintro e w' ⟨rfl, rfl⟩) | (go_at_call 86; refine (fetchToken_any H.out HW.out).mono ?_; rintro e w1 ⟨rfl, vt1, ve1, g1, g2⟩; have z3 := g1.c3; have z6 := g1.c6; have G1 := Lib.hid g1; have G2 := Lib.hid g2; clear g1 g2) | (go_at_call 47; with_reducible refine (ok_any G1.out).mono ?_; rintro e w2 ⟨rfl, rfl⟩) | (go_at_call 103; refine (errInvalid_any G1.out HM2.out _ (by decide)).mono ?_; rintro e w4 ⟨rfl, ve4, g5, g6⟩))
        go_ret
        rw [HE.out, HV.out]
        unfold StrDone
        rw [strOf_nil]
        exact ⟨rfl, _, ve4, g5, G2.out.trans g6⟩
      | true =>
        by_cases hd : (x.fetch).kind = 2
        case neg =>
          have d1 : (((x.fetch).kind : Int) == 2) = false := beq_eq_false_iff_ne.2 (by omega)
          have d2 : (((x.fetch).kind : Int) != 2) = true := bne_iff_ne.2 (by omega)
          have HE : RowKit.Hid ((x.fetch).strS = (x.fetch).fail) := by show _ = _; unfold Lx.strS; rw [if_pos (by simp [hok2, hd])]
          have HV : RowKit.Hid ((x.fetch).strR = []) := by show _ = _; unfold Lx.strR; rw [if_pos (by simp [hok2, hd])]
          clear hd
          go_enter Tryz.func53, Tryz.ntmps53
          go_wp2_with (first | (go_at_call 47; with_reducible refine (ok_any G1.out).mono ?_; rintro e w2 ⟨rfl, rfl⟩) | (go_at_call 47; refine (ok_any H.out).mono ?_; rintro e w' ⟨rfl, rfl⟩) | (go_at_call 86; refine (fetchToken_any H.out HW.out).mono ?_; rintro e w1 ⟨rfl, vt1, ve1, g1, g2⟩; have z3 := g1.c3; have z6 := g1.c6; have G1 := Lib.hid g1; have G2 := Lib.hid g2; clear g1 g2) | (go_at_call 47; with_reducible refine (ok_any G1.out).mono ?_; rintro e w2 ⟨rfl, rfl⟩) | (go_at_call 103; refine (errInvalid_any G1.out HM2.out _ (by decide)).mono ?_; rintro e w4 ⟨rfl, ve4, g5, g6⟩))
          go_ret
          rw [HE.out, HV.out]
          unfold StrDone
          rw [strOf_nil]
          exact ⟨rfl, _, ve4, g5, G2.out.trans g6⟩
        case pos =>
          have HTK := Lib.hid (HTF.out hok2 (.inl hd))
          have d1 : (((x.fetch).kind : Int) == 2) = true := by simp; omega
          have d2 : (((x.fetch).kind : Int) != 2) = false := by simp; omega
          cases hu : unesc ((x.fetch).tok.length + 1) [] (x.fetch).tok with
          | none =>
            have HE : RowKit.Hid ((x.fetch).strS = (x.fetch).fail) := by show _ = _; unfold Lx.strS; rw [if_neg (by simp [hok2, hd]), hu]
            have HV : RowKit.Hid ((x.fetch).strR = []) := by show _ = _; unfold Lx.strR; rw [if_neg (by simp [hok2, hd]), hu]
            have HU := Lib.hid hu
            have HM3 : RowKit.Hid ((x.fetch).fail.multi = false) := fail_multi.trans HM2.out
            clear hd hu
            go_enter Tryz.func53, Tryz.ntmps53
            go_wp2_with (first | (go_at_call 47; with_reducible refine (ok_any G1.out).mono ?_; rintro e w2 ⟨rfl, rfl⟩) | (go_at_call 47; refine (ok_any H.out).mono ?_; rintro e w' ⟨rfl, rfl⟩) | (go_at_call 86; refine (fetchToken_any H.out HW.out).mono ?_; rintro e w1 ⟨rfl, vt1, ve1, g1, g2⟩; have z3 := g1.c3; have z6 := g1.c6; have G1 := Lib.hid g1; have G2 := Lib.hid g2; clear g1 g2) | (go_at_call 47; with_reducible refine (ok_any G1.out).mono ?_; rintro e w2 ⟨rfl, rfl⟩) | (go_at_call 109; refine (unescape_any G1.out HWY.out HTK.out.2 (Nat.le_trans HTK.out.1 HLD.out)).mono ?_; intro e w5 h5; unfold UnescDone at h5; rw [HU.out] at h5; obtain ⟨v5, he5, vt5, ve5, g5, g6⟩ := h5; subst he5; have G5 := Lib.hid g5; have G6 := Lib.hid g6; clear g5 g6) | (go_at_call 103; refine (errInvalid_any G5.out HM3.out _ (by decide)).mono ?_; rintro e w4 ⟨rfl, ve4, g7, g8⟩))
            go_ret
            rw [HE.out, HV.out]
            unfold StrDone
            rw [strOf_nil]
            rw [fail_fail] at g7
            exact ⟨rfl, _, ve4, g7, (G2.out.trans G6.out).trans g8⟩
          | some l =>
            have HE : RowKit.Hid ((x.fetch).strS = ((x.fetch).unescS l).consume) := by show _ = _; unfold Lx.strS; rw [if_neg (by simp [hok2, hd]), hu]
            have HV : RowKit.Hid ((x.fetch).strR = l) := by show _ = _; unfold Lx.strR; rw [if_neg (by simp [hok2, hd]), hu]
            have HU := Lib.hid hu
            have HTL := Lib.hid (unescS_tok hu)
            clear hd hu
            obtain ⟨Z, hZ⟩ : ∃ Z, Z = (x.fetch).unescS l := ⟨_, rfl⟩
            rw [← hZ] at HE HTL
            have HZ := Lib.hid hZ
            clear hZ
            cases hcl : Z.cl
            all_goals
              go_enter Tryz.func53, Tryz.ntmps53
              go_wp2_with (first | (go_at_call 47; with_reducible refine (ok_any G1.out).mono ?_; rintro e w2 ⟨rfl, rfl⟩) | (go_at_call 47; refine (ok_any H.out).mono ?_; rintro e w' ⟨rfl, rfl⟩) | (go_at_call 86; refine (fetchToken_any H.out HW.out).mono ?_; rintro e w1 ⟨rfl, vt1, ve1, g1, g2⟩; have z3 := g1.c3; have z6 := g1.c6; have G1 := Lib.hid g1; have G2 := Lib.hid g2; clear g1 g2) | (go_at_call 47; with_reducible refine (ok_any G1.out).mono ?_; rintro e w2 ⟨rfl, rfl⟩) | (go_at_call 109; refine (unescape_any G1.out HWY.out HTK.out.2 (Nat.le_trans HTK.out.1 HLD.out)).mono ?_; intro e w5 h5; unfold UnescDone at h5; rw [HU.out] at h5; obtain ⟨he5, vt5, ve5, g5, g6⟩ := h5; rw [← HZ.out] at g5; subst he5; have y5 := g5.c5; rw [hcl] at y5; have y6 := g5.c6; have hcv : (convert 22 9 vt5).run Tryz.prog w5 = .ok (.string (strOfNums l)) w5 := (by have := run_bytes_str g5.tok 0 9 Tryz.underlying9; rw [HTL.out] at this; exact this); have G5 := Lib.hid g5; have G6 := Lib.hid g6; clear g5 g6) | (go_at_call 110; refine (bytesToStr_any G5.out.tok).mono ?_; rintro e w7 ⟨he, rfl⟩; rw [HTL.out] at he; subst he) | (go_at_call 104; refine (consume_any G5.out).mono ?_; rintro e w3 ⟨rfl, g3, g4⟩))
              go_ret
              rw [HE.out, HV.out]
              exact ⟨rfl, _, _, g3, (G2.out.trans G6.out).trans g4⟩
end
end Go.Proofs.YtaecbclonmhbcaaGreatDoor

/- impl.mark and impl.text: the calls of FnLexAdded and FnLexStops, by what each may do. Printed by gen_markr.py. -/
namespace Go.Proofs.YtaecbclonmhbcaaGreatDoor
open Go.RowKit

namespace Lx
def added (x : Lx) : Lx := if x.ok then { x with err := .other } else x
end Lx
section
variable {w w' : World} {b : Nat} {ae : Sur} {ao : Addr} {x : Lx} {vd vt ve vm : Value}
set_option maxHeartbeats 1000000 in
theorem addError_any (h : LexAt w b ae ao x vd vt ve vm) : Calls Tryz.prog 48 #[.pointer (some ⟨b, 0, none⟩), .iface 191 (.pointer (some ao))] w fun e w' => e = .returned (.tuple #[]) ∧ NumDone w b ae ao x.added vd vm w' := by
  have H := Lib.hid h
  have c11 := h.c11
  have f11 := h.free 11
  have he := h.err
  have hx : x.ok = x.err.isNil := rfl
  have hkp := Kept.refl b w
  have HK := Lib.hid hkp
  unfold Lx.added
  rw [hx]
  clear h hx hkp
  cases hxe : x.err <;> rw [hxe] at he <;> simp only [ErrAt] at he
  case nil =>
    subst he
    clear hxe
    simp only [Er.isNil, if_true]
    go_enter Tryz.func48, Tryz.ntmps48
    go_wp2
    refine bodyPost_end (results_none rfl _ _ _) rfl ⟨rfl, vt, .iface 191 (.pointer (some ao)), ?_, HK.out.setCell _ _⟩
    exact H.out.setErr _ .other rfl
  case lex n =>
    obtain ⟨k, s, t, rfl, -, -⟩ := he
    clear hxe
    simp only [Er.isNil, Bool.false_eq_true, if_false]
    go_enter Tryz.func48, Tryz.ntmps48
    go_wp2
    exact bodyPost_end (results_none rfl _ _ _) rfl ⟨rfl, vt, _, H.out, HK.out⟩
  all_goals
    subst he
    clear hxe
    simp only [Er.isNil, Bool.false_eq_true, if_false]
    go_enter Tryz.func48, Tryz.ntmps48
    go_wp2
    exact bodyPost_end (results_none rfl _ _ _) rfl ⟨rfl, vt, _, H.out, HK.out⟩

/-- What impl.mark, impl.text may do. -/
def SubR (op : Int) (w : World) (b : Nat) (ae : Sur) (ao : Addr) (x : Lx) (vd vm : Value) (e : Ending) (w' : World) : Prop :=
  ∃ (x' : Lx) (n : Int) (s : Value), Step op x x' n s ∧ e = .returned (gotV n s 0 0) ∧ NumDone w b ae ao x' vd vm w'
theorem step_plain {op : Int} {x' : Lx} {n : Int} (hi : x'.Inv) (hs : x.ok = false → x'.err = x.err ∧ n = 0) (ha : op = 45 → x'.ok = false) : Step op x x' n (.slice none 0 0) :=
  ⟨hi, ⟨none, 0, 0, rfl, fun _ => rfl⟩, hs, ha⟩
theorem delimP_inv (h : x.Inv) (c : Int) : (x.delimP c).Inv := by
  unfold Lx.delimP Lx.delimS
  split
  · exact h.peek.consume.fail
  · exact h.peek.consume
theorem delimP_shut (h : x.ok = false) (c : Int) : (x.delimP c).err = x.err := by
  unfold Lx.delimP Lx.delimS
  rw [peek_shut h, if_pos (by simp [h]), fail_shut (x := x.consume) h]
  rfl
theorem null_inv (h : x.Inv) : x.null.Inv := by
  unfold Lx.null Lx.nullS
  split
  · exact h.peek.fail.consume
  · exact h.peek.consume
theorem null_shut (h : x.ok = false) : x.null.err = x.err := by
  unfold Lx.null Lx.nullS
  rw [peek_shut h, if_pos (by simp [h]), fail_shut h]
  rfl
theorem bool_inv (h : x.Inv) : x.bool.Inv := by
  unfold Lx.bool Lx.boolS
  split
  · exact h.peek.fail
  · exact h.peek.consume
theorem bool_shut (h : x.ok = false) : x.bool.err = x.err ∧ b01 x.boolV = 0 := by
  unfold Lx.bool Lx.boolS Lx.boolV Lx.boolR
  rw [peek_shut h, if_pos (by simp [h]), if_pos (by simp [h]), fail_shut h]
  exact ⟨rfl, rfl⟩
theorem added_inv (h : x.Inv) : x.added.Inv := by
  unfold Lx.added
  split
  · exact h.err rfl
  · exact h
theorem added_ok : x.added.ok = false := by
  unfold Lx.added
  split
  · rfl
  · rename_i h; exact Bool.eq_false_iff.2 h
theorem added_shut (h : x.ok = false) : x.added.err = x.err := by unfold Lx.added; rw [h]; rfl
theorem consume_inv (hw : x.Wf) (hm : x.multi = false) (hl : x.d.length ≤ 100000) : x.consume.Inv :=
  ⟨hw.consume, hm, by show (0 : Nat) ≤ 5; decide, tf_kind (by show (0 : Nat) ≠ 2 ∧ (0 : Nat) ≠ 3; decide), nf_kind (by show (0 : Nat) ≠ 3; decide), hl⟩
theorem unescS_inv (h : x.Inv) (l : List Int) : (x.unescS l).consume.Inv := by
  unfold Lx.unescS
  split
  · exact h.consume
  · exact consume_inv (h.wf.as rfl rfl rfl) h.multi h.len
theorem str_inv (h : x.Inv) : x.str.Inv := by
  unfold Lx.str Lx.strS
  split
  · exact h.peek.fail
  · split
    · exact h.peek.fail
    · exact unescS_inv h.peek _
theorem ok_num (h : LexAt w b ae ao x vd vt ve vm) : Calls Tryz.prog 47 #[.pointer (some ⟨b, 0, none⟩)] w fun e w' => e = .returned (.bool x.ok) ∧ NumDone w b ae ao x vd vm w' :=
  (ok_any h).mono fun e w' h' => ⟨h'.1, vt, ve, h'.2 ▸ h, h'.2 ▸ Kept.refl b w⟩
theorem str_shut (h : x.ok = false) : x.str.err = x.err ∧ x.strV = [] := by
  unfold Lx.str Lx.strS Lx.strV Lx.strR
  rw [peek_shut h, if_pos (by simp [h]), if_pos (by simp [h]), fail_shut h]
  exact ⟨rfl, rfl⟩

set_option maxHeartbeats 2000000 in
set_option maxRecDepth 100000 in
theorem markR_delim (h : LexAt w b ae ao x vd vt ve vm) (hI : x.Inv) (n : Int) (p : Option Addr) (sn sc : Nat) :
    Calls Tryz.prog 40 #[.pointer (some ⟨b, 0, none⟩), callV 1 n (.slice p sn sc)] w (SubR 1 w b ae ao x vd vm) := by
  have H := Lib.hid h
  have hbl := h.lt
  have HI := Lib.hid hI
  obtain ⟨c, hc⟩ : ∃ c, n % 256 = c := ⟨_, rfl⟩
  clear h hI
  unfold callV
  go_enter Tryz.func40, Tryz.ntmps40
  go_wp2_with (first
    | (go_at_call 87; refine (delim_any ((H.out.alloc _).hold _) HI.out.wf HI.out.multi c).mono ?_; rintro e w1 ⟨rfl, vt1, ve1, g1, g2⟩; have hG := got_heap g2 hbl; have y0 := cell_of_heap hG 0 rfl; have y1 := cell_of_heap hG 1 rfl; have y2 := cell_of_heap hG 2 rfl; have y3 := cell_of_heap hG 3 rfl; have z := free_of_heap hG; have z0 := z 0; have z1 := z 1; have z2 := z 2; have z3 := z 3; have G1 := Lib.hid g1; have G2 := Lib.hid g2; have GH := Lib.hid hG; clear g1 g2 z hG)
    | (go_at_call 62; refine (one_any _ _).mono ?_; rintro e w2 ⟨rfl, rfl⟩))
  (try simp only [Exit.inBlock, Exit.then])
  refine bodyPost_ret (v := gotV (0) (.slice none 0 0) 0 0) ?_ rfl ⟨x.delimP c, 0, .slice none 0 0, step_plain (delimP_inv HI.out _) (fun hx => ⟨delimP_shut hx _, rfl⟩) (fun h => absurd h (by decide)), rfl, vt1, ve1, ?_, ?_⟩
  · exact results_cell_row rfl _ _ (w.heap.size + 1) 30 _ (0, 0) _ rfl (heap_setCell (heap_setCell (heap_setCell (heap_setCell GH.out 0 _) 1 _) 2 _) 3 _) Tryz.underlying30 rfl (by kernel_rfl)
  · refine LexAt.less (j := w.heap.size + 1) ?_
    have hs : ∀ o : Obj, (w.alloc o).heap.size = w.heap.size + 1 := fun o => by simp
    have G := G1.out
    rw [hs] at G
    repeat refine LexAt.setHeld ?_ (Sur.hold_self _ _) (by omega) _ _
    exact G
  · repeat refine Kept.setNew ?_ (by omega) _ _
    exact Kept.of_alloc (Kept.of_alloc G2.out)

set_option maxHeartbeats 2000000 in
set_option maxRecDepth 100000 in
theorem markR_null (h : LexAt w b ae ao x vd vt ve vm) (hI : x.Inv) (n : Int) (p : Option Addr) (sn sc : Nat) :
    Calls Tryz.prog 40 #[.pointer (some ⟨b, 0, none⟩), callV 3 n (.slice p sn sc)] w (SubR 3 w b ae ao x vd vm) := by
  have H := Lib.hid h
  have hbl := h.lt
  have HI := Lib.hid hI
  clear h hI
  unfold callV
  go_enter Tryz.func40, Tryz.ntmps40
  go_wp2_with (first
    | (go_at_call 49; refine (null_any ((H.out.alloc _).hold _) HI.out.wf HI.out.multi).mono ?_; rintro e w1 ⟨rfl, vt1, ve1, g1, g2⟩; have hG := got_heap g2 hbl; have y0 := cell_of_heap hG 0 rfl; have y1 := cell_of_heap hG 1 rfl; have y2 := cell_of_heap hG 2 rfl; have y3 := cell_of_heap hG 3 rfl; have z := free_of_heap hG; have z0 := z 0; have z1 := z 1; have z2 := z 2; have z3 := z 3; have G1 := Lib.hid g1; have G2 := Lib.hid g2; have GH := Lib.hid hG; clear g1 g2 z hG)
    | (go_at_call 62; refine (one_any _ _).mono ?_; rintro e w2 ⟨rfl, rfl⟩))
  (try simp only [Exit.inBlock, Exit.then])
  refine bodyPost_ret (v := gotV (0) (.slice none 0 0) 0 0) ?_ rfl ⟨x.null, 0, .slice none 0 0, step_plain (null_inv HI.out) (fun hx => ⟨null_shut hx, rfl⟩) (fun h => absurd h (by decide)), rfl, vt1, ve1, ?_, ?_⟩
  · exact results_cell_row rfl _ _ (w.heap.size + 1) 30 _ (0, 0) _ rfl (heap_setCell (heap_setCell (heap_setCell (heap_setCell GH.out 0 _) 1 _) 2 _) 3 _) Tryz.underlying30 rfl (by kernel_rfl)
  · refine LexAt.less (j := w.heap.size + 1) ?_
    have hs : ∀ o : Obj, (w.alloc o).heap.size = w.heap.size + 1 := fun o => by simp
    have G := G1.out
    rw [hs] at G
    repeat refine LexAt.setHeld ?_ (Sur.hold_self _ _) (by omega) _ _
    exact G
  · repeat refine Kept.setNew ?_ (by omega) _ _
    exact Kept.of_alloc (Kept.of_alloc G2.out)

set_option maxHeartbeats 2000000 in
set_option maxRecDepth 100000 in
theorem markR_ok (h : LexAt w b ae ao x vd vt ve vm) (hI : x.Inv) (n : Int) (p : Option Addr) (sn sc : Nat) :
    Calls Tryz.prog 40 #[.pointer (some ⟨b, 0, none⟩), callV 43 n (.slice p sn sc)] w (SubR 43 w b ae ao x vd vm) := by
  have H := Lib.hid h
  have hbl := h.lt
  have HI := Lib.hid hI
  clear h hI
  unfold callV
  go_enter Tryz.func40, Tryz.ntmps40
  go_wp2_with (first
    | (go_at_call 47; refine (ok_num ((H.out.alloc _).hold _)).mono ?_; rintro e w1 ⟨rfl, vt1, ve1, g1, g2⟩; have hG := got_heap g2 hbl; have y0 := cell_of_heap hG 0 rfl; have y1 := cell_of_heap hG 1 rfl; have y2 := cell_of_heap hG 2 rfl; have y3 := cell_of_heap hG 3 rfl; have z := free_of_heap hG; have z0 := z 0; have z1 := z 1; have z2 := z 2; have z3 := z 3; have G1 := Lib.hid g1; have G2 := Lib.hid g2; have GH := Lib.hid hG; clear g1 g2 z hG)
    | (go_at_call 62; refine (one_any _ _).mono ?_; rintro e w2 ⟨rfl, rfl⟩))
  (try simp only [Exit.inBlock, Exit.then])
  refine bodyPost_ret (v := gotV (b01 x.ok) (.slice none 0 0) 0 0) ?_ rfl ⟨x, b01 x.ok, .slice none 0 0, step_plain HI.out (fun hx => ⟨rfl, by rw [hx]; rfl⟩) (fun h => absurd h (by decide)), rfl, vt1, ve1, ?_, ?_⟩
  · exact results_cell_row rfl _ _ (w.heap.size + 1) 30 _ (0, 0) _ rfl (heap_setCell (heap_setCell (heap_setCell (heap_setCell (heap_setCell GH.out 0 _) 0 _) 1 _) 2 _) 3 _) Tryz.underlying30 rfl (by kernel_rfl)
  · refine LexAt.less (j := w.heap.size + 1) ?_
    have hs : ∀ o : Obj, (w.alloc o).heap.size = w.heap.size + 1 := fun o => by simp
    have G := G1.out
    rw [hs] at G
    repeat refine LexAt.setHeld ?_ (Sur.hold_self _ _) (by omega) _ _
    exact G
  · repeat refine Kept.setNew ?_ (by omega) _ _
    exact Kept.of_alloc (Kept.of_alloc G2.out)

set_option maxHeartbeats 2000000 in
set_option maxRecDepth 100000 in
theorem markR_add (h : LexAt w b ae ao x vd vt ve vm) (hI : x.Inv) (n : Int) (p : Option Addr) (sn sc : Nat) :
    Calls Tryz.prog 40 #[.pointer (some ⟨b, 0, none⟩), callV 45 n (.slice p sn sc)] w (SubR 45 w b ae ao x vd vm) := by
  have H := Lib.hid h
  have hbl := h.lt
  have HI := Lib.hid hI
  have hb2 := h.b2
  have e0 : ∀ o o' : Obj, ((w.alloc o).alloc o').cell? ⟨0, 0, none⟩ = some (.iface 191 (.pointer (some ao))) := fun o o' => (((Kept.refl b w).alloc o).alloc o').cell h.env.other (by simp; omega)
  clear h hI
  unfold callV
  go_enter Tryz.func40, Tryz.ntmps40
  go_wp2_with (first
    | (go_at_call 48; refine (addError_any ((H.out.alloc _).hold _)).mono ?_; rintro e w1 ⟨rfl, vt1, ve1, g1, g2⟩; have hG := got_heap g2 hbl; have y0 := cell_of_heap hG 0 rfl; have y1 := cell_of_heap hG 1 rfl; have y2 := cell_of_heap hG 2 rfl; have y3 := cell_of_heap hG 3 rfl; have z := free_of_heap hG; have z0 := z 0; have z1 := z 1; have z2 := z 2; have z3 := z 3; have G1 := Lib.hid g1; have G2 := Lib.hid g2; have GH := Lib.hid hG; clear g1 g2 z hG)
    | (go_at_call 62; refine (one_any _ _).mono ?_; rintro e w2 ⟨rfl, rfl⟩))
  (try simp only [Exit.inBlock, Exit.then])
  refine bodyPost_ret (v := gotV (0) (.slice none 0 0) 0 0) ?_ rfl ⟨x.added, 0, .slice none 0 0, step_plain (added_inv HI.out) (fun hx => ⟨added_shut hx, rfl⟩) (fun _ => added_ok), rfl, vt1, ve1, ?_, ?_⟩
  · exact results_cell_row rfl _ _ (w.heap.size + 1) 30 _ (0, 0) _ rfl (heap_setCell (heap_setCell (heap_setCell (heap_setCell GH.out 0 _) 1 _) 2 _) 3 _) Tryz.underlying30 rfl (by kernel_rfl)
  · refine LexAt.less (j := w.heap.size + 1) ?_
    have hs : ∀ o : Obj, (w.alloc o).heap.size = w.heap.size + 1 := fun o => by simp
    have G := G1.out
    rw [hs] at G
    repeat refine LexAt.setHeld ?_ (Sur.hold_self _ _) (by omega) _ _
    exact G
  · repeat refine Kept.setNew ?_ (by omega) _ _
    exact Kept.of_alloc (Kept.of_alloc G2.out)

set_option maxHeartbeats 2000000 in
set_option maxRecDepth 100000 in
theorem textR_bool (h : LexAt w b ae ao x vd vt ve vm) (hI : x.Inv) (n : Int) (p : Option Addr) (sn sc : Nat) :
    Calls Tryz.prog 37 #[.pointer (some ⟨b, 0, none⟩), callV 15 n (.slice p sn sc)] w (SubR 15 w b ae ao x vd vm) := by
  have H := Lib.hid h
  have hbl := h.lt
  have HI := Lib.hid hI
  clear h hI
  unfold callV
  go_enter Tryz.func37, Tryz.ntmps37
  go_wp2_with (first
    | (go_at_call 50; refine (bool_any ((H.out.alloc _).hold _) HI.out.wf HI.out.multi).mono ?_; rintro e w1 ⟨rfl, vt1, ve1, g1, g2⟩; have hG := got_heap g2 hbl; have y0 := cell_of_heap hG 0 rfl; have y1 := cell_of_heap hG 1 rfl; have y2 := cell_of_heap hG 2 rfl; have y3 := cell_of_heap hG 3 rfl; have z := free_of_heap hG; have z0 := z 0; have z1 := z 1; have z2 := z 2; have z3 := z 3; have G1 := Lib.hid g1; have G2 := Lib.hid g2; have GH := Lib.hid hG; clear g1 g2 z hG)
    | (go_at_call 62; refine (one_any _ _).mono ?_; rintro e w2 ⟨rfl, rfl⟩))
  (try simp only [Exit.inBlock, Exit.then])
  refine bodyPost_ret (v := gotV (b01 x.boolV) (.slice none 0 0) 0 0) ?_ rfl ⟨x.bool, b01 x.boolV, .slice none 0 0, step_plain (bool_inv HI.out) bool_shut (fun h => absurd h (by decide)), rfl, vt1, ve1, ?_, ?_⟩
  · exact results_cell_row rfl _ _ (w.heap.size + 1) 30 _ (0, 0) _ rfl (heap_setCell (heap_setCell (heap_setCell (heap_setCell (heap_setCell GH.out 0 _) 0 _) 1 _) 2 _) 3 _) Tryz.underlying30 rfl (by kernel_rfl)
  · refine LexAt.less (j := w.heap.size + 1) ?_
    have hs : ∀ o : Obj, (w.alloc o).heap.size = w.heap.size + 1 := fun o => by simp
    have G := G1.out
    rw [hs] at G
    repeat refine LexAt.setHeld ?_ (Sur.hold_self _ _) (by omega) _ _
    exact G
  · repeat refine Kept.setNew ?_ (by omega) _ _
    exact Kept.of_alloc (Kept.of_alloc G2.out)
end
end Go.Proofs.YtaecbclonmhbcaaGreatDoor
