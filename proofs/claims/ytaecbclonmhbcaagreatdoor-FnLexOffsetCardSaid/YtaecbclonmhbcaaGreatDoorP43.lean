/- The methods that read a string, of a lexer in whatever mode. Printed by gen_mop.py. -/
import Derived.Test.YtaecbclonmhbcaaGreatDoorP42
import Derived.Test.YtaecbclonmhbcaaGreatDoorP30
set_option linter.unusedVariables false
set_option linter.unusedSimpArgs false
namespace Go.Proofs.YtaecbclonmhbcaaGreatDoor
open Go.RowKit
def StrQ : Value → Lx → World → Value → Prop := fun r _ _ _ => ∃ s : ByteArray, r = .string s ∧ s.size ≤ 100000
def UsQ (F : Fix) : Value → Lx → World → Value → Prop := fun r _ w' vm' => ∃ (s : ByteArray) (v : Value) (l : List Int), r = .tuple #[.string s, v] ∧ s.size ≤ 100000 ∧ BytesAt w' ((F.ae.both vm').off F.b) v l ∧ l.length ≤ 100000
theorem LB.bytes {l : List Int} (h : LB l) : Bytes l := fun i => by
  by_cases hi : i < l.length
  · have := h _ (List.getElem_mem hi)
    simpa [List.getD, hi] using this
  · have : l.getD i 0 = 0 := by simp [List.getD, Nat.le_of_not_lt hi]
    rw [this]; omega
section
variable {F : Fix} {w0 w : World} {vm0 vt ve vm : Value} {p n : Nat} {x : Lx}
theorem unescM_none (h : MSt F w0 vm0 p n w x vt ve vm) (ho : x.ok = true) (hk : x.kind = 2) (hu : unesc (x.tok.length + 1) [] x.tok = none) :
    Calls Tryz.prog 109 #[.pointer (some ⟨F.b, 0, none⟩)] w fun e w' => ∃ v vt' ve', e = .returned (.iface 191 v) ∧ MSt F w0 vm0 p n w' x.fail vt' ve' vm := by
  have htf := h.good.tf ho (.inl hk)
  refine (unescape_any h.lx h.good.wf htf.2 (Nat.le_trans htf.1 h.good.len)).mono ?_
  intro e w' hd
  unfold UnescDone at hd
  rw [hu] at hd
  obtain ⟨v, he, hd⟩ := hd
  obtain ⟨vt', ve', h1⟩ := h.num hd fail_same.errs h.good.fail fun g => ⟨by rw [fail_pos]; exact Nat.le_refl _, fun _ _ e => absurd e (by rw [fail_ok]; decide)⟩
  exact ⟨v, vt', ve', he, h1⟩
theorem unescM_some (h : MSt F w0 vm0 p n w x vt ve vm) (ho : x.ok = true) (hk : x.kind = 2) {l : List Int} (hu : unesc (x.tok.length + 1) [] x.tok = some l) :
    Calls Tryz.prog 109 #[.pointer (some ⟨F.b, 0, none⟩)] w fun e w' => ∃ (c : Bool) (vt' ve' : Value), e = .returned .nilIface ∧ MSt F w0 vm0 p n w' { x with tok := l, cl := c } vt' ve' vm ∧ l.length ≤ 100000 := by
  have htf := h.good.tf ho (.inl hk)
  obtain ⟨hlb, hll⟩ := unesc_good _ _ _ _ hu (fun _ h => by cases h) (LB.of_bytes htf.2)
  have hll2 : l.length ≤ x.d.length := by have := htf.1; simp at hll; omega
  have hlen := h.good.len
  refine (unescape_any h.lx h.good.wf htf.2 (Nat.le_trans htf.1 h.good.len)).mono ?_
  intro e w' hd
  unfold UnescDone at hd
  rw [hu] at hd
  obtain ⟨he, hd⟩ := hd
  have hx : ∃ c, x.unescS l = { x with tok := l, cl := c } := by
    have ht := unescS_tok hu
    unfold Lx.unescS at ht ⊢
    split
    · rename_i hi
      rw [if_pos hi] at ht
      exact ⟨x.cl, by rw [← ht]⟩
    · exact ⟨true, rfl⟩
  obtain ⟨c, hx⟩ := hx
  rw [hx] at hd
  obtain ⟨vt', ve', h1⟩ := h.num hd rfl (h.good.setTok ⟨by rw [← h.good.d]; exact hll2, LB.bytes hlb⟩ (by rw [hk]; decide) c) fun g => ⟨Nat.le_refl _, (h.mov g).2⟩
  exact ⟨c, vt', ve', he, h1, by omega⟩
set_option maxHeartbeats 4000000 in
set_option maxRecDepth 100000 in
theorem stringM (h : MSt F w0 vm0 p n w x vt ve vm) (hn : n ≤ 1000000) :
    Calls Tryz.prog 53 #[.pointer (some ⟨F.b, 0, none⟩)] w (MEnd F w0 vm0 p (n + 1) StrQ) := by
  have H := Lib.hid h
  by_cases hk : x.kind = 0
  case neg =>
    have n1 : ((x.kind : Int) == 0) = false := beq_eq_false_iff_ne.2 (by omega)
    have c3 := h.mx.lx.c3
    have c6 := h.mx.lx.c6
    have HF : RowKit.Hid (F.g → x.multi = true → x.ok = true → Fresh x) := h.freshOld (.inl hk)
    clear h
    cases hok2 : x.ok with
    | false =>
      go_enter Tryz.func53, Tryz.ntmps53
      go_wp2_with (first | (go_at_call 47; refine (okM H.out).mono ?_; rintro e w' ⟨rfl, rfl⟩) | (go_at_call 103; refine (errM H.out hn (HF.out) _ (by decide)).mono ?_; rintro e w4 ⟨r4, x4, vt4, ve4, vm4, rfl, ⟨rfl, hb4⟩, g4⟩; have H4 := Lib.hid g4; clear hb4 g4))
      go_ret
      exact ⟨_, _, _, _, _, rfl, ⟨_, rfl, by decide⟩, H4.out⟩
    | true =>
      by_cases hd : x.kind = 2
      · have HKD := Lib.hid hd
        have d1 : ((x.kind : Int) == 2) = true := by simp; omega
        have d2 : ((x.kind : Int) != 2) = false := by simp; omega
        clear hd
        cases hu : unesc (x.tok.length + 1) [] x.tok with
        | none =>
          have HU := Lib.hid hu
          clear hu
          go_enter Tryz.func53, Tryz.ntmps53
          go_wp2_with (first | (go_at_call 47; refine (okM H.out).mono ?_; rintro e w' ⟨rfl, rfl⟩) | (go_at_call 109; refine (unescM_none H.out hok2 HKD.out HU.out).mono ?_; rintro e w5 ⟨v5, vt5, ve5, rfl, g5⟩; have G5 := Lib.hid g5; clear g5) | (go_at_call 103; refine (errM G5.out hn (fun _ _ e => absurd e (by rw [fail_ok]; decide)) _ (by decide)).mono ?_; rintro e w4 ⟨r4, x4, vt4, ve4, vm4, rfl, ⟨rfl, hb4⟩, g4⟩; have H4 := Lib.hid g4; clear hb4 g4))
          go_ret
          exact ⟨_, _, _, _, _, rfl, ⟨_, rfl, by decide⟩, H4.out⟩
        | some l =>
          have HU := Lib.hid hu
          clear hu
          go_enter Tryz.func53, Tryz.ntmps53
          go_wp2_with (first | (go_at_call 47; refine (okM H.out).mono ?_; rintro e w' ⟨rfl, rfl⟩) | (go_at_call 109; refine (unescM_some H.out hok2 HKD.out HU.out).mono ?_; rintro e w5 ⟨c, vt5, ve5, rfl, g5, hl5⟩; have y5 := g5.mx.lx.c5; have y6 := g5.mx.lx.c6; have hcv : (convert 22 9 vt5).run Tryz.prog w5 = .ok (.string (strOfNums l)) w5 := run_bytes_str g5.bytes 0 9 Tryz.underlying9; have HL5 : RowKit.Hid ((strOfNums l).size ≤ 100000) := (by show _ ≤ _; rw [strOfNums_size]; exact hl5); have G5 := Lib.hid g5; clear g5 hl5; rcases c with _ | _) | (go_at_call 110; refine (bytesToStr_any G5.out.bytes).mono ?_; rintro e w7 ⟨rfl, rfl⟩) | (go_at_call 104; refine (consumeM G5.out).mono ?_; rintro e w3 ⟨rfl, g3⟩; have c3lt := g3.mx.lx.lt; have H3 := Lib.hid g3; clear g3))
          all_goals
            go_ret
            exact ⟨_, _, _, _, _, rfl, ⟨_, rfl, HL5.out⟩, H3.out.le (Nat.le_succ n)⟩
      · have d1 : ((x.kind : Int) == 2) = false := beq_eq_false_iff_ne.2 (by omega)
        have d2 : ((x.kind : Int) != 2) = true := bne_iff_ne.2 (by omega)
        clear hd
        go_enter Tryz.func53, Tryz.ntmps53
        go_wp2_with (first | (go_at_call 47; refine (okM H.out).mono ?_; rintro e w' ⟨rfl, rfl⟩) | (go_at_call 103; refine (errM H.out hn (HF.out) _ (by decide)).mono ?_; rintro e w4 ⟨r4, x4, vt4, ve4, vm4, rfl, ⟨rfl, hb4⟩, g4⟩; have H4 := Lib.hid g4; clear hb4 g4))
        go_ret
        exact ⟨_, _, _, _, _, rfl, ⟨_, rfl, by decide⟩, H4.out⟩
  case pos =>
    have c3 := h.mx.lx.c3
    rw [hk] at c3
    have c6 := h.mx.lx.c6
    cases hok : x.ok with
    | false =>
      have HF : RowKit.Hid (F.g → x.multi = true → x.ok = true → Fresh x) := h.freshOld (.inr hok)
      clear h
      go_enter Tryz.func53, Tryz.ntmps53
      go_wp2_with (first | (go_at_call 47; refine (okM H.out).mono ?_; rintro e w' ⟨rfl, rfl⟩) | (go_at_call 103; refine (errM H.out hn (HF.out) _ (by decide)).mono ?_; rintro e w4 ⟨r4, x4, vt4, ve4, vm4, rfl, ⟨rfl, hb4⟩, g4⟩; have H4 := Lib.hid g4; clear hb4 g4))
      go_ret
      exact ⟨_, _, _, _, _, rfl, ⟨_, rfl, by decide⟩, H4.out⟩
    | true =>
      have HF : RowKit.Hid (F.g → x.fetch.multi = true → x.fetch.ok = true → Fresh x.fetch) := h.freshNew
      clear h hk c6
      cases hok2 : x.fetch.ok with
      | false =>
        go_enter Tryz.func53, Tryz.ntmps53
        go_wp2_with (first | (go_at_call 47; with_reducible refine (okM G1.out).mono ?_; rintro e w2 ⟨rfl, rfl⟩) | (go_at_call 47; refine (okM H.out).mono ?_; rintro e w' ⟨rfl, rfl⟩) | (go_at_call 86; refine (fetchM H.out).mono ?_; rintro e w1 ⟨r1, x1, vt1, ve1, vm1, rfl, ⟨rfl, rfl, rfl⟩, g1⟩; have z3 := g1.mx.lx.c3; have z6 := g1.mx.lx.c6; have G1 := Lib.hid g1; clear g1) | (go_at_call 103; refine (errM G1.out hn (HF.out) _ (by decide)).mono ?_; rintro e w4 ⟨r4, x4, vt4, ve4, vm4, rfl, ⟨rfl, hb4⟩, g4⟩; have H4 := Lib.hid g4; clear hb4 g4))
        go_ret
        exact ⟨_, _, _, _, _, rfl, ⟨_, rfl, by decide⟩, H4.out⟩
      | true =>
        by_cases hd : x.fetch.kind = 2
        · have HKD := Lib.hid hd
          have d1 : ((x.fetch.kind : Int) == 2) = true := by simp; omega
          have d2 : ((x.fetch.kind : Int) != 2) = false := by simp; omega
          clear hd
          cases hu : unesc (x.fetch.tok.length + 1) [] x.fetch.tok with
          | none =>
            have HU := Lib.hid hu
            clear hu
            go_enter Tryz.func53, Tryz.ntmps53
            go_wp2_with (first | (go_at_call 47; with_reducible refine (okM G1.out).mono ?_; rintro e w2 ⟨rfl, rfl⟩) | (go_at_call 47; refine (okM H.out).mono ?_; rintro e w' ⟨rfl, rfl⟩) | (go_at_call 86; refine (fetchM H.out).mono ?_; rintro e w1 ⟨r1, x1, vt1, ve1, vm1, rfl, ⟨rfl, rfl, rfl⟩, g1⟩; have z3 := g1.mx.lx.c3; have z6 := g1.mx.lx.c6; have G1 := Lib.hid g1; clear g1) | (go_at_call 109; refine (unescM_none G1.out hok2 HKD.out HU.out).mono ?_; rintro e w5 ⟨v5, vt5, ve5, rfl, g5⟩; have G5 := Lib.hid g5; clear g5) | (go_at_call 103; refine (errM G5.out hn (fun _ _ e => absurd e (by rw [fail_ok]; decide)) _ (by decide)).mono ?_; rintro e w4 ⟨r4, x4, vt4, ve4, vm4, rfl, ⟨rfl, hb4⟩, g4⟩; have H4 := Lib.hid g4; clear hb4 g4))
            go_ret
            exact ⟨_, _, _, _, _, rfl, ⟨_, rfl, by decide⟩, H4.out⟩
          | some l =>
            have HU := Lib.hid hu
            clear hu
            go_enter Tryz.func53, Tryz.ntmps53
            go_wp2_with (first | (go_at_call 47; with_reducible refine (okM G1.out).mono ?_; rintro e w2 ⟨rfl, rfl⟩) | (go_at_call 47; refine (okM H.out).mono ?_; rintro e w' ⟨rfl, rfl⟩) | (go_at_call 86; refine (fetchM H.out).mono ?_; rintro e w1 ⟨r1, x1, vt1, ve1, vm1, rfl, ⟨rfl, rfl, rfl⟩, g1⟩; have z3 := g1.mx.lx.c3; have z6 := g1.mx.lx.c6; have G1 := Lib.hid g1; clear g1) | (go_at_call 109; refine (unescM_some G1.out hok2 HKD.out HU.out).mono ?_; rintro e w5 ⟨c, vt5, ve5, rfl, g5, hl5⟩; have y5 := g5.mx.lx.c5; have y6 := g5.mx.lx.c6; have hcv : (convert 22 9 vt5).run Tryz.prog w5 = .ok (.string (strOfNums l)) w5 := run_bytes_str g5.bytes 0 9 Tryz.underlying9; have HL5 : RowKit.Hid ((strOfNums l).size ≤ 100000) := (by show _ ≤ _; rw [strOfNums_size]; exact hl5); have G5 := Lib.hid g5; clear g5 hl5; rcases c with _ | _) | (go_at_call 110; refine (bytesToStr_any G5.out.bytes).mono ?_; rintro e w7 ⟨rfl, rfl⟩) | (go_at_call 104; refine (consumeM G5.out).mono ?_; rintro e w3 ⟨rfl, g3⟩; have c3lt := g3.mx.lx.lt; have H3 := Lib.hid g3; clear g3))
            all_goals
              go_ret
              exact ⟨_, _, _, _, _, rfl, ⟨_, rfl, HL5.out⟩, H3.out.le (Nat.le_succ n)⟩
        · have d1 : ((x.fetch.kind : Int) == 2) = false := beq_eq_false_iff_ne.2 (by omega)
          have d2 : ((x.fetch.kind : Int) != 2) = true := bne_iff_ne.2 (by omega)
          clear hd
          go_enter Tryz.func53, Tryz.ntmps53
          go_wp2_with (first | (go_at_call 47; with_reducible refine (okM G1.out).mono ?_; rintro e w2 ⟨rfl, rfl⟩) | (go_at_call 47; refine (okM H.out).mono ?_; rintro e w' ⟨rfl, rfl⟩) | (go_at_call 86; refine (fetchM H.out).mono ?_; rintro e w1 ⟨r1, x1, vt1, ve1, vm1, rfl, ⟨rfl, rfl, rfl⟩, g1⟩; have z3 := g1.mx.lx.c3; have z6 := g1.mx.lx.c6; have G1 := Lib.hid g1; clear g1) | (go_at_call 103; refine (errM G1.out hn (HF.out) _ (by decide)).mono ?_; rintro e w4 ⟨r4, x4, vt4, ve4, vm4, rfl, ⟨rfl, hb4⟩, g4⟩; have H4 := Lib.hid g4; clear hb4 g4))
          go_ret
          exact ⟨_, _, _, _, _, rfl, ⟨_, rfl, by decide⟩, H4.out⟩
set_option maxHeartbeats 4000000 in
set_option maxRecDepth 100000 in
theorem usM_true (h : MSt F w0 vm0 p n w x vt ve vm) (hn : n ≤ 1000000) :
    Calls Tryz.prog 111 #[.pointer (some ⟨F.b, 0, none⟩), .bool true] w (MEnd F w0 vm0 p (n + 1) (UsQ F)) := by
  have H := Lib.hid h
  by_cases hk : x.kind = 0
  case neg =>
    have n1 : ((x.kind : Int) == 0) = false := beq_eq_false_iff_ne.2 (by omega)
    have c3 := h.mx.lx.c3
    have c6 := h.mx.lx.c6
    have HF : RowKit.Hid (F.g → x.multi = true → x.ok = true → Fresh x) := h.freshOld (.inl hk)
    have HGD : RowKit.Hid (Good F.l F.mu n x) := h.good
    clear h
    cases hok2 : x.ok with
    | false =>
      go_enter Tryz.func111, Tryz.ntmps111
      go_wp2_with (first | (go_at_call 47; refine (okM H.out).mono ?_; rintro e w' ⟨rfl, rfl⟩) | (go_at_call 103; refine (errM H.out hn (HF.out) _ (by decide)).mono ?_; rintro e w4 ⟨r4, x4, vt4, ve4, vm4, rfl, ⟨rfl, hb4⟩, g4⟩; have H4 := Lib.hid g4; clear hb4 g4))
      (try simp only [Exit.inBlock, Exit.then])
      refine bodyPost_ret (results_tmp2 rfl _ _ _) rfl ?_
      exact ⟨_, _, _, _, _, rfl, ⟨_, _, [], rfl, by decide, .inl ⟨rfl, rfl⟩, by decide⟩, H4.out⟩
    | true =>
      by_cases hd : x.kind = 2
      · have HKD := Lib.hid hd
        have d1 : ((x.kind : Int) == 2) = true := by simp; omega
        have d2 : ((x.kind : Int) != 2) = false := by simp; omega
        clear hd
        have HTK : RowKit.Hid (x.tok.length ≤ 100000) := Nat.le_trans (HGD.out.tf hok2 (.inl HKD.out)).1 HGD.out.len
        go_enter Tryz.func111, Tryz.ntmps111
        go_wp2_with (first | (go_at_call 47; refine (okM H.out).mono ?_; rintro e w' ⟨rfl, rfl⟩) | (go_at_call 110; refine (bytesToStr_any H.out.bytes).mono ?_; rintro e w7 ⟨rfl, rfl⟩) | (go_at_call 104; refine (consumeM H.out).mono ?_; rintro e w3 ⟨rfl, g3⟩; have c3lt := g3.mx.lx.lt; have H3 := Lib.hid g3; clear g3))
        (try simp only [Exit.inBlock, Exit.then])
        refine bodyPost_ret (results_tmp2 rfl _ _ _) rfl ?_
        exact ⟨_, _, _, _, _, rfl, ⟨_, _, _, rfl, by rw [strOfNums_size]; exact HTK.out, H3.out.bytes, HTK.out⟩, H3.out.le (Nat.le_succ n)⟩
      · have d1 : ((x.kind : Int) == 2) = false := beq_eq_false_iff_ne.2 (by omega)
        have d2 : ((x.kind : Int) != 2) = true := bne_iff_ne.2 (by omega)
        clear hd
        go_enter Tryz.func111, Tryz.ntmps111
        go_wp2_with (first | (go_at_call 47; refine (okM H.out).mono ?_; rintro e w' ⟨rfl, rfl⟩) | (go_at_call 103; refine (errM H.out hn (HF.out) _ (by decide)).mono ?_; rintro e w4 ⟨r4, x4, vt4, ve4, vm4, rfl, ⟨rfl, hb4⟩, g4⟩; have H4 := Lib.hid g4; clear hb4 g4))
        (try simp only [Exit.inBlock, Exit.then])
        refine bodyPost_ret (results_tmp2 rfl _ _ _) rfl ?_
        exact ⟨_, _, _, _, _, rfl, ⟨_, _, [], rfl, by decide, .inl ⟨rfl, rfl⟩, by decide⟩, H4.out⟩
  case pos =>
    have c3 := h.mx.lx.c3
    rw [hk] at c3
    have c6 := h.mx.lx.c6
    cases hok : x.ok with
    | false =>
      have HF : RowKit.Hid (F.g → x.multi = true → x.ok = true → Fresh x) := h.freshOld (.inr hok)
      have HGD : RowKit.Hid (Good F.l F.mu n x) := h.good
      clear h
      go_enter Tryz.func111, Tryz.ntmps111
      go_wp2_with (first | (go_at_call 47; refine (okM H.out).mono ?_; rintro e w' ⟨rfl, rfl⟩) | (go_at_call 103; refine (errM H.out hn (HF.out) _ (by decide)).mono ?_; rintro e w4 ⟨r4, x4, vt4, ve4, vm4, rfl, ⟨rfl, hb4⟩, g4⟩; have H4 := Lib.hid g4; clear hb4 g4))
      (try simp only [Exit.inBlock, Exit.then])
      refine bodyPost_ret (results_tmp2 rfl _ _ _) rfl ?_
      exact ⟨_, _, _, _, _, rfl, ⟨_, _, [], rfl, by decide, .inl ⟨rfl, rfl⟩, by decide⟩, H4.out⟩
    | true =>
      have HF : RowKit.Hid (F.g → x.fetch.multi = true → x.fetch.ok = true → Fresh x.fetch) := h.freshNew
      have HGD : RowKit.Hid (Good F.l F.mu n x.fetch) := h.good.fetch
      clear h hk c6
      cases hok2 : x.fetch.ok with
      | false =>
        go_enter Tryz.func111, Tryz.ntmps111
        go_wp2_with (first | (go_at_call 47; with_reducible refine (okM G1.out).mono ?_; rintro e w2 ⟨rfl, rfl⟩) | (go_at_call 47; refine (okM H.out).mono ?_; rintro e w' ⟨rfl, rfl⟩) | (go_at_call 86; refine (fetchM H.out).mono ?_; rintro e w1 ⟨r1, x1, vt1, ve1, vm1, rfl, ⟨rfl, rfl, rfl⟩, g1⟩; have z3 := g1.mx.lx.c3; have z6 := g1.mx.lx.c6; have G1 := Lib.hid g1; clear g1) | (go_at_call 103; refine (errM G1.out hn (HF.out) _ (by decide)).mono ?_; rintro e w4 ⟨r4, x4, vt4, ve4, vm4, rfl, ⟨rfl, hb4⟩, g4⟩; have H4 := Lib.hid g4; clear hb4 g4))
        (try simp only [Exit.inBlock, Exit.then])
        refine bodyPost_ret (results_tmp2 rfl _ _ _) rfl ?_
        exact ⟨_, _, _, _, _, rfl, ⟨_, _, [], rfl, by decide, .inl ⟨rfl, rfl⟩, by decide⟩, H4.out⟩
      | true =>
        by_cases hd : x.fetch.kind = 2
        · have HKD := Lib.hid hd
          have d1 : ((x.fetch.kind : Int) == 2) = true := by simp; omega
          have d2 : ((x.fetch.kind : Int) != 2) = false := by simp; omega
          clear hd
          have HTK : RowKit.Hid (x.fetch.tok.length ≤ 100000) := Nat.le_trans (HGD.out.tf hok2 (.inl HKD.out)).1 HGD.out.len
          go_enter Tryz.func111, Tryz.ntmps111
          go_wp2_with (first | (go_at_call 47; with_reducible refine (okM G1.out).mono ?_; rintro e w2 ⟨rfl, rfl⟩) | (go_at_call 47; refine (okM H.out).mono ?_; rintro e w' ⟨rfl, rfl⟩) | (go_at_call 86; refine (fetchM H.out).mono ?_; rintro e w1 ⟨r1, x1, vt1, ve1, vm1, rfl, ⟨rfl, rfl, rfl⟩, g1⟩; have z3 := g1.mx.lx.c3; have z6 := g1.mx.lx.c6; have G1 := Lib.hid g1; clear g1) | (go_at_call 110; refine (bytesToStr_any G1.out.bytes).mono ?_; rintro e w7 ⟨rfl, rfl⟩) | (go_at_call 104; refine (consumeM G1.out).mono ?_; rintro e w3 ⟨rfl, g3⟩; have c3lt := g3.mx.lx.lt; have H3 := Lib.hid g3; clear g3))
          (try simp only [Exit.inBlock, Exit.then])
          refine bodyPost_ret (results_tmp2 rfl _ _ _) rfl ?_
          exact ⟨_, _, _, _, _, rfl, ⟨_, _, _, rfl, by rw [strOfNums_size]; exact HTK.out, H3.out.bytes, HTK.out⟩, H3.out.le (Nat.le_succ n)⟩
        · have d1 : ((x.fetch.kind : Int) == 2) = false := beq_eq_false_iff_ne.2 (by omega)
          have d2 : ((x.fetch.kind : Int) != 2) = true := bne_iff_ne.2 (by omega)
          clear hd
          go_enter Tryz.func111, Tryz.ntmps111
          go_wp2_with (first | (go_at_call 47; with_reducible refine (okM G1.out).mono ?_; rintro e w2 ⟨rfl, rfl⟩) | (go_at_call 47; refine (okM H.out).mono ?_; rintro e w' ⟨rfl, rfl⟩) | (go_at_call 86; refine (fetchM H.out).mono ?_; rintro e w1 ⟨r1, x1, vt1, ve1, vm1, rfl, ⟨rfl, rfl, rfl⟩, g1⟩; have z3 := g1.mx.lx.c3; have z6 := g1.mx.lx.c6; have G1 := Lib.hid g1; clear g1) | (go_at_call 103; refine (errM G1.out hn (HF.out) _ (by decide)).mono ?_; rintro e w4 ⟨r4, x4, vt4, ve4, vm4, rfl, ⟨rfl, hb4⟩, g4⟩; have H4 := Lib.hid g4; clear hb4 g4))
          (try simp only [Exit.inBlock, Exit.then])
          refine bodyPost_ret (results_tmp2 rfl _ _ _) rfl ?_
          exact ⟨_, _, _, _, _, rfl, ⟨_, _, [], rfl, by decide, .inl ⟨rfl, rfl⟩, by decide⟩, H4.out⟩
set_option maxHeartbeats 4000000 in
set_option maxRecDepth 100000 in
theorem usM_false (h : MSt F w0 vm0 p n w x vt ve vm) (hn : n ≤ 1000000) :
    Calls Tryz.prog 111 #[.pointer (some ⟨F.b, 0, none⟩), .bool false] w (MEnd F w0 vm0 p (n + 1) (UsQ F)) := by
  have H := Lib.hid h
  by_cases hk : x.kind = 0
  case neg =>
    have n1 : ((x.kind : Int) == 0) = false := beq_eq_false_iff_ne.2 (by omega)
    have c3 := h.mx.lx.c3
    have c6 := h.mx.lx.c6
    have HF : RowKit.Hid (F.g → x.multi = true → x.ok = true → Fresh x) := h.freshOld (.inl hk)
    clear h
    cases hok2 : x.ok with
    | false =>
      go_enter Tryz.func111, Tryz.ntmps111
      go_wp2_with (first | (go_at_call 47; refine (okM H.out).mono ?_; rintro e w' ⟨rfl, rfl⟩) | (go_at_call 103; refine (errM H.out hn (HF.out) _ (by decide)).mono ?_; rintro e w4 ⟨r4, x4, vt4, ve4, vm4, rfl, ⟨rfl, hb4⟩, g4⟩; have H4 := Lib.hid g4; clear hb4 g4))
      (try simp only [Exit.inBlock, Exit.then])
      refine bodyPost_ret (results_tmp2 rfl _ _ _) rfl ?_
      exact ⟨_, _, _, _, _, rfl, ⟨_, _, [], rfl, by decide, .inl ⟨rfl, rfl⟩, by decide⟩, H4.out⟩
    | true =>
      by_cases hd : x.kind = 2
      · have HKD := Lib.hid hd
        have d1 : ((x.kind : Int) == 2) = true := by simp; omega
        have d2 : ((x.kind : Int) != 2) = false := by simp; omega
        clear hd
        cases hu : unesc (x.tok.length + 1) [] x.tok with
        | none =>
          have HU := Lib.hid hu
          clear hu
          go_enter Tryz.func111, Tryz.ntmps111
          go_wp2_with (first | (go_at_call 47; refine (okM H.out).mono ?_; rintro e w' ⟨rfl, rfl⟩) | (go_at_call 109; refine (unescM_none H.out hok2 HKD.out HU.out).mono ?_; rintro e w5 ⟨v5, vt5, ve5, rfl, g5⟩; have G5 := Lib.hid g5; clear g5) | (go_at_call 103; refine (errM G5.out hn (fun _ _ e => absurd e (by rw [fail_ok]; decide)) _ (by decide)).mono ?_; rintro e w4 ⟨r4, x4, vt4, ve4, vm4, rfl, ⟨rfl, hb4⟩, g4⟩; have H4 := Lib.hid g4; clear hb4 g4))
          (try simp only [Exit.inBlock, Exit.then])
          refine bodyPost_ret (results_tmp2 rfl _ _ _) rfl ?_
          exact ⟨_, _, _, _, _, rfl, ⟨_, _, [], rfl, by decide, .inl ⟨rfl, rfl⟩, by decide⟩, H4.out⟩
        | some l =>
          have HU := Lib.hid hu
          clear hu
          go_enter Tryz.func111, Tryz.ntmps111
          go_wp2_with (first | (go_at_call 47; refine (okM H.out).mono ?_; rintro e w' ⟨rfl, rfl⟩) | (go_at_call 109; refine (unescM_some H.out hok2 HKD.out HU.out).mono ?_; rintro e w5 ⟨c, vt5, ve5, rfl, g5, hl5⟩; have y6 := g5.mx.lx.c6; have HL5 := Lib.hid hl5; have G5 := Lib.hid g5; clear g5 hl5) | (go_at_call 110; refine (bytesToStr_any G5.out.bytes).mono ?_; rintro e w7 ⟨rfl, rfl⟩) | (go_at_call 104; refine (consumeM G5.out).mono ?_; rintro e w3 ⟨rfl, g3⟩; have c3lt := g3.mx.lx.lt; have H3 := Lib.hid g3; clear g3))
          (try simp only [Exit.inBlock, Exit.then])
          refine bodyPost_ret (results_tmp2 rfl _ _ _) rfl ?_
          exact ⟨_, _, _, _, _, rfl, ⟨_, _, _, rfl, by rw [strOfNums_size]; exact HL5.out, H3.out.bytes, HL5.out⟩, H3.out.le (Nat.le_succ n)⟩
      · have d1 : ((x.kind : Int) == 2) = false := beq_eq_false_iff_ne.2 (by omega)
        have d2 : ((x.kind : Int) != 2) = true := bne_iff_ne.2 (by omega)
        clear hd
        go_enter Tryz.func111, Tryz.ntmps111
        go_wp2_with (first | (go_at_call 47; refine (okM H.out).mono ?_; rintro e w' ⟨rfl, rfl⟩) | (go_at_call 103; refine (errM H.out hn (HF.out) _ (by decide)).mono ?_; rintro e w4 ⟨r4, x4, vt4, ve4, vm4, rfl, ⟨rfl, hb4⟩, g4⟩; have H4 := Lib.hid g4; clear hb4 g4))
        (try simp only [Exit.inBlock, Exit.then])
        refine bodyPost_ret (results_tmp2 rfl _ _ _) rfl ?_
        exact ⟨_, _, _, _, _, rfl, ⟨_, _, [], rfl, by decide, .inl ⟨rfl, rfl⟩, by decide⟩, H4.out⟩
  case pos =>
    have c3 := h.mx.lx.c3
    rw [hk] at c3
    have c6 := h.mx.lx.c6
    cases hok : x.ok with
    | false =>
      have HF : RowKit.Hid (F.g → x.multi = true → x.ok = true → Fresh x) := h.freshOld (.inr hok)
      clear h
      go_enter Tryz.func111, Tryz.ntmps111
      go_wp2_with (first | (go_at_call 47; refine (okM H.out).mono ?_; rintro e w' ⟨rfl, rfl⟩) | (go_at_call 103; refine (errM H.out hn (HF.out) _ (by decide)).mono ?_; rintro e w4 ⟨r4, x4, vt4, ve4, vm4, rfl, ⟨rfl, hb4⟩, g4⟩; have H4 := Lib.hid g4; clear hb4 g4))
      (try simp only [Exit.inBlock, Exit.then])
      refine bodyPost_ret (results_tmp2 rfl _ _ _) rfl ?_
      exact ⟨_, _, _, _, _, rfl, ⟨_, _, [], rfl, by decide, .inl ⟨rfl, rfl⟩, by decide⟩, H4.out⟩
    | true =>
      have HF : RowKit.Hid (F.g → x.fetch.multi = true → x.fetch.ok = true → Fresh x.fetch) := h.freshNew
      clear h hk c6
      cases hok2 : x.fetch.ok with
      | false =>
        go_enter Tryz.func111, Tryz.ntmps111
        go_wp2_with (first | (go_at_call 47; with_reducible refine (okM G1.out).mono ?_; rintro e w2 ⟨rfl, rfl⟩) | (go_at_call 47; refine (okM H.out).mono ?_; rintro e w' ⟨rfl, rfl⟩) | (go_at_call 86; refine (fetchM H.out).mono ?_; rintro e w1 ⟨r1, x1, vt1, ve1, vm1, rfl, ⟨rfl, rfl, rfl⟩, g1⟩; have z3 := g1.mx.lx.c3; have z6 := g1.mx.lx.c6; have G1 := Lib.hid g1; clear g1) | (go_at_call 103; refine (errM G1.out hn (HF.out) _ (by decide)).mono ?_; rintro e w4 ⟨r4, x4, vt4, ve4, vm4, rfl, ⟨rfl, hb4⟩, g4⟩; have H4 := Lib.hid g4; clear hb4 g4))
        (try simp only [Exit.inBlock, Exit.then])
        refine bodyPost_ret (results_tmp2 rfl _ _ _) rfl ?_
        exact ⟨_, _, _, _, _, rfl, ⟨_, _, [], rfl, by decide, .inl ⟨rfl, rfl⟩, by decide⟩, H4.out⟩
      | true =>
        by_cases hd : x.fetch.kind = 2
        · have HKD := Lib.hid hd
          have d1 : ((x.fetch.kind : Int) == 2) = true := by simp; omega
          have d2 : ((x.fetch.kind : Int) != 2) = false := by simp; omega
          clear hd
          cases hu : unesc (x.fetch.tok.length + 1) [] x.fetch.tok with
          | none =>
            have HU := Lib.hid hu
            clear hu
            go_enter Tryz.func111, Tryz.ntmps111
            go_wp2_with (first | (go_at_call 47; with_reducible refine (okM G1.out).mono ?_; rintro e w2 ⟨rfl, rfl⟩) | (go_at_call 47; refine (okM H.out).mono ?_; rintro e w' ⟨rfl, rfl⟩) | (go_at_call 86; refine (fetchM H.out).mono ?_; rintro e w1 ⟨r1, x1, vt1, ve1, vm1, rfl, ⟨rfl, rfl, rfl⟩, g1⟩; have z3 := g1.mx.lx.c3; have z6 := g1.mx.lx.c6; have G1 := Lib.hid g1; clear g1) | (go_at_call 109; refine (unescM_none G1.out hok2 HKD.out HU.out).mono ?_; rintro e w5 ⟨v5, vt5, ve5, rfl, g5⟩; have G5 := Lib.hid g5; clear g5) | (go_at_call 103; refine (errM G5.out hn (fun _ _ e => absurd e (by rw [fail_ok]; decide)) _ (by decide)).mono ?_; rintro e w4 ⟨r4, x4, vt4, ve4, vm4, rfl, ⟨rfl, hb4⟩, g4⟩; have H4 := Lib.hid g4; clear hb4 g4))
            (try simp only [Exit.inBlock, Exit.then])
            refine bodyPost_ret (results_tmp2 rfl _ _ _) rfl ?_
            exact ⟨_, _, _, _, _, rfl, ⟨_, _, [], rfl, by decide, .inl ⟨rfl, rfl⟩, by decide⟩, H4.out⟩
          | some l =>
            have HU := Lib.hid hu
            clear hu
            go_enter Tryz.func111, Tryz.ntmps111
            go_wp2_with (first | (go_at_call 47; with_reducible refine (okM G1.out).mono ?_; rintro e w2 ⟨rfl, rfl⟩) | (go_at_call 47; refine (okM H.out).mono ?_; rintro e w' ⟨rfl, rfl⟩) | (go_at_call 86; refine (fetchM H.out).mono ?_; rintro e w1 ⟨r1, x1, vt1, ve1, vm1, rfl, ⟨rfl, rfl, rfl⟩, g1⟩; have z3 := g1.mx.lx.c3; have z6 := g1.mx.lx.c6; have G1 := Lib.hid g1; clear g1) | (go_at_call 109; refine (unescM_some G1.out hok2 HKD.out HU.out).mono ?_; rintro e w5 ⟨c, vt5, ve5, rfl, g5, hl5⟩; have y6 := g5.mx.lx.c6; have HL5 := Lib.hid hl5; have G5 := Lib.hid g5; clear g5 hl5) | (go_at_call 110; refine (bytesToStr_any G5.out.bytes).mono ?_; rintro e w7 ⟨rfl, rfl⟩) | (go_at_call 104; refine (consumeM G5.out).mono ?_; rintro e w3 ⟨rfl, g3⟩; have c3lt := g3.mx.lx.lt; have H3 := Lib.hid g3; clear g3))
            (try simp only [Exit.inBlock, Exit.then])
            refine bodyPost_ret (results_tmp2 rfl _ _ _) rfl ?_
            exact ⟨_, _, _, _, _, rfl, ⟨_, _, _, rfl, by rw [strOfNums_size]; exact HL5.out, H3.out.bytes, HL5.out⟩, H3.out.le (Nat.le_succ n)⟩
        · have d1 : ((x.fetch.kind : Int) == 2) = false := beq_eq_false_iff_ne.2 (by omega)
          have d2 : ((x.fetch.kind : Int) != 2) = true := bne_iff_ne.2 (by omega)
          clear hd
          go_enter Tryz.func111, Tryz.ntmps111
          go_wp2_with (first | (go_at_call 47; with_reducible refine (okM G1.out).mono ?_; rintro e w2 ⟨rfl, rfl⟩) | (go_at_call 47; refine (okM H.out).mono ?_; rintro e w' ⟨rfl, rfl⟩) | (go_at_call 86; refine (fetchM H.out).mono ?_; rintro e w1 ⟨r1, x1, vt1, ve1, vm1, rfl, ⟨rfl, rfl, rfl⟩, g1⟩; have z3 := g1.mx.lx.c3; have z6 := g1.mx.lx.c6; have G1 := Lib.hid g1; clear g1) | (go_at_call 103; refine (errM G1.out hn (HF.out) _ (by decide)).mono ?_; rintro e w4 ⟨r4, x4, vt4, ve4, vm4, rfl, ⟨rfl, hb4⟩, g4⟩; have H4 := Lib.hid g4; clear hb4 g4))
          (try simp only [Exit.inBlock, Exit.then])
          refine bodyPost_ret (results_tmp2 rfl _ _ _) rfl ?_
          exact ⟨_, _, _, _, _, rfl, ⟨_, _, [], rfl, by decide, .inl ⟨rfl, rfl⟩, by decide⟩, H4.out⟩
end
end Go.Proofs.YtaecbclonmhbcaaGreatDoor
