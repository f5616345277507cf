/- errInvalidToken, of a lexer in whatever mode. Printed by gen_erm.py. -/
import Derived.Test.YtaecbclonmhbcaaGreatDoorP36
import Derived.Test.YtaecbclonmhbcaaGreatDoorP40
import Derived.Deep.RegionHeld3
set_option linter.unusedVariables false
set_option linter.unusedSimpArgs false
namespace Go.Proofs.YtaecbclonmhbcaaGreatDoor
open Go.RowKit
section
variable {F : Fix} {w0 w : World} {vm0 vt ve vm : Value} {p n : Nat} {x : Lx}
theorem MSt.drew1 (h : MSt F w0 vm0 p n w x vt ve vm) : MSt F w0 vm0 p n w.drew x vt ve vm := h.below ⟨rfl, rfl, rfl, Nat.le_refl _, fun _ _ => rfl⟩
theorem skipRM (h : MSt F w0 vm0 p n w x vt ve vm) :
    Calls Tryz.prog 89 #[.pointer (some ⟨F.b, 0, none⟩)] w fun e w' => ∃ (x' : Lx) (vt' ve' : Value), e = .returned (.tuple #[]) ∧ SkipRel x.peek x' ∧ MSt F w0 vm0 p n w' x' vt' ve' vm := by
  refine (skip_any h.lx h.good.wf h.gr h.good.len).mono ?_
  rintro e w' ⟨rfl, x', hk, hd⟩
  have hg := h.good.peek.skip hk
  have hes : x'.errs = x.errs := by
    have : x'.errs = x.peek.errs := by cases hk <;> rfl
    exact this.trans peek_same.errs
  obtain ⟨vt', ve', h1⟩ := h.num hd hes hg fun g => ⟨Nat.le_trans (peek_pos h.good.wf) (h.good.peek.skipPos hk), skip_ref hk⟩
  exact ⟨x', vt', ve', rfl, hk, h1⟩
theorem MSt.cutAt (h : MSt F w0 vm0 p n w x vt ve vm) {bd o cap : Nat} (hv : F.vd = .slice (some ⟨bd, o, none⟩) F.l.length cap) {a c : Nat} (hac : a ≤ c) (hcl : c ≤ F.l.length) :
    BytesAt w ((F.ae.both vm).off F.b) (.slice (some ⟨bd, o + a, none⟩) (c - a) (cap - a)) ((F.l.drop a).take (c - a)) := by
  have hd : BytesAt w ((F.ae.both vm).off F.b) F.vd x.d := h.lx.data
  rw [h.good.d, hv] at hd
  have hlen : ((F.l.drop a).take (c - a)).length = c - a := by simp; omega
  rcases hd with ⟨-, e⟩ | ⟨bd', o', cap', e, hc, hne, hx⟩
  · cases e
  · cases e
    refine .inr ⟨bd, o + a, cap - a, by rw [hlen], by rw [hlen]; omega, hne, fun i hi => ?_⟩
    rw [hlen] at hi
    have := hx (a + i) (by omega)
    rw [← Nat.add_assoc] at this
    rw [this]
    simp [List.getD, hi]
theorem conv_cut (h : MSt F w0 vm0 p n w x vt ve vm) {bd o cap : Nat} (hv : F.vd = .slice (some ⟨bd, o, none⟩) F.l.length cap) {a c : Nat} (hac : a ≤ c) (hcl : c ≤ F.l.length) :
    (convert 22 9 (.slice (some ⟨bd, o + a, none⟩) (c - a) (cap - a))).run Tryz.prog w = .ok (.string (strOfNums ((F.l.drop a).take (c - a)))) w := run_bytes_str (h.cutAt hv hac hcl) 0 9 Tryz.underlying9
set_option maxHeartbeats 16000000 in
set_option maxRecDepth 100000 in
theorem errM_many (h : MSt F w0 vm0 p n w x vt ve vm) (hn : n ≤ 1000000) (hf : F.g → x.multi = true → x.ok = true → Fresh x) (ho : x.ok = true) (hm : x.multi = true) (s : ByteArray) (hs : s.size ≤ 1000) :
    Calls Tryz.prog 103 #[.pointer (some ⟨F.b, 0, none⟩), .string s] w (MEnd F w0 vm0 p (n + 1) fun r x' _ _ => r = .tuple #[] ∧ BadRel s x x') := by
  have c1 := h.lx.c1
  have c2 := h.lx.c2
  have f2 := h.lx.free 2
  have c10 := h.lx.c10
  rw [hm] at c10
  have c11 := h.lx.c11
  rw [h.lx.errNil ho] at c11
  have hlt := h.lx.lt
  have hno : ¬ 9223372036854775807 < 9 + s.size := by omega
  have hadd : ∀ W, (Op.stringOp .add ⟨#[101, 120, 112, 101, 99, 116, 101, 100, 32]⟩ s).run Tryz.prog W = .ok (.string (⟨#[101, 120, 112, 101, 99, 116, 101, 100, 32]⟩ ++ s)) W := fun W => run_string_add_sum W _ _ (by show 9 + s.size ≤ _; omega)
  have H1 : Hid (MSt F.blind w0 vm0 p n (w.setCell ⟨F.b, 2, none⟩ (.int .i64 x.start)) { x with pos := x.start } vt ve vm) :=
    h.off.step ((Kept.refl F.b w).setCell 2 _) (h.lx.setPos x.start) rfl (h.good.setPos (p := x.start) (s := x.start) h.startLe (Nat.le_refl _)) (fun e => e.elim)
  have HO := Lib.hid ho
  have HM := Lib.hid hm
  have HF := Lib.hid hf
  have HGD := Lib.hid h.good
  have HMV := Lib.hid h.mov
  have HPK : Hid (({ x with pos := x.start } : Lx).consume.peek = ({ x with pos := x.start } : Lx).consume.fetch) := peek_new (by have : ({ x with pos := x.start } : Lx).consume.ok = true := ho; rw [this]; rfl)
  clear h hf ho hm
  rcases Bool.eq_false_or_eq_true (s.toList == [91]) with h91 | h91
  case inl =>
    go_enter Tryz.func103, Tryz.ntmps103
    go_wp2_with (first
      | (go_at_call 104; refine (consumeM H1.out).mono ?_; rintro e w2 ⟨rfl, g2⟩; have H2 := Lib.hid g2; clear g2)
      | (go_at_call 89; refine (skipRM H2.out).mono ?_; rintro e w3 ⟨y, vt3, ve3, rfl, hk, g3⟩; have HKR := Lib.hid hk; have y3 : w3.cell? ⟨F.b, 3, none⟩ = some (.int .u8 y.kind) := g3.lx.c3; have y7 : w3.cell? ⟨F.b, 7, none⟩ = some (.int .u8 y.delim) := g3.lx.c7; have z3 : w3.frozen? ⟨F.b, 3, none⟩ = false := g3.lx.free 3; have z7 : w3.frozen? ⟨F.b, 7, none⟩ = false := g3.lx.free 7; have H3 := Lib.hid g3; clear g3 hk))
    obtain ⟨w5, hw5⟩ : ∃ w5, w5 = (w3.setCell ⟨F.b, 7, none⟩ (.int .u8 93)).setCell ⟨F.b, 3, none⟩ (.int .u8 1) := ⟨_, rfl⟩
    have H5 : Hid (MSt F.blind w0 vm0 p n w5 { y with delim := 93, kind := 1 } vt3 ve3 vm) := by
      rw [hw5]
      exact H3.out.step (((Kept.refl F.b w3).setCell 7 _).setCell 3 _) ((H3.out.lx.setDelim 93).setKind 1) rfl (H3.out.good.setDelim 93) (fun e => e.elim)
    first
      | rw [← hw5]
      | skip
    clear hw5 y3 y7 z3 z7
    have HTU : Hid (y.turned s = { y with delim := 93, kind := 1 }) := (if_pos h91)
    obtain ⟨st, hst⟩ : ∃ st, st = y.start := ⟨_, rfl⟩
    obtain ⟨q, hq⟩ : ∃ q, q = y.pos := ⟨_, rfl⟩
    have hwf := H5.out.good.wf
    have hsq : st ≤ q := by rw [hst, hq]; exact hwf.start
    have hdl : ({ y with delim := 93, kind := 1 }).d = F.l := H5.out.good.d
    have hql : q ≤ F.l.length := by rw [hq, ← hdl]; exact hwf.pos
    have HL : Hid (F.l.length ≤ 100000) := by show _ ≤ _; rw [← hdl]; exact H5.out.good.len
    have d1 : w5.cell? ⟨F.b, 1, none⟩ = some (.int .i64 (st : Nat)) := by rw [hst]; exact H5.out.lx.c1
    have d2 : w5.cell? ⟨F.b, 2, none⟩ = some (.int .i64 (q : Nat)) := by rw [hq]; exact H5.out.lx.c2
    have d0 : w5.cell? ⟨F.b, 0, none⟩ = some F.vd := H5.out.lx.c0
    have hdata : BytesAt w5 ((F.ae.both vm).off F.b) F.vd ({ y with delim := 93, kind := 1 }).d := H5.out.lx.data
    rw [hdl] at hdata
    have HST := Lib.hid hst
    have HQQ := Lib.hid hq
    have hlt5 : F.b < w5.heap.size := H5.out.lx.lt
    clear hwf hst hq hdl
    have hnl := HL.out
    generalize hF : F.vd = fvd at d0 hdata
    generalize hN : F.l.length = N at hql hnl
    rcases hdata with ⟨h0, rfl⟩ | ⟨bd, o, cap, rfl, hc, hne, hx⟩
    · have hl0 : F.l.length = 0 := by rw [h0]; rfl
      rw [hN] at hl0
      obtain rfl : q = 0 := by omega
      obtain rfl : st = 0 := by omega
      have hcv := conv_nil
      go_region_held3 (fun w' => w'.cell? ⟨F.b, 0, none⟩ = some (.slice none 0 0) ∧ w'.cell? ⟨F.b, 1, none⟩ = some (.int .i64 (0 : Nat)) ∧ w'.cell? ⟨F.b, 2, none⟩ = some (.int .i64 (0 : Nat))) (first | exact ⟨k0, k1, k2⟩ | go_keep) (first | (go_at_call 108; refine (addM_new H5.out.drew1 (by omega) _ _ (by rw [show (F.blind).l.length = F.l.length from rfl, hN]; omega)).mono ?_; rintro e w9 ⟨r9, x9, vt9, ve9, vm9, rfl, ⟨rfl, rfl⟩, g9⟩; have k0 : w9.cell? ⟨F.b, 0, none⟩ = some (.slice none 0 0) := (g9.lx.c0).trans (by first | (rw [show F.blind.vd = F.vd from rfl, hF]; done) | rw [show F.blind.vd = F.vd from rfl, hF, hN]); have k1 : w9.cell? ⟨F.b, 1, none⟩ = some (.int .i64 (0 : Nat)) := (g9.lx.c1).trans (by rw [addNf_start]; exact congrArg (fun z : Nat => some (Value.int .i64 z)) HST.out.symm); have k2 : w9.cell? ⟨F.b, 2, none⟩ = some (.int .i64 (0 : Nat)) := (g9.lx.c2).trans (by rw [addNf_pos]; exact congrArg (fun z : Nat => some (Value.int .i64 z)) HQQ.out.symm); have H9 := Lib.hid g9; clear g9))
      all_goals
        go_wp2_with fail
        (try simp only [Exit.inBlock, Exit.then])
        refine bodyPost_ret (results_none rfl _ _ _) rfl ?_
        have hb0 : ∀ o, o = y.start → BadRel s x (({ y with delim := 93, kind := 1 } : Lx).addNf o) := by
          rintro o rfl
          have := BadRel.many (s := s) (x := x) y HO.out HM.out (by rw [← HPK.out]; exact HKR.out)
          rw [HTU.out] at this
          exact this
        have hb := hb0 _ HST.out
        exact ⟨_, _, vt9, ve9, vm9, rfl, ⟨rfl, hb⟩, H9.out.on fun g => ⟨Nat.le_trans (HMV.out g).1 (bad_mov HGD.out (HF.out g) hb).1, (bad_mov HGD.out (HF.out g) hb).2⟩⟩
    · rw [hN] at hc
      by_cases hcs : cap = st
      · obtain rfl : q = st := by omega
        have hcv := conv_empty
        go_region_held3 (fun w' => w'.cell? ⟨F.b, 0, none⟩ = some (.slice (some ⟨bd, o, none⟩) N cap) ∧ w'.cell? ⟨F.b, 1, none⟩ = some (.int .i64 (q : Nat)) ∧ w'.cell? ⟨F.b, 2, none⟩ = some (.int .i64 (q : Nat))) (first | exact ⟨k0, k1, k2⟩ | go_keep) (first | (go_at_call 108; refine (addM_new H5.out.drew1 (by omega) _ _ (by rw [show (F.blind).l.length = F.l.length from rfl, hN]; omega)).mono ?_; rintro e w9 ⟨r9, x9, vt9, ve9, vm9, rfl, ⟨rfl, rfl⟩, g9⟩; have k0 : w9.cell? ⟨F.b, 0, none⟩ = some (.slice (some ⟨bd, o, none⟩) N cap) := (g9.lx.c0).trans (by first | (rw [show F.blind.vd = F.vd from rfl, hF]; done) | rw [show F.blind.vd = F.vd from rfl, hF, hN]); have k1 : w9.cell? ⟨F.b, 1, none⟩ = some (.int .i64 (q : Nat)) := (g9.lx.c1).trans (by rw [addNf_start]; exact congrArg (fun z : Nat => some (Value.int .i64 z)) HST.out.symm); have k2 : w9.cell? ⟨F.b, 2, none⟩ = some (.int .i64 (q : Nat)) := (g9.lx.c2).trans (by rw [addNf_pos]; exact congrArg (fun z : Nat => some (Value.int .i64 z)) HQQ.out.symm); have H9 := Lib.hid g9; clear g9))
        all_goals
          go_wp2_with fail
          (try simp only [Exit.inBlock, Exit.then])
          refine bodyPost_ret (results_none rfl _ _ _) rfl ?_
          have hb0 : ∀ o, o = y.start → BadRel s x (({ y with delim := 93, kind := 1 } : Lx).addNf o) := by
            rintro o rfl
            have := BadRel.many (s := s) (x := x) y HO.out HM.out (by rw [← HPK.out]; exact HKR.out)
            rw [HTU.out] at this
            exact this
          have hb := hb0 _ HST.out
          exact ⟨_, _, vt9, ve9, vm9, rfl, ⟨rfl, hb⟩, H9.out.on fun g => ⟨Nat.le_trans (HMV.out g).1 (bad_mov HGD.out (HF.out g) hb).1, (bad_mov HGD.out (HF.out g) hb).2⟩⟩
      · have hcv : ∀ k, (convert 22 9 (.slice (some ⟨bd, o + st, none⟩) (q - st) (cap - st))).run Tryz.prog (w5.drewN k) = .ok (.string (strOfNums ((F.l.drop st).take (q - st)))) (w5.drewN k) := fun k =>
          run_convert_bytes_arg (w5.drewN k) 22 5 Tryz.underlying22 Tryz.underlying5 bd (o + st) (q - st) (cap - st) _ (by simp; omega) (fun i hi => by
            have := hx (st + i) (by omega)
            rw [← Nat.add_assoc] at this
            rw [show (w5.drewN k).cell? ⟨bd, o + st + i, none⟩ = w5.cell? ⟨bd, o + st + i, none⟩ from rfl, this]
            simp [List.getD, hi]) 9 Tryz.underlying9
        have hcv1 : (convert 22 9 (.slice (some ⟨bd, o + st, none⟩) (q - st) (cap - st))).run Tryz.prog w5.drew = .ok (.string (strOfNums ((F.l.drop st).take (q - st)))) w5.drew := hcv 1
        have hsz : (strOfNums ((F.l.drop st).take (q - st))).size ≤ 100000 := by rw [strOfNums_size]; simp; omega
        have hcvA : ∀ O, (convert 22 9 (.slice (some ⟨bd, o + st, none⟩) (q - st) (cap - st))).run Tryz.prog (w5.drew.alloc O) = .ok (.string (strOfNums ((F.l.drop st).take (q - st)))) (w5.drew.alloc O) := fun O =>
          run_convert_bytes_arg (w5.drew.alloc O) 22 5 Tryz.underlying22 Tryz.underlying5 bd (o + st) (q - st) (cap - st) _ (by simp; omega) (fun i hi => by
            have := hx (st + i) (by omega)
            rw [← Nat.add_assoc] at this
            rw [show (w5.drew.alloc O).cell? ⟨bd, o + st + i, none⟩ = w5.cell? ⟨bd, o + st + i, none⟩ by (simp only [World.cell?]; rw [heap_alloc_lt (w := w5.drew) hne.2]; rfl), this]
            simp [List.getD, hi]) 9 Tryz.underlying9
        clear hx
        have i1 : (st : Int) ≤ (q : Int) := by omega
        have i2 : (q : Int) ≤ (cap : Int) := by omega
        have i3 : ¬ cap = st := hcs
        go_region_held3 (fun w' => w'.cell? ⟨F.b, 0, none⟩ = some (.slice (some ⟨bd, o, none⟩) N cap) ∧ w'.cell? ⟨F.b, 1, none⟩ = some (.int .i64 (st : Nat)) ∧ w'.cell? ⟨F.b, 2, none⟩ = some (.int .i64 (q : Nat)) ∧ (convert 22 9 (.slice (some ⟨bd, o + st, none⟩) (q - st) (cap - st))).run Tryz.prog w' = .ok (.string (strOfNums ((F.l.drop st).take (q - st)))) w') (first | exact ⟨k0, k1, k2, k3⟩ | (refine ⟨?_, ?_, ?_, hcv1⟩ <;> go_keep) | (refine ⟨?_, ?_, ?_, hcvA _⟩ <;> go_keep)) (first | (go_at_call 108; refine (addM_new H5.out.drew1 (by omega) _ _ (by rw [show (F.blind).l.length = F.l.length from rfl, hN]; omega)).mono ?_; rintro e w9 ⟨r9, x9, vt9, ve9, vm9, rfl, ⟨rfl, rfl⟩, g9⟩; have k0 : w9.cell? ⟨F.b, 0, none⟩ = some (.slice (some ⟨bd, o, none⟩) N cap) := (g9.lx.c0).trans (by first | (rw [show F.blind.vd = F.vd from rfl, hF]; done) | rw [show F.blind.vd = F.vd from rfl, hF, hN]); have k1 : w9.cell? ⟨F.b, 1, none⟩ = some (.int .i64 (st : Nat)) := (g9.lx.c1).trans (by rw [addNf_start]; exact congrArg (fun z : Nat => some (Value.int .i64 z)) HST.out.symm); have k2 : w9.cell? ⟨F.b, 2, none⟩ = some (.int .i64 (q : Nat)) := (g9.lx.c2).trans (by rw [addNf_pos]; exact congrArg (fun z : Nat => some (Value.int .i64 z)) HQQ.out.symm); have k3 : (convert 22 9 (.slice (some ⟨bd, o + st, none⟩) (q - st) (cap - st))).run Tryz.prog w9 = .ok (.string (strOfNums ((F.l.drop st).take (q - st)))) w9 := conv_cut g9 (by first | (rw [show F.blind.vd = F.vd from rfl, hF]; done) | (rw [show F.blind.vd = F.vd from rfl, hF, show F.blind.l.length = F.l.length from rfl, hN])) (by omega) (by rw [show F.blind.l.length = F.l.length from rfl, hN]; omega); have H9 := Lib.hid g9; clear g9))
        all_goals
          go_wp2_with fail
          (try simp only [Exit.inBlock, Exit.then])
          refine bodyPost_ret (results_none rfl _ _ _) rfl ?_
          have hb0 : ∀ o, o = y.start → BadRel s x (({ y with delim := 93, kind := 1 } : Lx).addNf o) := by
            rintro o rfl
            have := BadRel.many (s := s) (x := x) y HO.out HM.out (by rw [← HPK.out]; exact HKR.out)
            rw [HTU.out] at this
            exact this
          have hb := hb0 _ HST.out
          exact ⟨_, _, vt9, ve9, vm9, rfl, ⟨rfl, hb⟩, H9.out.on fun g => ⟨Nat.le_trans (HMV.out g).1 (bad_mov HGD.out (HF.out g) hb).1, (bad_mov HGD.out (HF.out g) hb).2⟩⟩
  case inr =>
    rcases Bool.eq_false_or_eq_true (s.toList == [123]) with h123 | h123
    case inl =>
      go_enter Tryz.func103, Tryz.ntmps103
      go_wp2_with (first
        | (go_at_call 104; refine (consumeM H1.out).mono ?_; rintro e w2 ⟨rfl, g2⟩; have H2 := Lib.hid g2; clear g2)
        | (go_at_call 89; refine (skipRM H2.out).mono ?_; rintro e w3 ⟨y, vt3, ve3, rfl, hk, g3⟩; have HKR := Lib.hid hk; have y3 : w3.cell? ⟨F.b, 3, none⟩ = some (.int .u8 y.kind) := g3.lx.c3; have y7 : w3.cell? ⟨F.b, 7, none⟩ = some (.int .u8 y.delim) := g3.lx.c7; have z3 : w3.frozen? ⟨F.b, 3, none⟩ = false := g3.lx.free 3; have z7 : w3.frozen? ⟨F.b, 7, none⟩ = false := g3.lx.free 7; have H3 := Lib.hid g3; clear g3 hk))
      obtain ⟨w5, hw5⟩ : ∃ w5, w5 = (w3.setCell ⟨F.b, 7, none⟩ (.int .u8 125)).setCell ⟨F.b, 3, none⟩ (.int .u8 1) := ⟨_, rfl⟩
      have H5 : Hid (MSt F.blind w0 vm0 p n w5 { y with delim := 125, kind := 1 } vt3 ve3 vm) := by
        rw [hw5]
        exact H3.out.step (((Kept.refl F.b w3).setCell 7 _).setCell 3 _) ((H3.out.lx.setDelim 125).setKind 1) rfl (H3.out.good.setDelim 125) (fun e => e.elim)
      first
        | rw [← hw5]
        | skip
      clear hw5 y3 y7 z3 z7
      have HTU : Hid (y.turned s = { y with delim := 125, kind := 1 }) := ((if_neg (by rw [h91]; decide)).trans (if_pos h123))
      obtain ⟨st, hst⟩ : ∃ st, st = y.start := ⟨_, rfl⟩
      obtain ⟨q, hq⟩ : ∃ q, q = y.pos := ⟨_, rfl⟩
      have hwf := H5.out.good.wf
      have hsq : st ≤ q := by rw [hst, hq]; exact hwf.start
      have hdl : ({ y with delim := 125, kind := 1 }).d = F.l := H5.out.good.d
      have hql : q ≤ F.l.length := by rw [hq, ← hdl]; exact hwf.pos
      have HL : Hid (F.l.length ≤ 100000) := by show _ ≤ _; rw [← hdl]; exact H5.out.good.len
      have d1 : w5.cell? ⟨F.b, 1, none⟩ = some (.int .i64 (st : Nat)) := by rw [hst]; exact H5.out.lx.c1
      have d2 : w5.cell? ⟨F.b, 2, none⟩ = some (.int .i64 (q : Nat)) := by rw [hq]; exact H5.out.lx.c2
      have d0 : w5.cell? ⟨F.b, 0, none⟩ = some F.vd := H5.out.lx.c0
      have hdata : BytesAt w5 ((F.ae.both vm).off F.b) F.vd ({ y with delim := 125, kind := 1 }).d := H5.out.lx.data
      rw [hdl] at hdata
      have HST := Lib.hid hst
      have HQQ := Lib.hid hq
      have hlt5 : F.b < w5.heap.size := H5.out.lx.lt
      clear hwf hst hq hdl
      have hnl := HL.out
      generalize hF : F.vd = fvd at d0 hdata
      generalize hN : F.l.length = N at hql hnl
      rcases hdata with ⟨h0, rfl⟩ | ⟨bd, o, cap, rfl, hc, hne, hx⟩
      · have hl0 : F.l.length = 0 := by rw [h0]; rfl
        rw [hN] at hl0
        obtain rfl : q = 0 := by omega
        obtain rfl : st = 0 := by omega
        have hcv := conv_nil
        go_region_held3 (fun w' => w'.cell? ⟨F.b, 0, none⟩ = some (.slice none 0 0) ∧ w'.cell? ⟨F.b, 1, none⟩ = some (.int .i64 (0 : Nat)) ∧ w'.cell? ⟨F.b, 2, none⟩ = some (.int .i64 (0 : Nat))) (first | exact ⟨k0, k1, k2⟩ | go_keep) (first | (go_at_call 108; refine (addM_new H5.out.drew1 (by omega) _ _ (by rw [show (F.blind).l.length = F.l.length from rfl, hN]; omega)).mono ?_; rintro e w9 ⟨r9, x9, vt9, ve9, vm9, rfl, ⟨rfl, rfl⟩, g9⟩; have k0 : w9.cell? ⟨F.b, 0, none⟩ = some (.slice none 0 0) := (g9.lx.c0).trans (by first | (rw [show F.blind.vd = F.vd from rfl, hF]; done) | rw [show F.blind.vd = F.vd from rfl, hF, hN]); have k1 : w9.cell? ⟨F.b, 1, none⟩ = some (.int .i64 (0 : Nat)) := (g9.lx.c1).trans (by rw [addNf_start]; exact congrArg (fun z : Nat => some (Value.int .i64 z)) HST.out.symm); have k2 : w9.cell? ⟨F.b, 2, none⟩ = some (.int .i64 (0 : Nat)) := (g9.lx.c2).trans (by rw [addNf_pos]; exact congrArg (fun z : Nat => some (Value.int .i64 z)) HQQ.out.symm); have H9 := Lib.hid g9; clear g9))
        all_goals
          go_wp2_with fail
          (try simp only [Exit.inBlock, Exit.then])
          refine bodyPost_ret (results_none rfl _ _ _) rfl ?_
          have hb0 : ∀ o, o = y.start → BadRel s x (({ y with delim := 125, kind := 1 } : Lx).addNf o) := by
            rintro o rfl
            have := BadRel.many (s := s) (x := x) y HO.out HM.out (by rw [← HPK.out]; exact HKR.out)
            rw [HTU.out] at this
            exact this
          have hb := hb0 _ HST.out
          exact ⟨_, _, vt9, ve9, vm9, rfl, ⟨rfl, hb⟩, H9.out.on fun g => ⟨Nat.le_trans (HMV.out g).1 (bad_mov HGD.out (HF.out g) hb).1, (bad_mov HGD.out (HF.out g) hb).2⟩⟩
      · rw [hN] at hc
        by_cases hcs : cap = st
        · obtain rfl : q = st := by omega
          have hcv := conv_empty
          go_region_held3 (fun w' => w'.cell? ⟨F.b, 0, none⟩ = some (.slice (some ⟨bd, o, none⟩) N cap) ∧ w'.cell? ⟨F.b, 1, none⟩ = some (.int .i64 (q : Nat)) ∧ w'.cell? ⟨F.b, 2, none⟩ = some (.int .i64 (q : Nat))) (first | exact ⟨k0, k1, k2⟩ | go_keep) (first | (go_at_call 108; refine (addM_new H5.out.drew1 (by omega) _ _ (by rw [show (F.blind).l.length = F.l.length from rfl, hN]; omega)).mono ?_; rintro e w9 ⟨r9, x9, vt9, ve9, vm9, rfl, ⟨rfl, rfl⟩, g9⟩; have k0 : w9.cell? ⟨F.b, 0, none⟩ = some (.slice (some ⟨bd, o, none⟩) N cap) := (g9.lx.c0).trans (by first | (rw [show F.blind.vd = F.vd from rfl, hF]; done) | rw [show F.blind.vd = F.vd from rfl, hF, hN]); have k1 : w9.cell? ⟨F.b, 1, none⟩ = some (.int .i64 (q : Nat)) := (g9.lx.c1).trans (by rw [addNf_start]; exact congrArg (fun z : Nat => some (Value.int .i64 z)) HST.out.symm); have k2 : w9.cell? ⟨F.b, 2, none⟩ = some (.int .i64 (q : Nat)) := (g9.lx.c2).trans (by rw [addNf_pos]; exact congrArg (fun z : Nat => some (Value.int .i64 z)) HQQ.out.symm); have H9 := Lib.hid g9; clear g9))
          all_goals
            go_wp2_with fail
            (try simp only [Exit.inBlock, Exit.then])
            refine bodyPost_ret (results_none rfl _ _ _) rfl ?_
            have hb0 : ∀ o, o = y.start → BadRel s x (({ y with delim := 125, kind := 1 } : Lx).addNf o) := by
              rintro o rfl
              have := BadRel.many (s := s) (x := x) y HO.out HM.out (by rw [← HPK.out]; exact HKR.out)
              rw [HTU.out] at this
              exact this
            have hb := hb0 _ HST.out
            exact ⟨_, _, vt9, ve9, vm9, rfl, ⟨rfl, hb⟩, H9.out.on fun g => ⟨Nat.le_trans (HMV.out g).1 (bad_mov HGD.out (HF.out g) hb).1, (bad_mov HGD.out (HF.out g) hb).2⟩⟩
        · have hcv : ∀ k, (convert 22 9 (.slice (some ⟨bd, o + st, none⟩) (q - st) (cap - st))).run Tryz.prog (w5.drewN k) = .ok (.string (strOfNums ((F.l.drop st).take (q - st)))) (w5.drewN k) := fun k =>
            run_convert_bytes_arg (w5.drewN k) 22 5 Tryz.underlying22 Tryz.underlying5 bd (o + st) (q - st) (cap - st) _ (by simp; omega) (fun i hi => by
              have := hx (st + i) (by omega)
              rw [← Nat.add_assoc] at this
              rw [show (w5.drewN k).cell? ⟨bd, o + st + i, none⟩ = w5.cell? ⟨bd, o + st + i, none⟩ from rfl, this]
              simp [List.getD, hi]) 9 Tryz.underlying9
          have hcv1 : (convert 22 9 (.slice (some ⟨bd, o + st, none⟩) (q - st) (cap - st))).run Tryz.prog w5.drew = .ok (.string (strOfNums ((F.l.drop st).take (q - st)))) w5.drew := hcv 1
          have hsz : (strOfNums ((F.l.drop st).take (q - st))).size ≤ 100000 := by rw [strOfNums_size]; simp; omega
          have hcvA : ∀ O, (convert 22 9 (.slice (some ⟨bd, o + st, none⟩) (q - st) (cap - st))).run Tryz.prog (w5.drew.alloc O) = .ok (.string (strOfNums ((F.l.drop st).take (q - st)))) (w5.drew.alloc O) := fun O =>
            run_convert_bytes_arg (w5.drew.alloc O) 22 5 Tryz.underlying22 Tryz.underlying5 bd (o + st) (q - st) (cap - st) _ (by simp; omega) (fun i hi => by
              have := hx (st + i) (by omega)
              rw [← Nat.add_assoc] at this
              rw [show (w5.drew.alloc O).cell? ⟨bd, o + st + i, none⟩ = w5.cell? ⟨bd, o + st + i, none⟩ by (simp only [World.cell?]; rw [heap_alloc_lt (w := w5.drew) hne.2]; rfl), this]
              simp [List.getD, hi]) 9 Tryz.underlying9
          clear hx
          have i1 : (st : Int) ≤ (q : Int) := by omega
          have i2 : (q : Int) ≤ (cap : Int) := by omega
          have i3 : ¬ cap = st := hcs
          go_region_held3 (fun w' => w'.cell? ⟨F.b, 0, none⟩ = some (.slice (some ⟨bd, o, none⟩) N cap) ∧ w'.cell? ⟨F.b, 1, none⟩ = some (.int .i64 (st : Nat)) ∧ w'.cell? ⟨F.b, 2, none⟩ = some (.int .i64 (q : Nat)) ∧ (convert 22 9 (.slice (some ⟨bd, o + st, none⟩) (q - st) (cap - st))).run Tryz.prog w' = .ok (.string (strOfNums ((F.l.drop st).take (q - st)))) w') (first | exact ⟨k0, k1, k2, k3⟩ | (refine ⟨?_, ?_, ?_, hcv1⟩ <;> go_keep) | (refine ⟨?_, ?_, ?_, hcvA _⟩ <;> go_keep)) (first | (go_at_call 108; refine (addM_new H5.out.drew1 (by omega) _ _ (by rw [show (F.blind).l.length = F.l.length from rfl, hN]; omega)).mono ?_; rintro e w9 ⟨r9, x9, vt9, ve9, vm9, rfl, ⟨rfl, rfl⟩, g9⟩; have k0 : w9.cell? ⟨F.b, 0, none⟩ = some (.slice (some ⟨bd, o, none⟩) N cap) := (g9.lx.c0).trans (by first | (rw [show F.blind.vd = F.vd from rfl, hF]; done) | rw [show F.blind.vd = F.vd from rfl, hF, hN]); have k1 : w9.cell? ⟨F.b, 1, none⟩ = some (.int .i64 (st : Nat)) := (g9.lx.c1).trans (by rw [addNf_start]; exact congrArg (fun z : Nat => some (Value.int .i64 z)) HST.out.symm); have k2 : w9.cell? ⟨F.b, 2, none⟩ = some (.int .i64 (q : Nat)) := (g9.lx.c2).trans (by rw [addNf_pos]; exact congrArg (fun z : Nat => some (Value.int .i64 z)) HQQ.out.symm); have k3 : (convert 22 9 (.slice (some ⟨bd, o + st, none⟩) (q - st) (cap - st))).run Tryz.prog w9 = .ok (.string (strOfNums ((F.l.drop st).take (q - st)))) w9 := conv_cut g9 (by first | (rw [show F.blind.vd = F.vd from rfl, hF]; done) | (rw [show F.blind.vd = F.vd from rfl, hF, show F.blind.l.length = F.l.length from rfl, hN])) (by omega) (by rw [show F.blind.l.length = F.l.length from rfl, hN]; omega); have H9 := Lib.hid g9; clear g9))
          all_goals
            go_wp2_with fail
            (try simp only [Exit.inBlock, Exit.then])
            refine bodyPost_ret (results_none rfl _ _ _) rfl ?_
            have hb0 : ∀ o, o = y.start → BadRel s x (({ y with delim := 125, kind := 1 } : Lx).addNf o) := by
              rintro o rfl
              have := BadRel.many (s := s) (x := x) y HO.out HM.out (by rw [← HPK.out]; exact HKR.out)
              rw [HTU.out] at this
              exact this
            have hb := hb0 _ HST.out
            exact ⟨_, _, vt9, ve9, vm9, rfl, ⟨rfl, hb⟩, H9.out.on fun g => ⟨Nat.le_trans (HMV.out g).1 (bad_mov HGD.out (HF.out g) hb).1, (bad_mov HGD.out (HF.out g) hb).2⟩⟩
    case inr =>
      go_enter Tryz.func103, Tryz.ntmps103
      go_wp2_with (first
        | (go_at_call 104; refine (consumeM H1.out).mono ?_; rintro e w2 ⟨rfl, g2⟩; have H2 := Lib.hid g2; clear g2)
        | (go_at_call 89; refine (skipRM H2.out).mono ?_; rintro e w3 ⟨y, vt3, ve3, rfl, hk, g3⟩; have HKR := Lib.hid hk; have y3 : w3.cell? ⟨F.b, 3, none⟩ = some (.int .u8 y.kind) := g3.lx.c3; have y7 : w3.cell? ⟨F.b, 7, none⟩ = some (.int .u8 y.delim) := g3.lx.c7; have z3 : w3.frozen? ⟨F.b, 3, none⟩ = false := g3.lx.free 3; have z7 : w3.frozen? ⟨F.b, 7, none⟩ = false := g3.lx.free 7; have H3 := Lib.hid g3; clear g3 hk))
      obtain ⟨w5, hw5⟩ : ∃ w5, w5 = w3 := ⟨_, rfl⟩
      have H5 : Hid (MSt F.blind w0 vm0 p n w5 y vt3 ve3 vm) := by rw [hw5]; exact H3.out
      rw [← hw5]
      clear hw5 y3 y7 z3 z7
      have HTU : Hid (y.turned s = y) := ((if_neg (by rw [h91]; decide)).trans (if_neg (by rw [h123]; decide)))
      obtain ⟨st, hst⟩ : ∃ st, st = y.start := ⟨_, rfl⟩
      obtain ⟨q, hq⟩ : ∃ q, q = y.pos := ⟨_, rfl⟩
      have hwf := H5.out.good.wf
      have hsq : st ≤ q := by rw [hst, hq]; exact hwf.start
      have hdl : (y).d = F.l := H5.out.good.d
      have hql : q ≤ F.l.length := by rw [hq, ← hdl]; exact hwf.pos
      have HL : Hid (F.l.length ≤ 100000) := by show _ ≤ _; rw [← hdl]; exact H5.out.good.len
      have d1 : w5.cell? ⟨F.b, 1, none⟩ = some (.int .i64 (st : Nat)) := by rw [hst]; exact H5.out.lx.c1
      have d2 : w5.cell? ⟨F.b, 2, none⟩ = some (.int .i64 (q : Nat)) := by rw [hq]; exact H5.out.lx.c2
      have d0 : w5.cell? ⟨F.b, 0, none⟩ = some F.vd := H5.out.lx.c0
      have hdata : BytesAt w5 ((F.ae.both vm).off F.b) F.vd (y).d := H5.out.lx.data
      rw [hdl] at hdata
      have HST := Lib.hid hst
      have HQQ := Lib.hid hq
      have hlt5 : F.b < w5.heap.size := H5.out.lx.lt
      clear hwf hst hq hdl
      have hnl := HL.out
      generalize hF : F.vd = fvd at d0 hdata
      generalize hN : F.l.length = N at hql hnl
      rcases hdata with ⟨h0, rfl⟩ | ⟨bd, o, cap, rfl, hc, hne, hx⟩
      · have hl0 : F.l.length = 0 := by rw [h0]; rfl
        rw [hN] at hl0
        obtain rfl : q = 0 := by omega
        obtain rfl : st = 0 := by omega
        have hcv := conv_nil
        go_region_held3 (fun w' => w'.cell? ⟨F.b, 0, none⟩ = some (.slice none 0 0) ∧ w'.cell? ⟨F.b, 1, none⟩ = some (.int .i64 (0 : Nat)) ∧ w'.cell? ⟨F.b, 2, none⟩ = some (.int .i64 (0 : Nat))) (first | exact ⟨k0, k1, k2⟩ | go_keep) (first | (go_at_call 108; refine (addM_new H5.out.drew1 (by omega) _ _ (by rw [show (F.blind).l.length = F.l.length from rfl, hN]; omega)).mono ?_; rintro e w9 ⟨r9, x9, vt9, ve9, vm9, rfl, ⟨rfl, rfl⟩, g9⟩; have k0 : w9.cell? ⟨F.b, 0, none⟩ = some (.slice none 0 0) := (g9.lx.c0).trans (by first | (rw [show F.blind.vd = F.vd from rfl, hF]; done) | rw [show F.blind.vd = F.vd from rfl, hF, hN]); have k1 : w9.cell? ⟨F.b, 1, none⟩ = some (.int .i64 (0 : Nat)) := (g9.lx.c1).trans (by rw [addNf_start]; exact congrArg (fun z : Nat => some (Value.int .i64 z)) HST.out.symm); have k2 : w9.cell? ⟨F.b, 2, none⟩ = some (.int .i64 (0 : Nat)) := (g9.lx.c2).trans (by rw [addNf_pos]; exact congrArg (fun z : Nat => some (Value.int .i64 z)) HQQ.out.symm); have H9 := Lib.hid g9; clear g9))
        all_goals
          go_wp2_with fail
          (try simp only [Exit.inBlock, Exit.then])
          refine bodyPost_ret (results_none rfl _ _ _) rfl ?_
          have hb0 : ∀ o, o = y.start → BadRel s x ((y : Lx).addNf o) := by
            rintro o rfl
            have := BadRel.many (s := s) (x := x) y HO.out HM.out (by rw [← HPK.out]; exact HKR.out)
            rw [HTU.out] at this
            exact this
          have hb := hb0 _ HST.out
          exact ⟨_, _, vt9, ve9, vm9, rfl, ⟨rfl, hb⟩, H9.out.on fun g => ⟨Nat.le_trans (HMV.out g).1 (bad_mov HGD.out (HF.out g) hb).1, (bad_mov HGD.out (HF.out g) hb).2⟩⟩
      · rw [hN] at hc
        by_cases hcs : cap = st
        · obtain rfl : q = st := by omega
          have hcv := conv_empty
          go_region_held3 (fun w' => w'.cell? ⟨F.b, 0, none⟩ = some (.slice (some ⟨bd, o, none⟩) N cap) ∧ w'.cell? ⟨F.b, 1, none⟩ = some (.int .i64 (q : Nat)) ∧ w'.cell? ⟨F.b, 2, none⟩ = some (.int .i64 (q : Nat))) (first | exact ⟨k0, k1, k2⟩ | go_keep) (first | (go_at_call 108; refine (addM_new H5.out.drew1 (by omega) _ _ (by rw [show (F.blind).l.length = F.l.length from rfl, hN]; omega)).mono ?_; rintro e w9 ⟨r9, x9, vt9, ve9, vm9, rfl, ⟨rfl, rfl⟩, g9⟩; have k0 : w9.cell? ⟨F.b, 0, none⟩ = some (.slice (some ⟨bd, o, none⟩) N cap) := (g9.lx.c0).trans (by first | (rw [show F.blind.vd = F.vd from rfl, hF]; done) | rw [show F.blind.vd = F.vd from rfl, hF, hN]); have k1 : w9.cell? ⟨F.b, 1, none⟩ = some (.int .i64 (q : Nat)) := (g9.lx.c1).trans (by rw [addNf_start]; exact congrArg (fun z : Nat => some (Value.int .i64 z)) HST.out.symm); have k2 : w9.cell? ⟨F.b, 2, none⟩ = some (.int .i64 (q : Nat)) := (g9.lx.c2).trans (by rw [addNf_pos]; exact congrArg (fun z : Nat => some (Value.int .i64 z)) HQQ.out.symm); have H9 := Lib.hid g9; clear g9))
          all_goals
            go_wp2_with fail
            (try simp only [Exit.inBlock, Exit.then])
            refine bodyPost_ret (results_none rfl _ _ _) rfl ?_
            have hb0 : ∀ o, o = y.start → BadRel s x ((y : Lx).addNf o) := by
              rintro o rfl
              have := BadRel.many (s := s) (x := x) y HO.out HM.out (by rw [← HPK.out]; exact HKR.out)
              rw [HTU.out] at this
              exact this
            have hb := hb0 _ HST.out
            exact ⟨_, _, vt9, ve9, vm9, rfl, ⟨rfl, hb⟩, H9.out.on fun g => ⟨Nat.le_trans (HMV.out g).1 (bad_mov HGD.out (HF.out g) hb).1, (bad_mov HGD.out (HF.out g) hb).2⟩⟩
        · have hcv : ∀ k, (convert 22 9 (.slice (some ⟨bd, o + st, none⟩) (q - st) (cap - st))).run Tryz.prog (w5.drewN k) = .ok (.string (strOfNums ((F.l.drop st).take (q - st)))) (w5.drewN k) := fun k =>
            run_convert_bytes_arg (w5.drewN k) 22 5 Tryz.underlying22 Tryz.underlying5 bd (o + st) (q - st) (cap - st) _ (by simp; omega) (fun i hi => by
              have := hx (st + i) (by omega)
              rw [← Nat.add_assoc] at this
              rw [show (w5.drewN k).cell? ⟨bd, o + st + i, none⟩ = w5.cell? ⟨bd, o + st + i, none⟩ from rfl, this]
              simp [List.getD, hi]) 9 Tryz.underlying9
          have hcv1 : (convert 22 9 (.slice (some ⟨bd, o + st, none⟩) (q - st) (cap - st))).run Tryz.prog w5.drew = .ok (.string (strOfNums ((F.l.drop st).take (q - st)))) w5.drew := hcv 1
          have hsz : (strOfNums ((F.l.drop st).take (q - st))).size ≤ 100000 := by rw [strOfNums_size]; simp; omega
          have hcvA : ∀ O, (convert 22 9 (.slice (some ⟨bd, o + st, none⟩) (q - st) (cap - st))).run Tryz.prog (w5.drew.alloc O) = .ok (.string (strOfNums ((F.l.drop st).take (q - st)))) (w5.drew.alloc O) := fun O =>
            run_convert_bytes_arg (w5.drew.alloc O) 22 5 Tryz.underlying22 Tryz.underlying5 bd (o + st) (q - st) (cap - st) _ (by simp; omega) (fun i hi => by
              have := hx (st + i) (by omega)
              rw [← Nat.add_assoc] at this
              rw [show (w5.drew.alloc O).cell? ⟨bd, o + st + i, none⟩ = w5.cell? ⟨bd, o + st + i, none⟩ by (simp only [World.cell?]; rw [heap_alloc_lt (w := w5.drew) hne.2]; rfl), this]
              simp [List.getD, hi]) 9 Tryz.underlying9
          clear hx
          have i1 : (st : Int) ≤ (q : Int) := by omega
          have i2 : (q : Int) ≤ (cap : Int) := by omega
          have i3 : ¬ cap = st := hcs
          go_region_held3 (fun w' => w'.cell? ⟨F.b, 0, none⟩ = some (.slice (some ⟨bd, o, none⟩) N cap) ∧ w'.cell? ⟨F.b, 1, none⟩ = some (.int .i64 (st : Nat)) ∧ w'.cell? ⟨F.b, 2, none⟩ = some (.int .i64 (q : Nat)) ∧ (convert 22 9 (.slice (some ⟨bd, o + st, none⟩) (q - st) (cap - st))).run Tryz.prog w' = .ok (.string (strOfNums ((F.l.drop st).take (q - st)))) w') (first | exact ⟨k0, k1, k2, k3⟩ | (refine ⟨?_, ?_, ?_, hcv1⟩ <;> go_keep) | (refine ⟨?_, ?_, ?_, hcvA _⟩ <;> go_keep)) (first | (go_at_call 108; refine (addM_new H5.out.drew1 (by omega) _ _ (by rw [show (F.blind).l.length = F.l.length from rfl, hN]; omega)).mono ?_; rintro e w9 ⟨r9, x9, vt9, ve9, vm9, rfl, ⟨rfl, rfl⟩, g9⟩; have k0 : w9.cell? ⟨F.b, 0, none⟩ = some (.slice (some ⟨bd, o, none⟩) N cap) := (g9.lx.c0).trans (by first | (rw [show F.blind.vd = F.vd from rfl, hF]; done) | rw [show F.blind.vd = F.vd from rfl, hF, hN]); have k1 : w9.cell? ⟨F.b, 1, none⟩ = some (.int .i64 (st : Nat)) := (g9.lx.c1).trans (by rw [addNf_start]; exact congrArg (fun z : Nat => some (Value.int .i64 z)) HST.out.symm); have k2 : w9.cell? ⟨F.b, 2, none⟩ = some (.int .i64 (q : Nat)) := (g9.lx.c2).trans (by rw [addNf_pos]; exact congrArg (fun z : Nat => some (Value.int .i64 z)) HQQ.out.symm); have k3 : (convert 22 9 (.slice (some ⟨bd, o + st, none⟩) (q - st) (cap - st))).run Tryz.prog w9 = .ok (.string (strOfNums ((F.l.drop st).take (q - st)))) w9 := conv_cut g9 (by first | (rw [show F.blind.vd = F.vd from rfl, hF]; done) | (rw [show F.blind.vd = F.vd from rfl, hF, show F.blind.l.length = F.l.length from rfl, hN])) (by omega) (by rw [show F.blind.l.length = F.l.length from rfl, hN]; omega); have H9 := Lib.hid g9; clear g9))
          all_goals
            go_wp2_with fail
            (try simp only [Exit.inBlock, Exit.then])
            refine bodyPost_ret (results_none rfl _ _ _) rfl ?_
            have hb0 : ∀ o, o = y.start → BadRel s x ((y : Lx).addNf o) := by
              rintro o rfl
              have := BadRel.many (s := s) (x := x) y HO.out HM.out (by rw [← HPK.out]; exact HKR.out)
              rw [HTU.out] at this
              exact this
            have hb := hb0 _ HST.out
            exact ⟨_, _, vt9, ve9, vm9, rfl, ⟨rfl, hb⟩, H9.out.on fun g => ⟨Nat.le_trans (HMV.out g).1 (bad_mov HGD.out (HF.out g) hb).1, (bad_mov HGD.out (HF.out g) hb).2⟩⟩
theorem errM (h : MSt F w0 vm0 p n w x vt ve vm) (hn : n ≤ 1000000) (hf : F.g → x.multi = true → x.ok = true → Fresh x) (s : ByteArray) (hs : s.size ≤ 1000) :
    Calls Tryz.prog 103 #[.pointer (some ⟨F.b, 0, none⟩), .string s] w (MEnd F w0 vm0 p (n + 1) fun r x' _ _ => r = .tuple #[] ∧ BadRel s x x') := by
  rcases Bool.eq_false_or_eq_true x.ok with ho | ho
  case inr =>
    refine (errInvalid_held h.lx ho s).mono ?_
    rintro e w' ⟨he, rfl⟩
    exact ⟨_, x, vt, ve, vm, he, ⟨rfl, .held ho⟩, h.le (Nat.le_succ n)⟩
  case inl =>
    rcases Bool.eq_false_or_eq_true x.multi with hm | hm
    · exact errM_many h hn hf ho hm s hs
    · refine (errInvalid_any h.lx hm s hs).mono ?_
      rintro e w' ⟨he, ve', hl, hk⟩
      have hx : x.fail = { x with err := .lex x.pos } := by unfold Lx.fail; rw [if_pos ho]
      rw [hx] at hl
      have hb := BadRel.one (s := s) ho hm
      exact ⟨_, _, vt, ve', vm, he, ⟨rfl, hb⟩, (h.le (Nat.le_succ n)).step hk hl rfl (h.good.bad hb) fun g => bad_mov h.good (hf g) hb⟩
end
end Go.Proofs.YtaecbclonmhbcaaGreatDoor
