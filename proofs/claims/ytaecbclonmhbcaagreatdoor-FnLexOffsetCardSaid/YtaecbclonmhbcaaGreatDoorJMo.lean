/- impl.Offset, impl.Offsets: the places of errors are places of the text. -/
import Derived.Test.YtaecbclonmhbcaaGreatDoorQ49
import Derived.Test.YtaecbclonmhbcaaGreatDoorP36
set_option linter.unusedVariables false
set_option linter.unusedSimpArgs false
namespace Go.Proofs.YtaecbclonmhbcaaGreatDoor
open Go.RowKit
theorem assert_nil (W : World) : (Instr.typeAssert .nilIface 63 60 true).run Tryz.prog W = .ok (.tuple #[.pointer none, .bool false]) W := by show _ = _; kernel_rfl
theorem assert_191 (a : Option Addr) (W : World) : (Instr.typeAssert (.iface 191 (.pointer a)) 63 60 true).run Tryz.prog W = .ok (.tuple #[.pointer none, .bool false]) W := by show _ = _; kernel_rfl
theorem assert_60 (a : Option Addr) (W : World) : (Instr.typeAssert (.iface 60 (.pointer a)) 63 60 true).run Tryz.prog W = .ok (.tuple #[.pointer a, .bool true]) W := by show _ = _; kernel_rfl
def OffQ (w : World) (n : Nat) (e : Ending) (w' : World) : Prop := ∃ (o : Nat) (t : Bool), e = .returned (.tuple #[.int .i64 o, .bool t]) ∧ o ≤ n ∧ Below w.heap.size w w'
def OffI (w : World) (b : Nat) (ae ao : Addr) (l : List Int) (mu : Bool) (vd : Value) (k : Nat) (wr : World) : Prop :=
  ∃ (X : Lx) (vt ve vm : Value), Below w.heap.size w wr ∧ MSt (FixOf b ae ao l mu vd (.slice none 0 0) False) wr vm X.pos (2 * k) wr X vt ve vm
theorem OffI.next {w : World} {b : Nat} {ae ao : Addr} {l : List Int} {mu : Bool} {vd : Value} {k : Nat} {wr w2 : World} {X X' : Lx} {vt ve vm vt' ve' vm' : Value} (hb : w.heap.size ≤ b) (h : Below w.heap.size w wr) (h0 : MSt (FixOf b ae ao l mu vd (.slice none 0 0) False) wr vm X.pos (2 * k) wr X vt ve vm)
    (h1 : MSt (FixOf b ae ao l mu vd (.slice none 0 0) False) wr vm X.pos (2 * k + 2) w2 X' vt' ve' vm') : OffI w b ae ao l mu vd (k + 1) w2 :=
  ⟨X', vt', ve', vm', h.trans (h1.kept.low hb h.size fun j e => (h0.rowLt e).1), h1.start.le (by omega)⟩
set_option maxHeartbeats 4000000 in
set_option maxRecDepth 100000 in
theorem offset_any {w : World} {v : Value} {l : List Int} {ae ao : Addr} (hv : BytesArg w v l) (hl : l.length ≤ 100000) (hby : Bytes l) (hG : Ground w ae ao)
    (cs : List (Int × Int × Value)) (hcl : cs.length ≤ 400000) (cb co cc : Nat) (pv : Option Addr) (hpv : 0 < cs.length → pv = some ⟨cb, co, none⟩) (hcs : CallsIn w cb co cs) (hcb : cb < w.heap.size) :
    Calls Tryz.prog 18 #[v, .slice pv cs.length cc] w (OffQ w l.length) := by
  have HGR := Lib.hid hG
  have HCS := Lib.hid hcs
  have HCB := Lib.hid hcb
  have HPV := Lib.hid hpv
  have HBY := Lib.hid hby
  clear hcs hcb hpv hby
  go_enter Tryz.func18, Tryz.ntmps18
  go_wp2_with (go_at_call 25; refine (lexer_arg (ae := ⟨ae, fun _ => False⟩) hv (by omega) ⟨HGR.out.env.eof, HGR.out.env.other, HGR.out.env.ne⟩ (fun _ a => a.elim) HGR.out.two false).mono ?_; rintro e w1 ⟨b, vd, rfl, hb, hg, hlx⟩)
  have HI0 : Hid (OffI w b ae ao l false vd 0 w1) := ⟨Lx.begin l false, .slice none 0 0, .nilIface, .slice none 0 0, (Below.refl w.heap.size w).grown hg (Nat.le_refl _) (by simp), begin_st HGR.out hl HBY.out hb hg hlx False⟩
  clear hg hlx hv hG
  go_loopw [15] (fun i wr => ∃ k : Nat, i = .int .i64 k ∧ k ≤ cs.length ∧ OffI w b ae ao l false vd k wr) (fun i _ => cs.length - (intOf i).toNat)
  case atStart => exact ⟨0, rfl, Nat.zero_le _, HI0.out⟩
  case round =>
    obtain ⟨k, rfl, hk, X, vt, ve, vm, hbel, hst⟩ := hrel
    have HB := Lib.hid hbel
    have HL := Lib.hid hst
    clear hbel hst
    by_cases hlt : k < cs.length
    case neg =>
      obtain rfl : k = cs.length := by omega
      have he := HL.out.lx.err
      have hle : ∀ o, X.err = .lex o → o ≤ l.length := fun o e => by have h1 := HL.out.good.eb o e; rw [HL.out.good.d] at h1; exact h1
      have ha1 := assert_nil
      have ha2 := assert_191
      have ha3 := assert_60
      cases hxe : X.err with
      | nil =>
        rw [hxe] at he
        have HE : Hid (ve = .nilIface) := he
        clear he hle hxe
        go_wp2_with (go_at_call 28; refine (error_any HL.out.lx).mono ?_; rintro e w2 ⟨h2, rfl⟩; rw [HE.out] at h2; subst h2)
        exact bodyPost_ret (results_tmp2 rfl _ _ _) rfl ⟨0, false, rfl, Nat.zero_le _, HB.out⟩
      | eof =>
        rw [hxe] at he
        have HE : Hid (ve = .iface 191 (.pointer (some ae))) := he
        clear he hle hxe
        go_wp2_with (go_at_call 28; refine (error_any HL.out.lx).mono ?_; rintro e w2 ⟨h2, rfl⟩; rw [HE.out] at h2; subst h2)
        exact bodyPost_ret (results_tmp2 rfl _ _ _) rfl ⟨0, false, rfl, Nat.zero_le _, HB.out⟩
      | other =>
        rw [hxe] at he
        have HE : Hid (ve = .iface 191 (.pointer (some ao))) := he
        clear he hle hxe
        go_wp2_with (go_at_call 28; refine (error_any HL.out.lx).mono ?_; rintro e w2 ⟨h2, rfl⟩; rw [HE.out] at h2; subst h2)
        exact bodyPost_ret (results_tmp2 rfl _ _ _) rfl ⟨0, false, rfl, Nat.zero_le _, HB.out⟩
      | lex o =>
        rw [hxe] at he
        obtain ⟨kE, s, t, h1, h2, h3⟩ := he
        have HE : Hid (ve = .iface 60 (.pointer (some ⟨kE, 0, none⟩))) := h1
        have HLE := Lib.hid (hle o hxe)
        have e1 := cell_of_heap h3 1 rfl
        clear h1 h2 h3 hle hxe
        go_wp2_with (go_at_call 28; refine (error_any HL.out.lx).mono ?_; rintro e w2 ⟨h2, rfl⟩; rw [HE.out] at h2; subst h2)
        exact bodyPost_ret (results_tmp2 rfl _ _ _) rfl ⟨o, true, rfl, HLE.out, HB.out⟩
    case pos =>
      obtain rfl := HPV.out (by omega)
      obtain ⟨p3, s3, c3, hc3, q0', q1', q2'⟩ := HCS.out k hlt
      have q0 := (HB.out.cell (p := ⟨cb, co + k * 3, none⟩) HCB.out).trans q0'
      have q1 := (HB.out.cell (p := ⟨cb, co + k * 3 + 1, none⟩) HCB.out).trans q1'
      have q2 := (HB.out.cell (p := ⟨cb, co + k * 3 + 2, none⟩) HCB.out).trans q2'
      clear q0' q1' q2' hc3
      generalize cs.getD k (0, 0, .nilIface) = c at q0 q1
      obtain ⟨op, nn, c2⟩ := c
      simp only at q0 q1
      go_wp2_with (go_at_call 26; refine (callM (HL.out.alloc _) (by omega) op (fun _ g => g.elim) nn p3 s3 c3).mono ?_; rintro e w2 ⟨r2, X', vt', ve', vm', rfl, -, hst2⟩; have HN := Lib.hid (OffI.next hb HB.out HL.out hst2); clear hst2)
      go_roundw
      case rel => exact ⟨k + 1, by go_num, by omega, HN.out⟩
      case measure => simp [intOf]; omega
theorem append_int {w : World} {base : Nat} {v : Value} {n : Nat} {xs : List Value} (hown : w.ownsRow base 3 1 v n xs) (ad : Addr) (c : Nat) (u : Value) (hu : w.cell? ad = some u) (h1 : u.oneCell' = true) (hn : n ≤ 1000000) (hbase : base ≤ w.heap.size) :
    ∃ v' w', (Builtin.append_ #[40, 40] 40 #[v, .slice (some ad) 1 c]).run Tryz.prog w = .ok v' w' ∧ w'.ownsRow base 3 1 v' (n + 1) (xs ++ [u]) ∧ w.grownBy w' v.ownBlock := by
  obtain ⟨i, hi, hz, hz1, hz2⟩ := info_parts info3
  have hnews : ∀ j z, [u][j]? = some z → w.cell? (ad.add j) = some z := by
    intro j z hj
    cases j with
    | zero => simp only [List.getElem?_cons_zero, Option.some.injEq] at hj; subst hj; rw [show ad.add 0 = ad from by unfold Addr.add; split <;> simp_all]; exact hu
    | succ j => simp at hj
  have h1' : ∀ z ∈ [u], z.oneCell' = true := by intro z hz'; simp only [List.mem_singleton] at hz'; subst hz'; exact h1
  obtain ⟨v', w', a1, a2, a3, -⟩ := run_append_own (P := Tryz.prog) w base 40 40 3 i _ 1 8 Tryz.underlying40 hi hz hz1 hz2 rfl (by decide) v n xs hown ad 1 c [u] rfl hnews h1' (by unfold maxLen; omega) (by omega) hbase
  exact ⟨v', w', a1, a2, a3⟩
def OffsQ (w : World) (n : Nat) (e : Ending) (w' : World) : Prop :=
  ∃ (v : Value) (os : List Nat), e = .returned v ∧ w'.ownsRow w.heap.size 3 1 v os.length (os.map fun o : Nat => .int .i64 o) ∧ (∀ o ∈ os, o ≤ n) ∧ os.length ≤ 1000000 ∧ Below w.heap.size w w'
def OffsI (w wx : World) (B : Nat) (l : List Nat) (k : Nat) (v : Value) (wr : World) : Prop :=
  wr.ownsRow B 3 1 v k ((l.take k).map fun o : Nat => .int .i64 o) ∧ Below B wx wr ∧ w.heap.size ≤ B
set_option maxHeartbeats 4000000 in
set_option maxRecDepth 100000 in
theorem offsets_any {w : World} {v : Value} {l : List Int} {ae ao : Addr} (hv : BytesArg w v l) (hl : l.length ≤ 100000) (hby : Bytes l) (hG : Ground w ae ao)
    (cs : List (Int × Int × Value)) (hcl : cs.length ≤ 400000) (cb co cc : Nat) (pv : Option Addr) (hpv : 0 < cs.length → pv = some ⟨cb, co, none⟩) (hcs : CallsIn w cb co cs) (hcb : cb < w.heap.size) :
    Calls Tryz.prog 19 #[v, .slice pv cs.length cc] w (OffsQ w l.length) := by
  have HGR := Lib.hid hG
  have HCS := Lib.hid hcs
  have HCB := Lib.hid hcb
  have HPV := Lib.hid hpv
  have HBY := Lib.hid hby
  clear hcs hcb hpv hby
  go_enter Tryz.func19, Tryz.ntmps19
  go_wp2_with (go_at_call 25; refine (lexer_arg (ae := ⟨ae, fun _ => False⟩) hv (by omega) ⟨HGR.out.env.eof, HGR.out.env.other, HGR.out.env.ne⟩ (fun _ a => a.elim) HGR.out.two true).mono ?_; rintro e w1 ⟨b, vd, rfl, hb, hg, hlx⟩)
  have HI0 : Hid (OffI w b ae ao l true vd 0 w1) := ⟨Lx.begin l true, .slice none 0 0, .nilIface, .slice none 0 0, (Below.refl w.heap.size w).grown hg (Nat.le_refl _) (by simp), begin_st HGR.out hl HBY.out hb hg hlx False⟩
  clear hg hlx hv hG
  go_loopw [15] (fun i wr => ∃ k : Nat, i = .int .i64 k ∧ k ≤ cs.length ∧ OffI w b ae ao l true vd k wr) (fun i _ => cs.length - (intOf i).toNat)
  case atStart => exact ⟨0, rfl, Nat.zero_le _, HI0.out⟩
  case round =>
    obtain ⟨k, rfl, hk, X, vt, ve, vm, hbel, hst⟩ := hrel
    have HB := Lib.hid hbel
    have HL := Lib.hid hst
    clear hbel hst
    by_cases hlt : k < cs.length
    case neg =>
      obtain rfl : k = cs.length := by omega
      obtain ⟨pm, cm, rfl⟩ := HL.out.mx.form
      have HLE : Hid (∀ o ∈ X.errs, o ≤ l.length) := fun o ho => by have := HL.out.good.errs o ho; rw [HL.out.good.d] at this; exact this
      have hcnt : X.errs.length ≤ 1000000 := by have := HL.out.good.cnt; omega
      have HROW := Lib.hid HL.out.mx.row
      go_wp2_with (go_at_call 29; refine (errorsM HL.out).mono ?_; rintro e w2 ⟨h2, rfl⟩; subst h2)
      generalize wr = wo at *
      go_loopw [8, 26] (fun a8 a26 wx => ∃ j : Nat, a26 = .int .i64 j ∧ j ≤ X.errs.length ∧ OffsI w wo wo.heap.size X.errs j a8 wx) (fun _ a26 _ => X.errs.length - (intOf a26).toNat)
      case atStart => exact ⟨0, rfl, Nat.zero_le _, World.ownsRow_nil _ _ _ _, Below.refl _ _, HB.out.size⟩
      case round =>
        obtain ⟨j, rfl, hj, hown, hbx, hsz⟩ := hrel
        have HO := Lib.hid hown
        have HBX := Lib.hid hbx
        clear hown hbx
        by_cases hjl : j < X.errs.length
        case neg =>
          obtain rfl : j = X.errs.length := by omega
          go_wp2
          go_ret
          have h := HO.out
          rw [List.take_length] at h
          exact ⟨_, X.errs, rfl, ownsRow_base h hsz, HLE.out, hcnt, HB.out.trans (HBX.out.mono hsz)⟩
        case pos =>
          obtain ⟨ks, hr, he⟩ := HROW.out
          obtain ⟨g, hpm⟩ : ∃ g, pm = some ⟨g, 0, none⟩ ∧ g < wo.heap.size := by
            rcases hr.2 with ⟨-, h0⟩ | ⟨g, cap, cur, hv, -, hgg, -⟩
            · omega
            · injection hv with h1 h2 h3
              exact ⟨g, h1, lt_heap hgg⟩
          obtain ⟨rfl, hglt⟩ := hpm
          have hkl : ks.length = X.errs.length := by have := hr.1; simpa using this
          have hc1 : wo.cell? ⟨g, j, none⟩ = some (.pointer (some ⟨ks.getD j 0, 0, none⟩)) := by
            rw [hr.cellAt j (by omega)]
            simp [List.getD, show j < ks.length by omega]
          obtain ⟨hne, s, t, hh⟩ := he j hjl
          have q1 : wr.cell? ⟨g, j, none⟩ = some (.pointer (some ⟨ks.getD j 0, 0, none⟩)) := (HBX.out.cell (p := ⟨g, j, none⟩) hglt).trans hc1
          have hkE := lt_heap hh
          have q2 : wr.cell? ⟨ks.getD j 0, 1, none⟩ = some (.int .i64 (X.errs.getD j 0 : Nat)) := (HBX.out.cell (p := ⟨ks.getD j 0, 1, none⟩) hkE).trans (cell_of_heap hh 1 rfl)
          obtain ⟨kE, hkE2⟩ : ∃ kE, ks.getD j 0 = kE := ⟨_, rfl⟩
          obtain ⟨o, ho⟩ : ∃ o, X.errs.getD j 0 = o := ⟨_, rfl⟩
          rw [hkE2] at q1 q2
          rw [ho] at q2
          have HOO := Lib.hid ho
          clear hc1 hh hne hr he hkl hkE hkE2 ho
          have ha := HO.out.alloc (.cells #[.int .i64 o] 3)
          obtain ⟨v', w', hrun, h2, h3⟩ := append_int ha ⟨wr.heap.size, 0, none⟩ 1 (.int .i64 o) (cell_of_heap (heap_alloc_new _ _) 0 rfl) rfl (by omega) (by have := HBX.out.size; simp; omega)
          have HR := Lib.hid hrun
          have HN := Lib.hid h2
          have HG3 := Lib.hid h3
          clear hrun h2 h3 ha
          have hlo := HO.out.lt
          have HLO := Lib.hid hlo
          clear hlo
          go_wp2_with (at_builtin; refine Lib.wpList_append_run_sl _ rfl _ _ 40 rfl _ _ rfl rfl HR.out ?_)
          go_roundw
          case rel =>
            refine ⟨j + 1, by go_num, by omega, ?_, (HBX.out.alloc HBX.out.size _).grown HG3.out (by simp; have := HBX.out.size; omega) (fun q e => (HLO.out q e).1), hsz⟩
            have e1 : (X.errs.take (j + 1)).map (fun o : Nat => Value.int .i64 o) = (X.errs.take j).map (fun o : Nat => Value.int .i64 o) ++ [.int .i64 o] := by
              rw [List.take_succ_eq_append_getElem hjl, List.map_append, ← HOO.out]
              simp [List.getD, hjl]
            rw [e1]
            exact HN.out
          case measure => simp [intOf]; omega
    case pos =>
      obtain rfl := HPV.out (by omega)
      obtain ⟨p3, s3, c3, hc3, q0', q1', q2'⟩ := HCS.out k hlt
      have q0 := (HB.out.cell (p := ⟨cb, co + k * 3, none⟩) HCB.out).trans q0'
      have q1 := (HB.out.cell (p := ⟨cb, co + k * 3 + 1, none⟩) HCB.out).trans q1'
      have q2 := (HB.out.cell (p := ⟨cb, co + k * 3 + 2, none⟩) HCB.out).trans q2'
      clear q0' q1' q2' hc3
      generalize cs.getD k (0, 0, .nilIface) = c at q0 q1
      obtain ⟨op, nn, c2⟩ := c
      simp only at q0 q1
      go_wp2_with (go_at_call 26; refine (callM (HL.out.alloc _) (by omega) op (fun _ g => g.elim) nn p3 s3 c3).mono ?_; rintro e w2 ⟨r2, X', vt', ve', vm', rfl, -, hst2⟩; have HN := Lib.hid (OffI.next hb HB.out HL.out hst2); clear hst2)
      go_roundw
      case rel => exact ⟨k + 1, by go_num, by omega, HN.out⟩
      case measure => simp [intOf]; omega
end Go.Proofs.YtaecbclonmhbcaaGreatDoor
