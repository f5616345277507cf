/- impl.Lex as knownLexer calls it. -/
import Derived.Test.YtaecbclonmhbcaaGreatDoorCallTwo
import Derived.Test.YtaecbclonmhbcaaGreatDoorRun
namespace Go.Proofs.YtaecbclonmhbcaaGreatDoor
open Go.RowKit

/-- The known text: a blank, 12, a blank, and a\n between quotes. -/
def knownD : List Int := [32, 49, 50, 32, 34, 97, 92, 110, 34]
def kx0 : Lx := Lx.begin knownD false
def kx1 : Lx := kx0.num
def kx2 : Lx := { kx1.fetch with tok := [97, 10], cl := true }.consume
theorem kx0_ok : kx0.num.ok = true := by decide
theorem kx0_v : kx0.numV = ⟨#[49, 50]⟩ := by decide
theorem kx1_kind : kx1.kind = 0 := by decide
theorem kx1_ok : kx1.ok = true := by decide
theorem kx1_ok2 : kx1.fetch.ok = true := by decide
theorem kx1_kind2 : kx1.fetch.kind = 2 := by decide
theorem kx1_tok : kx1.fetch.tok = [97, 92, 110] := by decide
theorem kx1_err : kx1.err = .nil := by rfl
theorem kx2_err : kx2.err = .nil := by rfl

theorem kx0_wf : kx0.Wf := ⟨by decide, by decide, by decide, fun i => by
  rcases i with _ | _ | _ | _ | _ | _ | _ | _ | _ | i <;> first | decide | (show 0 ≤ (knownD.getD _ 0) ∧ (knownD.getD _ 0) ≤ 255; simp [knownD])⟩
theorem kx1_wf : kx1.Wf := by
  have h := peek_wf kx0_wf
  exact (show kx0.peek.numS.Wf from by unfold Lx.numS; split; exact h.fail; exact h.consume)

set_option maxHeartbeats 4000000 in
set_option maxRecDepth 100000 in
theorem lex_known {w : World} {A : Nat → Prop} {v : Value} {ae : Sur} {ao : Addr} (hv : BytesAt w A v knownD) (he : Env w ae ao) (h2 : 1 < w.heap.size)
    (cb co cc : Nat) (hcs : CallsAt w cb co [(24, 0), (13, 0)]) (hcb : cb < w.heap.size) :
    Calls Tryz.prog 13 #[v, .bool false, .slice (some ⟨cb, co, none⟩) 2 cc] w fun e w' =>
      ∃ v' s, e = .returned v' ∧ w'.ownsRow w.heap.size 30 4 v' 2 [.int .i64 12, .slice none 0 0, .int .i64 0, .int .i64 kx1.pos, .int .i64 0, s, .int .i64 0, .int .i64 kx2.pos] ∧
        (∀ A : Nat → Prop, (∀ k, A k → k < w.heap.size) → BytesAt w' A s [97, 10]) ∧ Below w.heap.size w w' := by
  have HCS := Lib.hid hcs
  have HCB := Lib.hid hcb
  clear hcs hcb
  go_enter Tryz.func13, Tryz.ntmps13
  go_wp2_with (go_at_call 25; refine (lexer_any (ae := ⟨ae.addr, fun _ => False⟩) hv (by decide) ⟨he.eof, he.other, he.ne⟩ (fun _ a => a.elim) h2 false).mono ?_; rintro e w1 ⟨b, vd, rfl, hb, hg, hlx⟩)
  have hB0 := (Below.refl w.heap.size w).grown hg (Nat.le_refl _) (by simp)
  have hblt := hlx.lt
  have hL0 : LexAt w1 b (ae.own (.slice none 0 0)) ao kx0 vd (.slice none 0 0) .nilIface (.slice none 0 0) := hlx.move (grownBy_self (r := none) _) (by simp) rfl (by
    rintro j hj (e | e)
    · exact .inl e
    · cases e) (fun j e => by cases e)
  have q0 := (hB0.cell (p := ⟨cb, co + 0 * 3, none⟩) HCB.out).trans (HCS.out 0 (by decide)).1
  have q1 := (hB0.cell (p := ⟨cb, co + 0 * 3 + 1, none⟩) HCB.out).trans (HCS.out 0 (by decide)).2.1
  have q2 := (hB0.cell (p := ⟨cb, co + 0 * 3 + 2, none⟩) HCB.out).trans (HCS.out 0 (by decide)).2.2
  have HB0 := Lib.hid hB0
  have HL0 := Lib.hid hL0
  clear hB0 hL0 hlx hg hv he
  simp only [Nat.zero_mul, Nat.add_zero] at q0 q1 q2
  refine wp_loop_rounds 3 ?_
  rw [rounds_succ]
  go_wp2_with (first
    | (go_at_call 26; refine (call_24 (HL0.out.alloc _) kx0_wf rfl kx0_ok kx0_v 0 none 0 0 (by show kx1.err ≠ .other; rw [kx1_err]; simp)).mono ?_; intro e w2 hD0; obtain ⟨he, hD⟩ := CallDone.split hD0; clear hD0; subst he; obtain ⟨vt1, ve1, g1, g2⟩ := hD; unfold gotV; obtain ⟨v', w3, hr, ho, hl', hb', -⟩ := round_step (s := .slice none 0 0) rfl (n := 12) (q := kx0.num.err.num) (p := (kx0.num.pos : Int)) (World.grownBy_alloc _ _ none) g2 (World.ownsRow_nil w1 (b + 1) 30 4) (by omega) g1 hb hblt; have HR := Lib.hid hr; have HN := Lib.hid ho; have HL3 := Lib.hid hl'; have HB3 := Lib.hid (HB0.out.trans hb'); clear hr ho hl' hb' g1 g2)
    | (at_builtin; refine Lib.wpList_append_run_sl _ rfl _ _ 24 rfl _ _ rfl rfl HR.out ?_))
  have q3 := (HB3.out.cell (p := ⟨cb, co + 1 * 3, none⟩) HCB.out).trans (HCS.out 1 (by decide)).1
  have q4 := (HB3.out.cell (p := ⟨cb, co + 1 * 3 + 1, none⟩) HCB.out).trans (HCS.out 1 (by decide)).2.1
  have q5 := (HB3.out.cell (p := ⟨cb, co + 1 * 3 + 2, none⟩) HCB.out).trans (HCS.out 1 (by decide)).2.2
  simp only [Nat.one_mul, Nat.add_assoc] at q3 q4 q5
  have hblt3 := HL3.out.lt
  rw [rounds_succ]
  go_wp2_with (first
    | (go_at_call 26; refine (call_13 (HL3.out.alloc _) kx1_wf kx1_kind kx1_ok kx1_ok2 kx1_kind2 kx1_tok 0 none 0 0 (by show kx2.err ≠ .other; rw [kx2_err]; simp)).mono ?_; intro e w4 h10; obtain ⟨tv, he1, hbt, vt2, ve2, g3, g4⟩ := TextDone.split h10; clear h10; subst he1; unfold gotV; obtain ⟨tp, tc, rfl⟩ := (hbt (fun _ => False) (fun _ a => a.elim)).isSlice; obtain ⟨v2, w5, hr, ho, hl', hb', hgr⟩ := round_step (s := .slice tp 2 tc) rfl (n := 0) (q := kx2.err.num) (p := (kx2.pos : Int)) (World.grownBy_alloc _ _ none) g4 HN.out (by omega) g3 hb hblt3; have HR2 := Lib.hid hr; have HN2 := Lib.hid ho; have HB4 := Lib.hid (HB3.out.trans hb'); have HGR := Lib.hid hgr; have HBT := Lib.hid hbt; clear hr ho hl' hb' hgr hbt g3 g4)
    | (at_builtin; refine Lib.wpList_append_run_sl _ rfl _ _ 24 rfl _ _ rfl rfl HR2.out ?_))
  rw [rounds_succ]
  go_wp2
  go_ret
  refine ⟨_, .slice tp 2 tc, rfl, ownsRow_base HN2.out (by omega), fun A hA => ?_, HB4.out⟩
  have h0 := HBT.out (fun k => A k ∨ v'.ownBlock = some k) (by
    rintro k (a | e)
    · have := hA k a; have := HB3.out.size; simp; omega
    · have := (HN.out.lt k e).2; simp; omega)
  exact (((h0.grown (World.grownBy_alloc w4 _ none) (by simp)).grown HGR.out (fun k e => .inr e))).other (fun k _ a => .inl a)

set_option maxHeartbeats 4000000 in
set_option maxRecDepth 100000 in
theorem equal_an {w : World} {A B : Nat → Prop} {v u : Value} (hv : BytesAt w A v [97, 10]) (hu : BytesAt w B u [97, 10]) :
    Calls Tryz.prog 24 #[v, u] w fun e w' => e = .returned (.bool true) ∧ ∃ n, w' = w.drewN n := by
  rcases hv with ⟨h0, -⟩ | ⟨b1, o1, c1, rfl, hc1, -, hx1⟩
  · cases h0
  rcases hu with ⟨h0, -⟩ | ⟨b2, o2, c2, rfl, hc2, -, hx2⟩
  · cases h0
  have x0 : w.cell? ⟨b1, o1, none⟩ = some (.int .u8 97) := hx1 0 (by decide)
  have x1 : w.cell? ⟨b1, o1 + 1, none⟩ = some (.int .u8 10) := hx1 1 (by decide)
  have y0 : w.cell? ⟨b2, o2, none⟩ = some (.int .u8 97) := hx2 0 (by decide)
  have y1 : w.cell? ⟨b2, o2 + 1, none⟩ = some (.int .u8 10) := hx2 1 (by decide)
  clear hx1 hx2
  go_enter Tryz.func24, Tryz.ntmps24
  go_wp2
  refine wp_loop_rounds 3 ?_
  rw [rounds_succ]
  go_wp2
  go_quiet (fail)
  go_wp2
  rw [rounds_succ]
  go_wp2
  go_quiet (fail)
  go_wp2
  rw [rounds_succ]
  go_wp2
  go_ret
  exact ⟨rfl, _, rfl⟩
end Go.Proofs.YtaecbclonmhbcaaGreatDoor
