/- The steps of json's scanner: the end of a value. Printed by gen_scf.py. -/
import Derived.Test.YtaecbclonmhbcaaGreatDoorP36
set_option linter.unusedVariables false
set_option linter.unusedSimpArgs false
namespace Go.Proofs.YtaecbclonmhbcaaGreatDoor
open Go.RowKit
def StepC (f : Nat) : Prop := ∀ (c : Int) {w : World} {s st n : Nat} {et : Bool} {vp er : Value} {bn : Int}, ScAt w s st n et vp er bn → n ≤ 100000 → Gr s w → (st = 184 → 0 < n) → (f = 184 → 0 < n) →
  Calls Tryz.prog f #[.pointer (some ⟨s, 0, none⟩), .int .u8 c] w (ScPost w s n)
set_option maxHeartbeats 4000000 in
set_option maxRecDepth 100000 in
theorem step_228 : StepC 228 := by
  intro c w s st n et vp er bn h hn hG hne hf
  have H := Lib.hid h
  have HG := Lib.hid hG
  have HNE := Lib.hid hne
  have hsf := store_fn
  have c0 := h.c0
  have z0 := h.free 0
  have hlt := h.lt
  clear h hG hne
  go_enter Tryz.func228, Tryz.ntmps228
  go_wp2_with (first
    | (go_at_call 183; refine (isSpace_any _ _).mono ?_; rintro e w2 ⟨⟨r, rfl⟩, rfl⟩; rcases r with _ | _)
    | (go_at_call 194; refine (scErr_any c _ (by decide) H.out HG.out).mono ?_; rintro e w2 ⟨er2, rfl, hs2, hb2⟩; have H2 := Lib.hid hs2; have HB2 := Lib.hid hb2; clear hs2 hb2))
  all_goals first
    | (exfalso; omega)
    | (
    (try simp only [Exit.inBlock, Exit.then])
    go_ret
    first
      | exact ⟨_, _, n2, et2, vp2, er2, bn2, rfl, H2.out, HN2.out, HNE2.out, HB2.out⟩
      | exact ⟨_, st2, n2, et2, vp2, er2, bn2, rfl, H2.out, by rw [HN2.out]; exact Nat.le_refl _, fun _ => by rw [HN2.out]; exact Nat.succ_pos n, (below_setCell (Below.refl s w) (Nat.le_refl s)).trans HB2.out⟩
      | exact ⟨_, 218, n, et, vp, er2, bn, rfl, H2.out, Nat.le_succ n, fun e => absurd e (by decide), HB2.out⟩
      | exact ⟨_, st, n, et, vp, er, bn, rfl, H.out, Nat.le_succ n, HNE.out, Below.refl s w⟩
      | exact ⟨_, _, n, et, vp, er, bn, rfl, H.out.setStep _ (by decide), Nat.le_succ n, fun e => absurd e (by decide), below_setCell (Below.refl s w) (Nat.le_refl s)⟩)
set_option maxHeartbeats 16000000 in
set_option maxRecDepth 100000 in
theorem step_210 : StepC 210 := by
  intro c w s st n et vp er bn h hn hG hne hf
  obtain ⟨p, cp, rfl⟩ := h.form
  have H := Lib.hid h
  have HG := Lib.hid hG
  have hsf := store_fn
  have c0 := h.c0
  have z0 := h.free 0
  have c1 := h.c1
  have z1 := h.free 1
  have c2 := h.c2
  have hlt := h.lt
  by_cases h0 : n = 0
  · subst h0
    clear h hG hne
    go_enter Tryz.func210, Tryz.ntmps210
    go_wp2_with (go_at_call 228; refine (step_228 c ((H.out.setStep 228 (by decide)).setTop true) hn (HG.out.less (below_setCell (below_setCell (Below.refl s w) (Nat.le_refl s)) (Nat.le_refl s))) (by decide) (by decide)).mono ?_; rintro e w2 ⟨r2, st2, n2, et2, vp2, er2, bn2, rfl, hs2, hn2, hne2, hb2⟩; have H2 := Lib.hid hs2; have HB2 := Lib.hid hb2; have HN2 := Lib.hid hn2; have HNE2 := Lib.hid hne2; clear hs2 hb2 hn2 hne2)
    go_ret
    exact ⟨_, st2, n2, et2, vp2, er2, bn2, rfl, H2.out, HN2.out, HNE2.out, (below_setCell (below_setCell (Below.refl s w) (Nat.le_refl s)) (Nat.le_refl s)).trans HB2.out⟩
  · obtain ⟨g, z, rfl, hg, hz, hfz, hset⟩ := h.top (by omega)
    have HS := Lib.hid hset
    have hw : wrap64 ((n : Int) - 1) = (n : Int) - 1 := by unfold wrap64; omega
    have htn : ((n : Int) - 1).toNat = n - 1 := by omega
    have hge : (0 : Int) ≤ (n : Int) - 1 := by omega
    have hlt1 : (n : Int) - 1 < (n : Int) := by omega
    have hlt2 : n - 1 < n := by omega
    have hn0 : ¬ (n : Int) = 0 := by omega
    have hB1 : ∀ v, Below s w (w.setCell ⟨g, n - 1, none⟩ v) := fun v => below_setCell (Below.refl s w) (Nat.le_of_lt hg)
    have HB1 := Lib.hid hB1
    have hgs : ¬ g = s := by omega
    have hsg : ¬ s = g := by omega
    clear h hG hne hset hB1
    go_enter Tryz.func210, Tryz.ntmps210
    go_wp2_with (first
      | (go_at_call 183; refine (isSpace_any _ _).mono ?_; rintro e w2 ⟨⟨r, rfl⟩, rfl⟩; rcases r with _ | _)
      | (go_at_call 194; refine (scErr_any c _ (by decide) H.out HG.out).mono ?_; rintro e w2 ⟨er2, rfl, hs2, hb2⟩; have H2 := Lib.hid hs2; have HB2 := Lib.hid hb2; clear hs2 hb2)
      | (go_at_call 229; refine (pop_any H.out (by omega) (by omega)).mono ?_; rintro e w2 ⟨st2, et2, vp2, rfl, hs2, hn2, hb2⟩; have H2 := Lib.hid hs2; have HB2 := Lib.hid hb2; have HN2 := Lib.hid hn2; clear hs2 hb2 hn2))
    all_goals
      (try simp only [Exit.inBlock, Exit.then])
      go_ret
      first
        | exact ⟨_, st2, n - 1, et2, vp2, er, bn, rfl, H2.out, by omega, fun e => absurd e HN2.out, HB2.out⟩
        | exact ⟨_, 218, n, et, _, er2, bn, rfl, H2.out, Nat.le_succ n, fun e => absurd e (by decide), HB2.out⟩
        | exact ⟨_, _, n, et, _, er, bn, rfl, H.out.setStep _ (by decide), Nat.le_succ n, fun e => absurd e (by decide), below_setCell (Below.refl s w) (Nat.le_refl s)⟩
        | exact ⟨_, _, n, et, _, er, bn, rfl, (HS.out _).setStep _ (by decide), Nat.le_succ n, fun e => absurd e (by decide), below_setCell (HB1.out _) (Nat.le_refl s)⟩
end Go.Proofs.YtaecbclonmhbcaaGreatDoor
