/- The steps of json's scanner. Printed by gen_scf.py. -/
import Derived.Test.YtaecbclonmhbcaaGreatDoorP37
set_option linter.unusedVariables false
set_option linter.unusedSimpArgs false
namespace Go.Proofs.YtaecbclonmhbcaaGreatDoor
open Go.RowKit
set_option maxHeartbeats 4000000 in
set_option maxRecDepth 100000 in
theorem step_211 : StepC 211 := by
  intro c w s st n et vp er bn h hn hG hne hf
  have H := Lib.hid h
  have HG := Lib.hid hG
  have HNE := Lib.hid hne
  have hsf := store_fn
  have c0 := h.c0
  have z0 := h.free 0
  have hlt := h.lt
  clear h hG hne
  go_enter Tryz.func211, Tryz.ntmps211
  go_wp2_with (first
    | (go_at_call 183; refine (isSpace_any _ _).mono ?_; rintro e w2 ⟨⟨r, rfl⟩, rfl⟩; rcases r with _ | _)
    | (go_at_call 194; refine (scErr_any c _ (by decide) H.out HG.out).mono ?_; rintro e w2 ⟨er2, rfl, hs2, hb2⟩; have H2 := Lib.hid hs2; have HB2 := Lib.hid hb2; clear hs2 hb2))
  all_goals first
    | (exfalso; omega)
    | (
    (try simp only [Exit.inBlock, Exit.then])
    go_ret
    first
      | exact ⟨_, _, n2, et2, vp2, er2, bn2, rfl, H2.out, HN2.out, HNE2.out, HB2.out⟩
      | exact ⟨_, st2, n2, et2, vp2, er2, bn2, rfl, H2.out, by rw [HN2.out]; exact Nat.le_refl _, fun _ => by rw [HN2.out]; exact Nat.succ_pos n, (below_setCell (Below.refl s w) (Nat.le_refl s)).trans HB2.out⟩
      | exact ⟨_, 218, n, et, vp, er2, bn, rfl, H2.out, Nat.le_succ n, fun e => absurd e (by decide), HB2.out⟩
      | exact ⟨_, st, n, et, vp, er, bn, rfl, H.out, Nat.le_succ n, HNE.out, Below.refl s w⟩
      | exact ⟨_, _, n, et, vp, er, bn, rfl, H.out.setStep _ (by decide), Nat.le_succ n, fun e => absurd e (by decide), below_setCell (Below.refl s w) (Nat.le_refl s)⟩)
set_option maxHeartbeats 4000000 in
set_option maxRecDepth 100000 in
theorem step_187 : StepC 187 := by
  intro c w s st n et vp er bn h hn hG hne hf
  have H := Lib.hid h
  have HG := Lib.hid hG
  have HNE := Lib.hid hne
  have hsf := store_fn
  have c0 := h.c0
  have z0 := h.free 0
  have hlt := h.lt
  clear h hG hne
  go_enter Tryz.func187, Tryz.ntmps187
  go_wp2_with (first
    | (go_at_call 194; refine (scErr_any c _ (by decide) H.out HG.out).mono ?_; rintro e w2 ⟨er2, rfl, hs2, hb2⟩; have H2 := Lib.hid hs2; have HB2 := Lib.hid hb2; clear hs2 hb2))
  all_goals first
    | (exfalso; omega)
    | (
    (try simp only [Exit.inBlock, Exit.then])
    go_ret
    first
      | exact ⟨_, _, n2, et2, vp2, er2, bn2, rfl, H2.out, HN2.out, HNE2.out, HB2.out⟩
      | exact ⟨_, st2, n2, et2, vp2, er2, bn2, rfl, H2.out, by rw [HN2.out]; exact Nat.le_refl _, fun _ => by rw [HN2.out]; exact Nat.succ_pos n, (below_setCell (Below.refl s w) (Nat.le_refl s)).trans HB2.out⟩
      | exact ⟨_, 218, n, et, vp, er2, bn, rfl, H2.out, Nat.le_succ n, fun e => absurd e (by decide), HB2.out⟩
      | exact ⟨_, st, n, et, vp, er, bn, rfl, H.out, Nat.le_succ n, HNE.out, Below.refl s w⟩
      | exact ⟨_, _, n, et, vp, er, bn, rfl, H.out.setStep _ (by decide), Nat.le_succ n, fun e => absurd e (by decide), below_setCell (Below.refl s w) (Nat.le_refl s)⟩)
set_option maxHeartbeats 4000000 in
set_option maxRecDepth 100000 in
theorem step_188 : StepC 188 := by
  intro c w s st n et vp er bn h hn hG hne hf
  have H := Lib.hid h
  have HG := Lib.hid hG
  have HNE := Lib.hid hne
  have hsf := store_fn
  have c0 := h.c0
  have z0 := h.free 0
  have hlt := h.lt
  clear h hG hne
  go_enter Tryz.func188, Tryz.ntmps188
  go_wp2_with (first
    | (go_at_call 194; refine (scErr_any c _ (by decide) H.out HG.out).mono ?_; rintro e w2 ⟨er2, rfl, hs2, hb2⟩; have H2 := Lib.hid hs2; have HB2 := Lib.hid hb2; clear hs2 hb2))
  all_goals first
    | (exfalso; omega)
    | (
    (try simp only [Exit.inBlock, Exit.then])
    go_ret
    first
      | exact ⟨_, _, n2, et2, vp2, er2, bn2, rfl, H2.out, HN2.out, HNE2.out, HB2.out⟩
      | exact ⟨_, st2, n2, et2, vp2, er2, bn2, rfl, H2.out, by rw [HN2.out]; exact Nat.le_refl _, fun _ => by rw [HN2.out]; exact Nat.succ_pos n, (below_setCell (Below.refl s w) (Nat.le_refl s)).trans HB2.out⟩
      | exact ⟨_, 218, n, et, vp, er2, bn, rfl, H2.out, Nat.le_succ n, fun e => absurd e (by decide), HB2.out⟩
      | exact ⟨_, st, n, et, vp, er, bn, rfl, H.out, Nat.le_succ n, HNE.out, Below.refl s w⟩
      | exact ⟨_, _, n, et, vp, er, bn, rfl, H.out.setStep _ (by decide), Nat.le_succ n, fun e => absurd e (by decide), below_setCell (Below.refl s w) (Nat.le_refl s)⟩)
set_option maxHeartbeats 4000000 in
set_option maxRecDepth 100000 in
theorem step_189 : StepC 189 := by
  intro c w s st n et vp er bn h hn hG hne hf
  have H := Lib.hid h
  have HG := Lib.hid hG
  have HNE := Lib.hid hne
  have hsf := store_fn
  have c0 := h.c0
  have z0 := h.free 0
  have hlt := h.lt
  clear h hG hne
  go_enter Tryz.func189, Tryz.ntmps189
  go_wp2_with (first
    | (go_at_call 210; refine (step_210 c H.out hn HG.out HNE.out (by intro e; cases e)).mono ?_; rintro e w2 ⟨r2, st2, n2, et2, vp2, er2, bn2, rfl, hs2, hn2, hne2, hb2⟩; have H2 := Lib.hid hs2; have HB2 := Lib.hid hb2; have HN2 := Lib.hid hn2; have HNE2 := Lib.hid hne2; clear hs2 hb2 hn2 hne2))
  all_goals first
    | (exfalso; omega)
    | (
    (try simp only [Exit.inBlock, Exit.then])
    go_ret
    first
      | exact ⟨_, _, n2, et2, vp2, er2, bn2, rfl, H2.out, HN2.out, HNE2.out, HB2.out⟩
      | exact ⟨_, st2, n2, et2, vp2, er2, bn2, rfl, H2.out, by rw [HN2.out]; exact Nat.le_refl _, fun _ => by rw [HN2.out]; exact Nat.succ_pos n, (below_setCell (Below.refl s w) (Nat.le_refl s)).trans HB2.out⟩
      | exact ⟨_, 218, n, et, vp, er2, bn, rfl, H2.out, Nat.le_succ n, fun e => absurd e (by decide), HB2.out⟩
      | exact ⟨_, st, n, et, vp, er, bn, rfl, H.out, Nat.le_succ n, HNE.out, Below.refl s w⟩
      | exact ⟨_, _, n, et, vp, er, bn, rfl, H.out.setStep _ (by decide), Nat.le_succ n, fun e => absurd e (by decide), below_setCell (Below.refl s w) (Nat.le_refl s)⟩)
set_option maxHeartbeats 4000000 in
set_option maxRecDepth 100000 in
theorem step_190 : StepC 190 := by
  intro c w s st n et vp er bn h hn hG hne hf
  have H := Lib.hid h
  have HG := Lib.hid hG
  have HNE := Lib.hid hne
  have hsf := store_fn
  have c0 := h.c0
  have z0 := h.free 0
  have hlt := h.lt
  clear h hG hne
  go_enter Tryz.func190, Tryz.ntmps190
  go_wp2_with (first
    | (go_at_call 194; refine (scErr_any c _ (by decide) H.out HG.out).mono ?_; rintro e w2 ⟨er2, rfl, hs2, hb2⟩; have H2 := Lib.hid hs2; have HB2 := Lib.hid hb2; clear hs2 hb2))
  all_goals first
    | (exfalso; omega)
    | (
    (try simp only [Exit.inBlock, Exit.then])
    go_ret
    first
      | exact ⟨_, _, n2, et2, vp2, er2, bn2, rfl, H2.out, HN2.out, HNE2.out, HB2.out⟩
      | exact ⟨_, st2, n2, et2, vp2, er2, bn2, rfl, H2.out, by rw [HN2.out]; exact Nat.le_refl _, fun _ => by rw [HN2.out]; exact Nat.succ_pos n, (below_setCell (Below.refl s w) (Nat.le_refl s)).trans HB2.out⟩
      | exact ⟨_, 218, n, et, vp, er2, bn, rfl, H2.out, Nat.le_succ n, fun e => absurd e (by decide), HB2.out⟩
      | exact ⟨_, st, n, et, vp, er, bn, rfl, H.out, Nat.le_succ n, HNE.out, Below.refl s w⟩
      | exact ⟨_, _, n, et, vp, er, bn, rfl, H.out.setStep _ (by decide), Nat.le_succ n, fun e => absurd e (by decide), below_setCell (Below.refl s w) (Nat.le_refl s)⟩)
set_option maxHeartbeats 4000000 in
set_option maxRecDepth 100000 in
theorem step_191 : StepC 191 := by
  intro c w s st n et vp er bn h hn hG hne hf
  have H := Lib.hid h
  have HG := Lib.hid hG
  have HNE := Lib.hid hne
  have hsf := store_fn
  have c0 := h.c0
  have z0 := h.free 0
  have hlt := h.lt
  clear h hG hne
  go_enter Tryz.func191, Tryz.ntmps191
  go_wp2_with (first
    | (go_at_call 194; refine (scErr_any c _ (by decide) H.out HG.out).mono ?_; rintro e w2 ⟨er2, rfl, hs2, hb2⟩; have H2 := Lib.hid hs2; have HB2 := Lib.hid hb2; clear hs2 hb2))
  all_goals first
    | (exfalso; omega)
    | (
    (try simp only [Exit.inBlock, Exit.then])
    go_ret
    first
      | exact ⟨_, _, n2, et2, vp2, er2, bn2, rfl, H2.out, HN2.out, HNE2.out, HB2.out⟩
      | exact ⟨_, st2, n2, et2, vp2, er2, bn2, rfl, H2.out, by rw [HN2.out]; exact Nat.le_refl _, fun _ => by rw [HN2.out]; exact Nat.succ_pos n, (below_setCell (Below.refl s w) (Nat.le_refl s)).trans HB2.out⟩
      | exact ⟨_, 218, n, et, vp, er2, bn, rfl, H2.out, Nat.le_succ n, fun e => absurd e (by decide), HB2.out⟩
      | exact ⟨_, st, n, et, vp, er, bn, rfl, H.out, Nat.le_succ n, HNE.out, Below.refl s w⟩
      | exact ⟨_, _, n, et, vp, er, bn, rfl, H.out.setStep _ (by decide), Nat.le_succ n, fun e => absurd e (by decide), below_setCell (Below.refl s w) (Nat.le_refl s)⟩)
set_option maxHeartbeats 4000000 in
set_option maxRecDepth 100000 in
theorem step_192 : StepC 192 := by
  intro c w s st n et vp er bn h hn hG hne hf
  have H := Lib.hid h
  have HG := Lib.hid hG
  have HNE := Lib.hid hne
  have hsf := store_fn
  have c0 := h.c0
  have z0 := h.free 0
  have hlt := h.lt
  clear h hG hne
  go_enter Tryz.func192, Tryz.ntmps192
  go_wp2_with (first
    | (go_at_call 194; refine (scErr_any c _ (by decide) H.out HG.out).mono ?_; rintro e w2 ⟨er2, rfl, hs2, hb2⟩; have H2 := Lib.hid hs2; have HB2 := Lib.hid hb2; clear hs2 hb2))
  all_goals first
    | (exfalso; omega)
    | (
    (try simp only [Exit.inBlock, Exit.then])
    go_ret
    first
      | exact ⟨_, _, n2, et2, vp2, er2, bn2, rfl, H2.out, HN2.out, HNE2.out, HB2.out⟩
      | exact ⟨_, st2, n2, et2, vp2, er2, bn2, rfl, H2.out, by rw [HN2.out]; exact Nat.le_refl _, fun _ => by rw [HN2.out]; exact Nat.succ_pos n, (below_setCell (Below.refl s w) (Nat.le_refl s)).trans HB2.out⟩
      | exact ⟨_, 218, n, et, vp, er2, bn, rfl, H2.out, Nat.le_succ n, fun e => absurd e (by decide), HB2.out⟩
      | exact ⟨_, st, n, et, vp, er, bn, rfl, H.out, Nat.le_succ n, HNE.out, Below.refl s w⟩
      | exact ⟨_, _, n, et, vp, er, bn, rfl, H.out.setStep _ (by decide), Nat.le_succ n, fun e => absurd e (by decide), below_setCell (Below.refl s w) (Nat.le_refl s)⟩)
set_option maxHeartbeats 4000000 in
set_option maxRecDepth 100000 in
theorem step_193 : StepC 193 := by
  intro c w s st n et vp er bn h hn hG hne hf
  have H := Lib.hid h
  have HG := Lib.hid hG
  have HNE := Lib.hid hne
  have hsf := store_fn
  have c0 := h.c0
  have z0 := h.free 0
  have hlt := h.lt
  clear h hG hne
  go_enter Tryz.func193, Tryz.ntmps193
  go_wp2_with (first
    | (go_at_call 189; refine (step_189 c H.out hn HG.out HNE.out (by intro e; cases e)).mono ?_; rintro e w2 ⟨r2, st2, n2, et2, vp2, er2, bn2, rfl, hs2, hn2, hne2, hb2⟩; have H2 := Lib.hid hs2; have HB2 := Lib.hid hb2; have HN2 := Lib.hid hn2; have HNE2 := Lib.hid hne2; clear hs2 hb2 hn2 hne2))
  all_goals first
    | (exfalso; omega)
    | (
    (try simp only [Exit.inBlock, Exit.then])
    go_ret
    first
      | exact ⟨_, _, n2, et2, vp2, er2, bn2, rfl, H2.out, HN2.out, HNE2.out, HB2.out⟩
      | exact ⟨_, st2, n2, et2, vp2, er2, bn2, rfl, H2.out, by rw [HN2.out]; exact Nat.le_refl _, fun _ => by rw [HN2.out]; exact Nat.succ_pos n, (below_setCell (Below.refl s w) (Nat.le_refl s)).trans HB2.out⟩
      | exact ⟨_, 218, n, et, vp, er2, bn, rfl, H2.out, Nat.le_succ n, fun e => absurd e (by decide), HB2.out⟩
      | exact ⟨_, st, n, et, vp, er, bn, rfl, H.out, Nat.le_succ n, HNE.out, Below.refl s w⟩
      | exact ⟨_, _, n, et, vp, er, bn, rfl, H.out.setStep _ (by decide), Nat.le_succ n, fun e => absurd e (by decide), below_setCell (Below.refl s w) (Nat.le_refl s)⟩)
set_option maxHeartbeats 4000000 in
set_option maxRecDepth 100000 in
theorem step_212 : StepC 212 := by
  intro c w s st n et vp er bn h hn hG hne hf
  have H := Lib.hid h
  have HG := Lib.hid hG
  have HNE := Lib.hid hne
  have hsf := store_fn
  have c0 := h.c0
  have z0 := h.free 0
  have hlt := h.lt
  clear h hG hne
  go_enter Tryz.func212, Tryz.ntmps212
  go_wp2_with (first
    | (go_at_call 194; refine (scErr_any c _ (by decide) H.out HG.out).mono ?_; rintro e w2 ⟨er2, rfl, hs2, hb2⟩; have H2 := Lib.hid hs2; have HB2 := Lib.hid hb2; clear hs2 hb2))
  all_goals first
    | (exfalso; omega)
    | (
    (try simp only [Exit.inBlock, Exit.then])
    go_ret
    first
      | exact ⟨_, _, n2, et2, vp2, er2, bn2, rfl, H2.out, HN2.out, HNE2.out, HB2.out⟩
      | exact ⟨_, st2, n2, et2, vp2, er2, bn2, rfl, H2.out, by rw [HN2.out]; exact Nat.le_refl _, fun _ => by rw [HN2.out]; exact Nat.succ_pos n, (below_setCell (Below.refl s w) (Nat.le_refl s)).trans HB2.out⟩
      | exact ⟨_, 218, n, et, vp, er2, bn, rfl, H2.out, Nat.le_succ n, fun e => absurd e (by decide), HB2.out⟩
      | exact ⟨_, st, n, et, vp, er, bn, rfl, H.out, Nat.le_succ n, HNE.out, Below.refl s w⟩
      | exact ⟨_, _, n, et, vp, er, bn, rfl, H.out.setStep _ (by decide), Nat.le_succ n, fun e => absurd e (by decide), below_setCell (Below.refl s w) (Nat.le_refl s)⟩)
set_option maxHeartbeats 4000000 in
set_option maxRecDepth 100000 in
theorem step_213 : StepC 213 := by
  intro c w s st n et vp er bn h hn hG hne hf
  have H := Lib.hid h
  have HG := Lib.hid hG
  have HNE := Lib.hid hne
  have hsf := store_fn
  have c0 := h.c0
  have z0 := h.free 0
  have hlt := h.lt
  clear h hG hne
  go_enter Tryz.func213, Tryz.ntmps213
  go_wp2_with (first
    | (go_at_call 194; refine (scErr_any c _ (by decide) H.out HG.out).mono ?_; rintro e w2 ⟨er2, rfl, hs2, hb2⟩; have H2 := Lib.hid hs2; have HB2 := Lib.hid hb2; clear hs2 hb2))
  all_goals first
    | (exfalso; omega)
    | (
    (try simp only [Exit.inBlock, Exit.then])
    go_ret
    first
      | exact ⟨_, _, n2, et2, vp2, er2, bn2, rfl, H2.out, HN2.out, HNE2.out, HB2.out⟩
      | exact ⟨_, st2, n2, et2, vp2, er2, bn2, rfl, H2.out, by rw [HN2.out]; exact Nat.le_refl _, fun _ => by rw [HN2.out]; exact Nat.succ_pos n, (below_setCell (Below.refl s w) (Nat.le_refl s)).trans HB2.out⟩
      | exact ⟨_, 218, n, et, vp, er2, bn, rfl, H2.out, Nat.le_succ n, fun e => absurd e (by decide), HB2.out⟩
      | exact ⟨_, st, n, et, vp, er, bn, rfl, H.out, Nat.le_succ n, HNE.out, Below.refl s w⟩
      | exact ⟨_, _, n, et, vp, er, bn, rfl, H.out.setStep _ (by decide), Nat.le_succ n, fun e => absurd e (by decide), below_setCell (Below.refl s w) (Nat.le_refl s)⟩)
set_option maxHeartbeats 4000000 in
set_option maxRecDepth 100000 in
theorem step_232 : StepC 232 := by
  intro c w s st n et vp er bn h hn hG hne hf
  have H := Lib.hid h
  have HG := Lib.hid hG
  have HNE := Lib.hid hne
  have hsf := store_fn
  have c0 := h.c0
  have z0 := h.free 0
  have hlt := h.lt
  clear h hG hne
  go_enter Tryz.func232, Tryz.ntmps232
  go_wp2_with (first
    | (go_at_call 194; refine (scErr_any c _ (by decide) H.out HG.out).mono ?_; rintro e w2 ⟨er2, rfl, hs2, hb2⟩; have H2 := Lib.hid hs2; have HB2 := Lib.hid hb2; clear hs2 hb2))
  all_goals first
    | (exfalso; omega)
    | (
    (try simp only [Exit.inBlock, Exit.then])
    go_ret
    first
      | exact ⟨_, _, n2, et2, vp2, er2, bn2, rfl, H2.out, HN2.out, HNE2.out, HB2.out⟩
      | exact ⟨_, st2, n2, et2, vp2, er2, bn2, rfl, H2.out, by rw [HN2.out]; exact Nat.le_refl _, fun _ => by rw [HN2.out]; exact Nat.succ_pos n, (below_setCell (Below.refl s w) (Nat.le_refl s)).trans HB2.out⟩
      | exact ⟨_, 218, n, et, vp, er2, bn, rfl, H2.out, Nat.le_succ n, fun e => absurd e (by decide), HB2.out⟩
      | exact ⟨_, st, n, et, vp, er, bn, rfl, H.out, Nat.le_succ n, HNE.out, Below.refl s w⟩
      | exact ⟨_, _, n, et, vp, er, bn, rfl, H.out.setStep _ (by decide), Nat.le_succ n, fun e => absurd e (by decide), below_setCell (Below.refl s w) (Nat.le_refl s)⟩)
set_option maxHeartbeats 4000000 in
set_option maxRecDepth 100000 in
theorem step_214 : StepC 214 := by
  intro c w s st n et vp er bn h hn hG hne hf
  have H := Lib.hid h
  have HG := Lib.hid hG
  have HNE := Lib.hid hne
  have hsf := store_fn
  have c0 := h.c0
  have z0 := h.free 0
  have hlt := h.lt
  clear h hG hne
  go_enter Tryz.func214, Tryz.ntmps214
  go_wp2_with (first
    | (go_at_call 232; refine (step_232 c H.out hn HG.out HNE.out (by intro e; cases e)).mono ?_; rintro e w2 ⟨r2, st2, n2, et2, vp2, er2, bn2, rfl, hs2, hn2, hne2, hb2⟩; have H2 := Lib.hid hs2; have HB2 := Lib.hid hb2; have HN2 := Lib.hid hn2; have HNE2 := Lib.hid hne2; clear hs2 hb2 hn2 hne2))
  all_goals first
    | (exfalso; omega)
    | (
    (try simp only [Exit.inBlock, Exit.then])
    go_ret
    first
      | exact ⟨_, _, n2, et2, vp2, er2, bn2, rfl, H2.out, HN2.out, HNE2.out, HB2.out⟩
      | exact ⟨_, st2, n2, et2, vp2, er2, bn2, rfl, H2.out, by rw [HN2.out]; exact Nat.le_refl _, fun _ => by rw [HN2.out]; exact Nat.succ_pos n, (below_setCell (Below.refl s w) (Nat.le_refl s)).trans HB2.out⟩
      | exact ⟨_, 218, n, et, vp, er2, bn, rfl, H2.out, Nat.le_succ n, fun e => absurd e (by decide), HB2.out⟩
      | exact ⟨_, st, n, et, vp, er, bn, rfl, H.out, Nat.le_succ n, HNE.out, Below.refl s w⟩
      | exact ⟨_, _, n, et, vp, er, bn, rfl, H.out.setStep _ (by decide), Nat.le_succ n, fun e => absurd e (by decide), below_setCell (Below.refl s w) (Nat.le_refl s)⟩)
set_option maxHeartbeats 4000000 in
set_option maxRecDepth 100000 in
theorem step_215 : StepC 215 := by
  intro c w s st n et vp er bn h hn hG hne hf
  have H := Lib.hid h
  have HG := Lib.hid hG
  have HNE := Lib.hid hne
  have hsf := store_fn
  have c0 := h.c0
  have z0 := h.free 0
  have hlt := h.lt
  clear h hG hne
  go_enter Tryz.func215, Tryz.ntmps215
  go_wp2_with (first
    | (go_at_call 194; refine (scErr_any c _ (by decide) H.out HG.out).mono ?_; rintro e w2 ⟨er2, rfl, hs2, hb2⟩; have H2 := Lib.hid hs2; have HB2 := Lib.hid hb2; clear hs2 hb2))
  all_goals first
    | (exfalso; omega)
    | (
    (try simp only [Exit.inBlock, Exit.then])
    go_ret
    first
      | exact ⟨_, _, n2, et2, vp2, er2, bn2, rfl, H2.out, HN2.out, HNE2.out, HB2.out⟩
      | exact ⟨_, st2, n2, et2, vp2, er2, bn2, rfl, H2.out, by rw [HN2.out]; exact Nat.le_refl _, fun _ => by rw [HN2.out]; exact Nat.succ_pos n, (below_setCell (Below.refl s w) (Nat.le_refl s)).trans HB2.out⟩
      | exact ⟨_, 218, n, et, vp, er2, bn, rfl, H2.out, Nat.le_succ n, fun e => absurd e (by decide), HB2.out⟩
      | exact ⟨_, st, n, et, vp, er, bn, rfl, H.out, Nat.le_succ n, HNE.out, Below.refl s w⟩
      | exact ⟨_, _, n, et, vp, er, bn, rfl, H.out.setStep _ (by decide), Nat.le_succ n, fun e => absurd e (by decide), below_setCell (Below.refl s w) (Nat.le_refl s)⟩)
set_option maxHeartbeats 4000000 in
set_option maxRecDepth 100000 in
theorem step_216 : StepC 216 := by
  intro c w s st n et vp er bn h hn hG hne hf
  have H := Lib.hid h
  have HG := Lib.hid hG
  have HNE := Lib.hid hne
  have hsf := store_fn
  have c0 := h.c0
  have z0 := h.free 0
  have hlt := h.lt
  clear h hG hne
  go_enter Tryz.func216, Tryz.ntmps216
  go_wp2_with (first
    | (go_at_call 194; refine (scErr_any c _ (by decide) H.out HG.out).mono ?_; rintro e w2 ⟨er2, rfl, hs2, hb2⟩; have H2 := Lib.hid hs2; have HB2 := Lib.hid hb2; clear hs2 hb2))
  all_goals first
    | (exfalso; omega)
    | (
    (try simp only [Exit.inBlock, Exit.then])
    go_ret
    first
      | exact ⟨_, _, n2, et2, vp2, er2, bn2, rfl, H2.out, HN2.out, HNE2.out, HB2.out⟩
      | exact ⟨_, st2, n2, et2, vp2, er2, bn2, rfl, H2.out, by rw [HN2.out]; exact Nat.le_refl _, fun _ => by rw [HN2.out]; exact Nat.succ_pos n, (below_setCell (Below.refl s w) (Nat.le_refl s)).trans HB2.out⟩
      | exact ⟨_, 218, n, et, vp, er2, bn, rfl, H2.out, Nat.le_succ n, fun e => absurd e (by decide), HB2.out⟩
      | exact ⟨_, st, n, et, vp, er, bn, rfl, H.out, Nat.le_succ n, HNE.out, Below.refl s w⟩
      | exact ⟨_, _, n, et, vp, er, bn, rfl, H.out.setStep _ (by decide), Nat.le_succ n, fun e => absurd e (by decide), below_setCell (Below.refl s w) (Nat.le_refl s)⟩)
set_option maxHeartbeats 4000000 in
set_option maxRecDepth 100000 in
theorem step_217 : StepC 217 := by
  intro c w s st n et vp er bn h hn hG hne hf
  have H := Lib.hid h
  have HG := Lib.hid hG
  have HNE := Lib.hid hne
  have hsf := store_fn
  have c0 := h.c0
  have z0 := h.free 0
  have hlt := h.lt
  clear h hG hne
  go_enter Tryz.func217, Tryz.ntmps217
  go_wp2_with (first
    | (go_at_call 194; refine (scErr_any c _ (by decide) H.out HG.out).mono ?_; rintro e w2 ⟨er2, rfl, hs2, hb2⟩; have H2 := Lib.hid hs2; have HB2 := Lib.hid hb2; clear hs2 hb2))
  all_goals first
    | (exfalso; omega)
    | (
    (try simp only [Exit.inBlock, Exit.then])
    go_ret
    first
      | exact ⟨_, _, n2, et2, vp2, er2, bn2, rfl, H2.out, HN2.out, HNE2.out, HB2.out⟩
      | exact ⟨_, st2, n2, et2, vp2, er2, bn2, rfl, H2.out, by rw [HN2.out]; exact Nat.le_refl _, fun _ => by rw [HN2.out]; exact Nat.succ_pos n, (below_setCell (Below.refl s w) (Nat.le_refl s)).trans HB2.out⟩
      | exact ⟨_, 218, n, et, vp, er2, bn, rfl, H2.out, Nat.le_succ n, fun e => absurd e (by decide), HB2.out⟩
      | exact ⟨_, st, n, et, vp, er, bn, rfl, H.out, Nat.le_succ n, HNE.out, Below.refl s w⟩
      | exact ⟨_, _, n, et, vp, er, bn, rfl, H.out.setStep _ (by decide), Nat.le_succ n, fun e => absurd e (by decide), below_setCell (Below.refl s w) (Nat.le_refl s)⟩)
set_option maxHeartbeats 4000000 in
set_option maxRecDepth 100000 in
theorem step_218 : StepC 218 := by
  intro c w s st n et vp er bn h hn hG hne hf
  have H := Lib.hid h
  have HG := Lib.hid hG
  have HNE := Lib.hid hne
  have hsf := store_fn
  have c0 := h.c0
  have z0 := h.free 0
  have hlt := h.lt
  clear h hG hne
  go_enter Tryz.func218, Tryz.ntmps218
  go_wp2
  all_goals first
    | (exfalso; omega)
    | (
    (try simp only [Exit.inBlock, Exit.then])
    go_ret
    first
      | exact ⟨_, _, n2, et2, vp2, er2, bn2, rfl, H2.out, HN2.out, HNE2.out, HB2.out⟩
      | exact ⟨_, st2, n2, et2, vp2, er2, bn2, rfl, H2.out, by rw [HN2.out]; exact Nat.le_refl _, fun _ => by rw [HN2.out]; exact Nat.succ_pos n, (below_setCell (Below.refl s w) (Nat.le_refl s)).trans HB2.out⟩
      | exact ⟨_, 218, n, et, vp, er2, bn, rfl, H2.out, Nat.le_succ n, fun e => absurd e (by decide), HB2.out⟩
      | exact ⟨_, st, n, et, vp, er, bn, rfl, H.out, Nat.le_succ n, HNE.out, Below.refl s w⟩
      | exact ⟨_, _, n, et, vp, er, bn, rfl, H.out.setStep _ (by decide), Nat.le_succ n, fun e => absurd e (by decide), below_setCell (Below.refl s w) (Nat.le_refl s)⟩)
set_option maxHeartbeats 4000000 in
set_option maxRecDepth 100000 in
theorem step_230 : StepC 230 := by
  intro c w s st n et vp er bn h hn hG hne hf
  have H := Lib.hid h
  have HG := Lib.hid hG
  have HNE := Lib.hid hne
  have hsf := store_fn
  have c0 := h.c0
  have z0 := h.free 0
  have hlt := h.lt
  clear h hG hne
  go_enter Tryz.func230, Tryz.ntmps230
  go_wp2_with (first
    | (go_at_call 194; refine (scErr_any c _ (by decide) H.out HG.out).mono ?_; rintro e w2 ⟨er2, rfl, hs2, hb2⟩; have H2 := Lib.hid hs2; have HB2 := Lib.hid hb2; clear hs2 hb2))
  all_goals first
    | (exfalso; omega)
    | (
    (try simp only [Exit.inBlock, Exit.then])
    go_ret
    first
      | exact ⟨_, _, n2, et2, vp2, er2, bn2, rfl, H2.out, HN2.out, HNE2.out, HB2.out⟩
      | exact ⟨_, st2, n2, et2, vp2, er2, bn2, rfl, H2.out, by rw [HN2.out]; exact Nat.le_refl _, fun _ => by rw [HN2.out]; exact Nat.succ_pos n, (below_setCell (Below.refl s w) (Nat.le_refl s)).trans HB2.out⟩
      | exact ⟨_, 218, n, et, vp, er2, bn, rfl, H2.out, Nat.le_succ n, fun e => absurd e (by decide), HB2.out⟩
      | exact ⟨_, st, n, et, vp, er, bn, rfl, H.out, Nat.le_succ n, HNE.out, Below.refl s w⟩
      | exact ⟨_, _, n, et, vp, er, bn, rfl, H.out.setStep _ (by decide), Nat.le_succ n, fun e => absurd e (by decide), below_setCell (Below.refl s w) (Nat.le_refl s)⟩)
set_option maxHeartbeats 4000000 in
set_option maxRecDepth 100000 in
theorem step_231 : StepC 231 := by
  intro c w s st n et vp er bn h hn hG hne hf
  have H := Lib.hid h
  have HG := Lib.hid hG
  have HNE := Lib.hid hne
  have hsf := store_fn
  have c0 := h.c0
  have z0 := h.free 0
  have hlt := h.lt
  clear h hG hne
  go_enter Tryz.func231, Tryz.ntmps231
  go_wp2_with (first
    | (go_at_call 210; refine (step_210 c H.out hn HG.out HNE.out (by intro e; cases e)).mono ?_; rintro e w2 ⟨r2, st2, n2, et2, vp2, er2, bn2, rfl, hs2, hn2, hne2, hb2⟩; have H2 := Lib.hid hs2; have HB2 := Lib.hid hb2; have HN2 := Lib.hid hn2; have HNE2 := Lib.hid hne2; clear hs2 hb2 hn2 hne2))
  all_goals first
    | (exfalso; omega)
    | (
    (try simp only [Exit.inBlock, Exit.then])
    go_ret
    first
      | exact ⟨_, _, n2, et2, vp2, er2, bn2, rfl, H2.out, HN2.out, HNE2.out, HB2.out⟩
      | exact ⟨_, st2, n2, et2, vp2, er2, bn2, rfl, H2.out, by rw [HN2.out]; exact Nat.le_refl _, fun _ => by rw [HN2.out]; exact Nat.succ_pos n, (below_setCell (Below.refl s w) (Nat.le_refl s)).trans HB2.out⟩
      | exact ⟨_, 218, n, et, vp, er2, bn, rfl, H2.out, Nat.le_succ n, fun e => absurd e (by decide), HB2.out⟩
      | exact ⟨_, st, n, et, vp, er, bn, rfl, H.out, Nat.le_succ n, HNE.out, Below.refl s w⟩
      | exact ⟨_, _, n, et, vp, er, bn, rfl, H.out.setStep _ (by decide), Nat.le_succ n, fun e => absurd e (by decide), below_setCell (Below.refl s w) (Nat.le_refl s)⟩)
set_option maxHeartbeats 4000000 in
set_option maxRecDepth 100000 in
theorem step_233 : StepC 233 := by
  intro c w s st n et vp er bn h hn hG hne hf
  have H := Lib.hid h
  have HG := Lib.hid hG
  have HNE := Lib.hid hne
  have hsf := store_fn
  have c0 := h.c0
  have z0 := h.free 0
  have hlt := h.lt
  clear h hG hne
  go_enter Tryz.func233, Tryz.ntmps233
  go_wp2_with (first
    | (go_at_call 194; refine (scErr_any c _ (by decide) H.out HG.out).mono ?_; rintro e w2 ⟨er2, rfl, hs2, hb2⟩; have H2 := Lib.hid hs2; have HB2 := Lib.hid hb2; clear hs2 hb2))
  all_goals first
    | (exfalso; omega)
    | (
    (try simp only [Exit.inBlock, Exit.then])
    go_ret
    first
      | exact ⟨_, _, n2, et2, vp2, er2, bn2, rfl, H2.out, HN2.out, HNE2.out, HB2.out⟩
      | exact ⟨_, st2, n2, et2, vp2, er2, bn2, rfl, H2.out, by rw [HN2.out]; exact Nat.le_refl _, fun _ => by rw [HN2.out]; exact Nat.succ_pos n, (below_setCell (Below.refl s w) (Nat.le_refl s)).trans HB2.out⟩
      | exact ⟨_, 218, n, et, vp, er2, bn, rfl, H2.out, Nat.le_succ n, fun e => absurd e (by decide), HB2.out⟩
      | exact ⟨_, st, n, et, vp, er, bn, rfl, H.out, Nat.le_succ n, HNE.out, Below.refl s w⟩
      | exact ⟨_, _, n, et, vp, er, bn, rfl, H.out.setStep _ (by decide), Nat.le_succ n, fun e => absurd e (by decide), below_setCell (Below.refl s w) (Nat.le_refl s)⟩)
set_option maxHeartbeats 4000000 in
set_option maxRecDepth 100000 in
theorem step_234 : StepC 234 := by
  intro c w s st n et vp er bn h hn hG hne hf
  have H := Lib.hid h
  have HG := Lib.hid hG
  have HNE := Lib.hid hne
  have hsf := store_fn
  have c0 := h.c0
  have z0 := h.free 0
  have hlt := h.lt
  clear h hG hne
  go_enter Tryz.func234, Tryz.ntmps234
  go_wp2_with (first
    | (go_at_call 194; refine (scErr_any c _ (by decide) H.out HG.out).mono ?_; rintro e w2 ⟨er2, rfl, hs2, hb2⟩; have H2 := Lib.hid hs2; have HB2 := Lib.hid hb2; clear hs2 hb2))
  all_goals first
    | (exfalso; omega)
    | (
    (try simp only [Exit.inBlock, Exit.then])
    go_ret
    first
      | exact ⟨_, _, n2, et2, vp2, er2, bn2, rfl, H2.out, HN2.out, HNE2.out, HB2.out⟩
      | exact ⟨_, st2, n2, et2, vp2, er2, bn2, rfl, H2.out, by rw [HN2.out]; exact Nat.le_refl _, fun _ => by rw [HN2.out]; exact Nat.succ_pos n, (below_setCell (Below.refl s w) (Nat.le_refl s)).trans HB2.out⟩
      | exact ⟨_, 218, n, et, vp, er2, bn, rfl, H2.out, Nat.le_succ n, fun e => absurd e (by decide), HB2.out⟩
      | exact ⟨_, st, n, et, vp, er, bn, rfl, H.out, Nat.le_succ n, HNE.out, Below.refl s w⟩
      | exact ⟨_, _, n, et, vp, er, bn, rfl, H.out.setStep _ (by decide), Nat.le_succ n, fun e => absurd e (by decide), below_setCell (Below.refl s w) (Nat.le_refl s)⟩)
set_option maxHeartbeats 4000000 in
set_option maxRecDepth 100000 in
theorem step_235 : StepC 235 := by
  intro c w s st n et vp er bn h hn hG hne hf
  have H := Lib.hid h
  have HG := Lib.hid hG
  have HNE := Lib.hid hne
  have hsf := store_fn
  have c0 := h.c0
  have z0 := h.free 0
  have hlt := h.lt
  clear h hG hne
  go_enter Tryz.func235, Tryz.ntmps235
  go_wp2_with (first
    | (go_at_call 194; refine (scErr_any c _ (by decide) H.out HG.out).mono ?_; rintro e w2 ⟨er2, rfl, hs2, hb2⟩; have H2 := Lib.hid hs2; have HB2 := Lib.hid hb2; clear hs2 hb2))
  all_goals first
    | (exfalso; omega)
    | (
    (try simp only [Exit.inBlock, Exit.then])
    go_ret
    first
      | exact ⟨_, _, n2, et2, vp2, er2, bn2, rfl, H2.out, HN2.out, HNE2.out, HB2.out⟩
      | exact ⟨_, st2, n2, et2, vp2, er2, bn2, rfl, H2.out, by rw [HN2.out]; exact Nat.le_refl _, fun _ => by rw [HN2.out]; exact Nat.succ_pos n, (below_setCell (Below.refl s w) (Nat.le_refl s)).trans HB2.out⟩
      | exact ⟨_, 218, n, et, vp, er2, bn, rfl, H2.out, Nat.le_succ n, fun e => absurd e (by decide), HB2.out⟩
      | exact ⟨_, st, n, et, vp, er, bn, rfl, H.out, Nat.le_succ n, HNE.out, Below.refl s w⟩
      | exact ⟨_, _, n, et, vp, er, bn, rfl, H.out.setStep _ (by decide), Nat.le_succ n, fun e => absurd e (by decide), below_setCell (Below.refl s w) (Nat.le_refl s)⟩)
set_option maxHeartbeats 4000000 in
set_option maxRecDepth 100000 in
theorem step_242 : StepC 242 := by
  intro c w s st n et vp er bn h hn hG hne hf
  have H := Lib.hid h
  have HG := Lib.hid hG
  have HNE := Lib.hid hne
  have hsf := store_fn
  have c0 := h.c0
  have z0 := h.free 0
  have hlt := h.lt
  clear h hG hne
  go_enter Tryz.func242, Tryz.ntmps242
  go_wp2_with (first
    | (go_at_call 194; refine (scErr_any c _ (by decide) H.out HG.out).mono ?_; rintro e w2 ⟨er2, rfl, hs2, hb2⟩; have H2 := Lib.hid hs2; have HB2 := Lib.hid hb2; clear hs2 hb2))
  all_goals first
    | (exfalso; omega)
    | (
    (try simp only [Exit.inBlock, Exit.then])
    go_ret
    first
      | exact ⟨_, _, n2, et2, vp2, er2, bn2, rfl, H2.out, HN2.out, HNE2.out, HB2.out⟩
      | exact ⟨_, st2, n2, et2, vp2, er2, bn2, rfl, H2.out, by rw [HN2.out]; exact Nat.le_refl _, fun _ => by rw [HN2.out]; exact Nat.succ_pos n, (below_setCell (Below.refl s w) (Nat.le_refl s)).trans HB2.out⟩
      | exact ⟨_, 218, n, et, vp, er2, bn, rfl, H2.out, Nat.le_succ n, fun e => absurd e (by decide), HB2.out⟩
      | exact ⟨_, st, n, et, vp, er, bn, rfl, H.out, Nat.le_succ n, HNE.out, Below.refl s w⟩
      | exact ⟨_, _, n, et, vp, er, bn, rfl, H.out.setStep _ (by decide), Nat.le_succ n, fun e => absurd e (by decide), below_setCell (Below.refl s w) (Nat.le_refl s)⟩)
set_option maxHeartbeats 4000000 in
set_option maxRecDepth 100000 in
theorem step_243 : StepC 243 := by
  intro c w s st n et vp er bn h hn hG hne hf
  have H := Lib.hid h
  have HG := Lib.hid hG
  have HNE := Lib.hid hne
  have hsf := store_fn
  have c0 := h.c0
  have z0 := h.free 0
  have hlt := h.lt
  clear h hG hne
  go_enter Tryz.func243, Tryz.ntmps243
  go_wp2_with (first
    | (go_at_call 210; refine (step_210 c H.out hn HG.out HNE.out (by intro e; cases e)).mono ?_; rintro e w2 ⟨r2, st2, n2, et2, vp2, er2, bn2, rfl, hs2, hn2, hne2, hb2⟩; have H2 := Lib.hid hs2; have HB2 := Lib.hid hb2; have HN2 := Lib.hid hn2; have HNE2 := Lib.hid hne2; clear hs2 hb2 hn2 hne2))
  all_goals first
    | (exfalso; omega)
    | (
    (try simp only [Exit.inBlock, Exit.then])
    go_ret
    first
      | exact ⟨_, _, n2, et2, vp2, er2, bn2, rfl, H2.out, HN2.out, HNE2.out, HB2.out⟩
      | exact ⟨_, st2, n2, et2, vp2, er2, bn2, rfl, H2.out, by rw [HN2.out]; exact Nat.le_refl _, fun _ => by rw [HN2.out]; exact Nat.succ_pos n, (below_setCell (Below.refl s w) (Nat.le_refl s)).trans HB2.out⟩
      | exact ⟨_, 218, n, et, vp, er2, bn, rfl, H2.out, Nat.le_succ n, fun e => absurd e (by decide), HB2.out⟩
      | exact ⟨_, st, n, et, vp, er, bn, rfl, H.out, Nat.le_succ n, HNE.out, Below.refl s w⟩
      | exact ⟨_, _, n, et, vp, er, bn, rfl, H.out.setStep _ (by decide), Nat.le_succ n, fun e => absurd e (by decide), below_setCell (Below.refl s w) (Nat.le_refl s)⟩)
set_option maxHeartbeats 4000000 in
set_option maxRecDepth 100000 in
theorem step_244 : StepC 244 := by
  intro c w s st n et vp er bn h hn hG hne hf
  have H := Lib.hid h
  have HG := Lib.hid hG
  have HNE := Lib.hid hne
  have hsf := store_fn
  have c0 := h.c0
  have z0 := h.free 0
  have hlt := h.lt
  clear h hG hne
  go_enter Tryz.func244, Tryz.ntmps244
  go_wp2_with (first
    | (go_at_call 194; refine (scErr_any c _ (by decide) H.out HG.out).mono ?_; rintro e w2 ⟨er2, rfl, hs2, hb2⟩; have H2 := Lib.hid hs2; have HB2 := Lib.hid hb2; clear hs2 hb2))
  all_goals first
    | (exfalso; omega)
    | (
    (try simp only [Exit.inBlock, Exit.then])
    go_ret
    first
      | exact ⟨_, _, n2, et2, vp2, er2, bn2, rfl, H2.out, HN2.out, HNE2.out, HB2.out⟩
      | exact ⟨_, st2, n2, et2, vp2, er2, bn2, rfl, H2.out, by rw [HN2.out]; exact Nat.le_refl _, fun _ => by rw [HN2.out]; exact Nat.succ_pos n, (below_setCell (Below.refl s w) (Nat.le_refl s)).trans HB2.out⟩
      | exact ⟨_, 218, n, et, vp, er2, bn, rfl, H2.out, Nat.le_succ n, fun e => absurd e (by decide), HB2.out⟩
      | exact ⟨_, st, n, et, vp, er, bn, rfl, H.out, Nat.le_succ n, HNE.out, Below.refl s w⟩
      | exact ⟨_, _, n, et, vp, er, bn, rfl, H.out.setStep _ (by decide), Nat.le_succ n, fun e => absurd e (by decide), below_setCell (Below.refl s w) (Nat.le_refl s)⟩)
set_option maxHeartbeats 4000000 in
set_option maxRecDepth 100000 in
theorem step_248 : StepC 248 := by
  intro c w s st n et vp er bn h hn hG hne hf
  have H := Lib.hid h
  have HG := Lib.hid hG
  have HNE := Lib.hid hne
  have hsf := store_fn
  have c0 := h.c0
  have z0 := h.free 0
  have hlt := h.lt
  clear h hG hne
  go_enter Tryz.func248, Tryz.ntmps248
  go_wp2_with (first
    | (go_at_call 194; refine (scErr_any c _ (by decide) H.out HG.out).mono ?_; rintro e w2 ⟨er2, rfl, hs2, hb2⟩; have H2 := Lib.hid hs2; have HB2 := Lib.hid hb2; clear hs2 hb2))
  all_goals first
    | (exfalso; omega)
    | (
    (try simp only [Exit.inBlock, Exit.then])
    go_ret
    first
      | exact ⟨_, _, n2, et2, vp2, er2, bn2, rfl, H2.out, HN2.out, HNE2.out, HB2.out⟩
      | exact ⟨_, st2, n2, et2, vp2, er2, bn2, rfl, H2.out, by rw [HN2.out]; exact Nat.le_refl _, fun _ => by rw [HN2.out]; exact Nat.succ_pos n, (below_setCell (Below.refl s w) (Nat.le_refl s)).trans HB2.out⟩
      | exact ⟨_, 218, n, et, vp, er2, bn, rfl, H2.out, Nat.le_succ n, fun e => absurd e (by decide), HB2.out⟩
      | exact ⟨_, st, n, et, vp, er, bn, rfl, H.out, Nat.le_succ n, HNE.out, Below.refl s w⟩
      | exact ⟨_, _, n, et, vp, er, bn, rfl, H.out.setStep _ (by decide), Nat.le_succ n, fun e => absurd e (by decide), below_setCell (Below.refl s w) (Nat.le_refl s)⟩)
set_option maxHeartbeats 4000000 in
set_option maxRecDepth 100000 in
theorem step_250 : StepC 250 := by
  intro c w s st n et vp er bn h hn hG hne hf
  have H := Lib.hid h
  have HG := Lib.hid hG
  have HNE := Lib.hid hne
  have hsf := store_fn
  have c0 := h.c0
  have z0 := h.free 0
  have hlt := h.lt
  clear h hG hne
  go_enter Tryz.func250, Tryz.ntmps250
  go_wp2_with (first
    | (go_at_call 194; refine (scErr_any c _ (by decide) H.out HG.out).mono ?_; rintro e w2 ⟨er2, rfl, hs2, hb2⟩; have H2 := Lib.hid hs2; have HB2 := Lib.hid hb2; clear hs2 hb2))
  all_goals first
    | (exfalso; omega)
    | (
    (try simp only [Exit.inBlock, Exit.then])
    go_ret
    first
      | exact ⟨_, _, n2, et2, vp2, er2, bn2, rfl, H2.out, HN2.out, HNE2.out, HB2.out⟩
      | exact ⟨_, st2, n2, et2, vp2, er2, bn2, rfl, H2.out, by rw [HN2.out]; exact Nat.le_refl _, fun _ => by rw [HN2.out]; exact Nat.succ_pos n, (below_setCell (Below.refl s w) (Nat.le_refl s)).trans HB2.out⟩
      | exact ⟨_, 218, n, et, vp, er2, bn, rfl, H2.out, Nat.le_succ n, fun e => absurd e (by decide), HB2.out⟩
      | exact ⟨_, st, n, et, vp, er, bn, rfl, H.out, Nat.le_succ n, HNE.out, Below.refl s w⟩
      | exact ⟨_, _, n, et, vp, er, bn, rfl, H.out.setStep _ (by decide), Nat.le_succ n, fun e => absurd e (by decide), below_setCell (Below.refl s w) (Nat.le_refl s)⟩)
end Go.Proofs.YtaecbclonmhbcaaGreatDoor
