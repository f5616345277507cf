/- The steps of json's scanner: the beginnings. Printed by gen_scf.py. json.Valid over whatever bytes: it tells true or false, and leaves all memory that was there as it was. -/
import Derived.Test.YtaecbclonmhbcaaGreatDoorP38
import Derived.Shelf.Abstract
import Derived.Defers
set_option linter.unusedVariables false
set_option linter.unusedSimpArgs false
namespace Go.Proofs.YtaecbclonmhbcaaGreatDoor
open Go.RowKit
set_option maxHeartbeats 4000000 in
set_option maxRecDepth 100000 in
theorem step_168 : StepC 168 := by
  intro c w s st n et vp er bn h hn hG hne hf
  have H := Lib.hid h
  have HG := Lib.hid hG
  have HNE := Lib.hid hne
  have hsf := store_fn
  have c0 := h.c0
  have z0 := h.free 0
  have hlt := h.lt
  clear h hG hne
  go_enter Tryz.func168, Tryz.ntmps168
  go_wp2_with (first
    | (go_at_call 183; refine (isSpace_any _ _).mono ?_; rintro e w2 ⟨⟨r, rfl⟩, rfl⟩; rcases r with _ | _)
    | (go_at_call 185; refine (push_any c _ _ (H.out.setStep _ (by decide)) hn (HG.out.less (below_setCell (Below.refl s w) (Nat.le_refl s)))).mono ?_; rintro e w2 ⟨r2, st2, n2, et2, vp2, er2, bn2, rfl, hs2, hn2, -, hb2⟩; have H2 := Lib.hid hs2; have HB2 := Lib.hid hb2; have HN2 := Lib.hid hn2; clear hs2 hb2 hn2)
    | (go_at_call 194; refine (scErr_any c _ (by decide) H.out HG.out).mono ?_; rintro e w2 ⟨er2, rfl, hs2, hb2⟩; have H2 := Lib.hid hs2; have HB2 := Lib.hid hb2; clear hs2 hb2))
  all_goals first
    | (exfalso; omega)
    | (
    (try simp only [Exit.inBlock, Exit.then])
    go_ret
    first
      | exact ⟨_, _, n2, et2, vp2, er2, bn2, rfl, H2.out, HN2.out, HNE2.out, HB2.out⟩
      | exact ⟨_, st2, n2, et2, vp2, er2, bn2, rfl, H2.out, by rw [HN2.out]; exact Nat.le_refl _, fun _ => by rw [HN2.out]; exact Nat.succ_pos n, (below_setCell (Below.refl s w) (Nat.le_refl s)).trans HB2.out⟩
      | exact ⟨_, 218, n, et, vp, er2, bn, rfl, H2.out, Nat.le_succ n, fun e => absurd e (by decide), HB2.out⟩
      | exact ⟨_, st, n, et, vp, er, bn, rfl, H.out, Nat.le_succ n, HNE.out, Below.refl s w⟩
      | exact ⟨_, _, n, et, vp, er, bn, rfl, H.out.setStep _ (by decide), Nat.le_succ n, fun e => absurd e (by decide), below_setCell (Below.refl s w) (Nat.le_refl s)⟩)
set_option maxHeartbeats 4000000 in
set_option maxRecDepth 100000 in
theorem step_186 : StepC 186 := by
  intro c w s st n et vp er bn h hn hG hne hf
  have H := Lib.hid h
  have HG := Lib.hid hG
  have HNE := Lib.hid hne
  have hsf := store_fn
  have c0 := h.c0
  have z0 := h.free 0
  have hlt := h.lt
  clear h hG hne
  go_enter Tryz.func186, Tryz.ntmps186
  go_wp2_with (first
    | (go_at_call 183; refine (isSpace_any _ _).mono ?_; rintro e w2 ⟨⟨r, rfl⟩, rfl⟩; rcases r with _ | _)
    | (go_at_call 210; refine (step_210 c H.out hn HG.out HNE.out (by intro e; cases e)).mono ?_; rintro e w2 ⟨r2, st2, n2, et2, vp2, er2, bn2, rfl, hs2, hn2, hne2, hb2⟩; have H2 := Lib.hid hs2; have HB2 := Lib.hid hb2; have HN2 := Lib.hid hn2; have HNE2 := Lib.hid hne2; clear hs2 hb2 hn2 hne2)
    | (go_at_call 168; refine (step_168 c H.out hn HG.out HNE.out (by intro e; cases e)).mono ?_; rintro e w2 ⟨r2, st2, n2, et2, vp2, er2, bn2, rfl, hs2, hn2, hne2, hb2⟩; have H2 := Lib.hid hs2; have HB2 := Lib.hid hb2; have HN2 := Lib.hid hn2; have HNE2 := Lib.hid hne2; clear hs2 hb2 hn2 hne2))
  all_goals first
    | (exfalso; omega)
    | (
    (try simp only [Exit.inBlock, Exit.then])
    go_ret
    first
      | exact ⟨_, _, n2, et2, vp2, er2, bn2, rfl, H2.out, HN2.out, HNE2.out, HB2.out⟩
      | exact ⟨_, st2, n2, et2, vp2, er2, bn2, rfl, H2.out, by rw [HN2.out]; exact Nat.le_refl _, fun _ => by rw [HN2.out]; exact Nat.succ_pos n, (below_setCell (Below.refl s w) (Nat.le_refl s)).trans HB2.out⟩
      | exact ⟨_, 218, n, et, vp, er2, bn, rfl, H2.out, Nat.le_succ n, fun e => absurd e (by decide), HB2.out⟩
      | exact ⟨_, st, n, et, vp, er, bn, rfl, H.out, Nat.le_succ n, HNE.out, Below.refl s w⟩
      | exact ⟨_, _, n, et, vp, er, bn, rfl, H.out.setStep _ (by decide), Nat.le_succ n, fun e => absurd e (by decide), below_setCell (Below.refl s w) (Nat.le_refl s)⟩)
set_option maxHeartbeats 4000000 in
set_option maxRecDepth 100000 in
theorem step_184 : StepC 184 := by
  intro c w s st n et vp er bn h hn hG hne hf
  have H := Lib.hid h
  have HG := Lib.hid hG
  have HNE := Lib.hid hne
  have hsf := store_fn
  have c0 := h.c0
  have z0 := h.free 0
  have hlt := h.lt
  clear h hG hne
  obtain ⟨p, cp, rfl⟩ := H.out.form
  have c2 := H.out.c2
  have hpos := hf rfl
  obtain ⟨g, z, rfl, hg, hz, hfz, hset⟩ := H.out.top hpos
  have H1 := Lib.hid (hset 1)
  have HB1 := Lib.hid (below_setCell (i := n - 1) (v := .int .i64 1) (Below.refl s w) (Nat.le_of_lt hg))
  have hw : wrap64 ((n : Int) - 1) = (n : Int) - 1 := by unfold wrap64; omega
  have htn : ((n : Int) - 1).toNat = n - 1 := by omega
  have hge : (0 : Int) ≤ (n : Int) - 1 := by omega
  have hlt1 : (n : Int) - 1 < (n : Int) := by omega
  have hlt2 : n - 1 < n := by omega
  clear hset
  go_enter Tryz.func184, Tryz.ntmps184
  go_wp2_with (first
    | (go_at_call 183; refine (isSpace_any _ _).mono ?_; rintro e w2 ⟨⟨r, rfl⟩, rfl⟩; rcases r with _ | _)
    | (go_at_call 210; refine (step_210 c H1.out hn (HG.out.less HB1.out) (fun _ => hpos) (fun e => absurd e (by decide))).mono ?_; rintro e w2 ⟨r2, st2, n2, et2, vp2, er2, bn2, rfl, hs2, hn2, hne2, hb2⟩; have H2 := Lib.hid hs2; have HB2 := Lib.hid (HB1.out.trans hb2); have HN2 := Lib.hid hn2; have HNE2 := Lib.hid hne2; clear hs2 hb2 hn2 hne2)
    | (go_at_call 211; refine (step_211 c H.out hn HG.out HNE.out (by intro e; cases e)).mono ?_; rintro e w2 ⟨r2, st2, n2, et2, vp2, er2, bn2, rfl, hs2, hn2, hne2, hb2⟩; have H2 := Lib.hid hs2; have HB2 := Lib.hid hb2; have HN2 := Lib.hid hn2; have HNE2 := Lib.hid hne2; clear hs2 hb2 hn2 hne2))
  all_goals first
    | (exfalso; omega)
    | (
    (try simp only [Exit.inBlock, Exit.then])
    go_ret
    first
      | exact ⟨_, _, n2, et2, vp2, er2, bn2, rfl, H2.out, HN2.out, HNE2.out, HB2.out⟩
      | exact ⟨_, st2, n2, et2, vp2, er2, bn2, rfl, H2.out, by rw [HN2.out]; exact Nat.le_refl _, fun _ => by rw [HN2.out]; exact Nat.succ_pos n, (below_setCell (Below.refl s w) (Nat.le_refl s)).trans HB2.out⟩
      | exact ⟨_, 218, n, et, _, er2, bn, rfl, H2.out, Nat.le_succ n, fun e => absurd e (by decide), HB2.out⟩
      | exact ⟨_, st, n, et, _, er, bn, rfl, H.out, Nat.le_succ n, HNE.out, Below.refl s w⟩
      | exact ⟨_, _, n, et, _, er, bn, rfl, H.out.setStep _ (by decide), Nat.le_succ n, fun e => absurd e (by decide), below_setCell (Below.refl s w) (Nat.le_refl s)⟩)
theorem steps_all {f : Nat} (h : f ∈ stepFns) : StepC f := by
  simp only [stepFns, List.mem_cons, List.not_mem_nil, or_false] at h
  rcases h with rfl | rfl | rfl | rfl | rfl | rfl | rfl | rfl | rfl | rfl | rfl | rfl | rfl | rfl | rfl | rfl | rfl | rfl | rfl | rfl | rfl | rfl | rfl | rfl | rfl | rfl | rfl | rfl | rfl | rfl | rfl
  · exact step_168
  · exact step_184
  · exact step_186
  · exact step_187
  · exact step_188
  · exact step_189
  · exact step_190
  · exact step_191
  · exact step_192
  · exact step_193
  · exact step_210
  · exact step_211
  · exact step_212
  · exact step_213
  · exact step_214
  · exact step_215
  · exact step_216
  · exact step_217
  · exact step_218
  · exact step_228
  · exact step_230
  · exact step_231
  · exact step_232
  · exact step_233
  · exact step_234
  · exact step_235
  · exact step_242
  · exact step_243
  · exact step_244
  · exact step_248
  · exact step_250
end Go.Proofs.YtaecbclonmhbcaaGreatDoor

namespace Go.Proofs.YtaecbclonmhbcaaGreatDoor
open Go.RowKit
set_option maxRecDepth 100000 in
theorem enters_all {f : Nat} (h : f ∈ stepFns) : ∀ (args : Array Value) (w : World), (callFunc f args).run Tryz.prog w = .ok (.enter f args) w := by
  simp only [stepFns, List.mem_cons, List.not_mem_nil, or_false] at h
  rcases h with rfl | rfl | rfl | rfl | rfl | rfl | rfl | rfl | rfl | rfl | rfl | rfl | rfl | rfl | rfl | rfl | rfl | rfl | rfl | rfl | rfl | rfl | rfl | rfl | rfl | rfl | rfl | rfl | rfl | rfl | rfl
  · exact enters_of Tryz.func168 (by kernel_rfl) rfl
  · exact enters_of Tryz.func184 (by kernel_rfl) rfl
  · exact enters_of Tryz.func186 (by kernel_rfl) rfl
  · exact enters_of Tryz.func187 (by kernel_rfl) rfl
  · exact enters_of Tryz.func188 (by kernel_rfl) rfl
  · exact enters_of Tryz.func189 (by kernel_rfl) rfl
  · exact enters_of Tryz.func190 (by kernel_rfl) rfl
  · exact enters_of Tryz.func191 (by kernel_rfl) rfl
  · exact enters_of Tryz.func192 (by kernel_rfl) rfl
  · exact enters_of Tryz.func193 (by kernel_rfl) rfl
  · exact enters_of Tryz.func210 (by kernel_rfl) rfl
  · exact enters_of Tryz.func211 (by kernel_rfl) rfl
  · exact enters_of Tryz.func212 (by kernel_rfl) rfl
  · exact enters_of Tryz.func213 (by kernel_rfl) rfl
  · exact enters_of Tryz.func214 (by kernel_rfl) rfl
  · exact enters_of Tryz.func215 (by kernel_rfl) rfl
  · exact enters_of Tryz.func216 (by kernel_rfl) rfl
  · exact enters_of Tryz.func217 (by kernel_rfl) rfl
  · exact enters_of Tryz.func218 (by kernel_rfl) rfl
  · exact enters_of Tryz.func228 (by kernel_rfl) rfl
  · exact enters_of Tryz.func230 (by kernel_rfl) rfl
  · exact enters_of Tryz.func231 (by kernel_rfl) rfl
  · exact enters_of Tryz.func232 (by kernel_rfl) rfl
  · exact enters_of Tryz.func233 (by kernel_rfl) rfl
  · exact enters_of Tryz.func234 (by kernel_rfl) rfl
  · exact enters_of Tryz.func235 (by kernel_rfl) rfl
  · exact enters_of Tryz.func242 (by kernel_rfl) rfl
  · exact enters_of Tryz.func243 (by kernel_rfl) rfl
  · exact enters_of Tryz.func244 (by kernel_rfl) rfl
  · exact enters_of Tryz.func248 (by kernel_rfl) rfl
  · exact enters_of Tryz.func250 (by kernel_rfl) rfl
set_option maxHeartbeats 2000000 in
theorem reset_any {w : World} {s : Nat} {v0 v3 : Value} {et : Bool} {bn : Int} (hh : w.heap[s]? = some (.cells #[v0, .bool et, .slice none 0 0, v3, .int .i64 bn] 183 (0, 0))) :
    Calls Tryz.prog 162 #[.pointer (some ⟨s, 0, none⟩)] w fun e w' => e = .returned (.tuple #[]) ∧ ScAt w' s 168 0 false (.slice none 0 0) .nilIface bn ∧ Below s w w' := by
  have c0 := cell_of_heap hh 0 rfl
  have c1 := cell_of_heap hh 1 rfl
  have c2 := cell_of_heap hh 2 rfl
  have c3 := cell_of_heap hh 3 rfl
  have z := free_of_heap hh
  have z0 := z 0
  have z1 := z 1
  have z2 := z 2
  have z3 := z 3
  have hsf := store_fn
  have HH := Lib.hid hh
  clear hh z
  go_enter Tryz.func162, Tryz.ntmps162
  go_wp2
  go_end0
  have h1 := heap_setCell (heap_setCell (heap_setCell (heap_setCell HH.out 0 (.func (.func 168) #[] #[])) 2 (.slice none 0 0)) 3 .nilIface) 1 (.bool false)
  exact ⟨rfl, ⟨h1, ⟨[], World.ownsRow_nil _ _ _ _⟩, .inl rfl, by decide⟩, below_setCell (below_setCell (below_setCell (below_setCell (Below.refl s w) (Nat.le_refl s)) (Nat.le_refl s)) (Nat.le_refl s)) (Nat.le_refl s)⟩
def ScIs (w : World) (s n : Nat) : Prop := ∃ (st n' : Nat) (et : Bool) (vp er : Value) (bn : Int), ScAt w s st n' et vp er bn ∧ n' ≤ n ∧ (st = 184 → 0 < n')
set_option maxHeartbeats 4000000 in
set_option maxRecDepth 100000 in
theorem scEof_any {w : World} {s st n : Nat} {et : Bool} {vp er : Value} {bn : Int} (h : ScAt w s st n et vp er bn) (hn : n ≤ 100000) (hne : st = 184 → 0 < n) (hG : Gr s w) :
    Calls Tryz.prog 163 #[.pointer (some ⟨s, 0, none⟩)] w fun e w' => (∃ r, e = .returned (.int .i64 r)) ∧ ScIs w' s (n + 1) ∧ Below s w w' := by
  have c0 := h.c0
  have c1 := h.c1
  have c3 := h.c3
  have hcf := enters_all h.mem
  have H := Lib.hid h
  have HG := Lib.hid hG
  have HNE := Lib.hid hne
  have HST := Lib.hid (steps_all h.mem)
  have HF : Hid (st = 184 → 0 < n) := Lib.hid hne
  have her := h.err
  clear h hG hne
  rcases her with rfl | ⟨ev, rfl⟩
  · cases et
    · go_enter Tryz.func163, Tryz.ntmps163
      go_wp2_with (refine (HST.out 32 H.out hn HG.out HNE.out HF.out).mono ?_; rintro e w2 ⟨r2, st2, n2, et2, vp2, er2, bn2, rfl, hs2, hn2, hne2, hb2⟩; have H2 := Lib.hid hs2; have HB2 := Lib.hid hb2; have HN2 := Lib.hid hn2; have HNE2 := Lib.hid hne2; have d1 := hs2.c1; have d3 := hs2.c3; have d4 := hs2.c4; have y3 := hs2.free 3; have hlt2 := hs2.lt; have her2 := hs2.err; clear hs2 hb2 hn2 hne2; cases et2; rcases her2 with rfl | ⟨ev2, rfl⟩)
      all_goals
        go_ret
        first
          | exact ⟨⟨_, rfl⟩, ⟨st2, n2, _, vp2, _, bn2, H2.out, HN2.out, HNE2.out⟩, HB2.out⟩
          | exact ⟨⟨_, rfl⟩, ⟨st2, n2, _, vp2, _, bn2, (H2.out.setErr _ (.inr ⟨_, rfl⟩)).new (below_alloc _ _), HN2.out, HNE2.out⟩, (below_setCell HB2.out (Nat.le_refl s)).trans (below_less (below_alloc _ _) (by simp; omega))⟩
    · go_enter Tryz.func163, Tryz.ntmps163
      go_wp2
      go_ret
      exact ⟨⟨_, rfl⟩, ⟨st, n, true, vp, _, bn, H.out, by omega, HNE.out⟩, Below.refl s w⟩
  · go_enter Tryz.func163, Tryz.ntmps163
    go_wp2
    go_ret
    exact ⟨⟨_, rfl⟩, ⟨st, n, et, vp, _, bn, H.out, by omega, HNE.out⟩, Below.refl s w⟩
def LowAt (w : World) (s : Nat) (v : Value) (l : List Int) : Prop :=
  ∃ (p : Option Addr) (cap : Nat), v = .slice p l.length cap ∧ (0 < l.length → ∃ bd o, p = some ⟨bd, o, none⟩ ∧ bd < s ∧ ∀ i, i < l.length → w.cell? ⟨bd, o + i, none⟩ = some (.int .u8 (l.getD i 0)))
theorem below_cell {s : Nat} {w w' : World} (h : Below s w w') {b i : Nat} {x : Value} (hb : b < s) (hc : w.cell? ⟨b, i, none⟩ = some x) : w'.cell? ⟨b, i, none⟩ = some x := by
  rw [← hc]; simp [World.cell?, h.block b hb]
set_option maxHeartbeats 8000000 in
set_option maxRecDepth 100000 in
theorem checkValid_any {w : World} {s : Nat} {v0 v3 : Value} {et : Bool} {bn : Int} (hh : w.heap[s]? = some (.cells #[v0, .bool et, .slice none 0 0, v3, .int .i64 bn] 183 (0, 0))) (hG : Gr s w) {v : Value} {l : List Int} (hv : LowAt w s v l) (hl : l.length ≤ 100000) :
    Calls Tryz.prog 148 #[v, .pointer (some ⟨s, 0, none⟩)] w fun e w' => (∃ er, e = .returned er ∧ (er = .nilIface ∨ ∃ u, er = .iface 194 u)) ∧ (∃ n, ScIs w' s n) ∧ Below s w w' := by
  obtain ⟨p, cap, rfl, hp⟩ := hv
  have HP := Lib.hid hp
  have HH := Lib.hid hh
  have HG := Lib.hid hG
  clear hh hG hp
  go_enter Tryz.func148, Tryz.ntmps148
  go_wp2_with (go_at_call 162; refine (reset_any HH.out).mono ?_; rintro e w1 ⟨rfl, hs1, hb1⟩; have H1 := Lib.hid hs1; have HB1 := Lib.hid hb1; clear hs1 hb1)
  go_loopw [11] (fun i wr => ∃ (k st n : Nat) (et : Bool) (vp er : Value) (bn : Int), i = .int .i64 k ∧ k ≤ l.length ∧ ScAt wr s st n et vp er bn ∧ n ≤ k ∧ (st = 184 → 0 < n) ∧ Below s w wr)
    (fun i _ => l.length - (intOf i).toNat)
  case atStart => exact ⟨0, 168, 0, false, _, _, bn, rfl, Nat.zero_le _, H1.out, Nat.le_refl _, fun e => absurd e (by decide), HB1.out⟩
  case round =>
    obtain ⟨k, st, n, et, vp, er, bn, rfl, hk, hs, hnk, hne, hb⟩ := hrel
    have HS := Lib.hid hs
    have HB := Lib.hid hb
    have HNE := Lib.hid hne
    clear hs hb hne
    by_cases hlt : k < l.length
    case neg =>
      obtain rfl : k = l.length := by omega
      go_wp2_with (go_at_call 163; refine (scEof_any HS.out (by omega) HNE.out (HG.out.less HB.out)).mono ?_; rintro e w2 ⟨⟨r2, rfl⟩, hs2, hb2⟩; obtain ⟨st2, n2, et2, vp2, er2, bn2, hs3, hn3, hne3⟩ := hs2; have H2 := Lib.hid hs3; have HB2 := Lib.hid hb2; have HN2 := Lib.hid hn3; have HNE2 := Lib.hid hne3; have d3 := hs3.c3; have HER := Lib.hid hs3.err; clear hs3 hb2 hn3 hne3)
      all_goals
        go_ret
        first
          | exact ⟨⟨_, rfl, HER.out⟩, ⟨_, st2, n2, et2, vp2, er2, bn2, H2.out, HN2.out, HNE2.out⟩, HB.out.trans HB2.out⟩
          | exact ⟨⟨_, rfl, .inl rfl⟩, ⟨_, st2, n2, et2, vp2, er2, bn2, H2.out, HN2.out, HNE2.out⟩, HB.out.trans HB2.out⟩
    case pos =>
      obtain ⟨bd, o, rfl, hbd, hcs⟩ := HP.out (by omega)
      have q0 := below_cell HB.out hbd (hcs k hlt)
      generalize l.getD k 0 = c at q0
      clear hcs
      have c0 := HS.out.c0
      have c4 := HS.out.c4
      have z4 := HS.out.free 4
      have hcf := enters_all HS.out.mem
      have HST := Lib.hid (steps_all HS.out.mem)
      have HG1 := Lib.hid (HG.out.less (below_setCell (i := 4) (v := .int .i64 (wrap64 (bn + 1))) HB.out (Nat.le_refl s)))
      have HS1 := Lib.hid (HS.out.setCount (wrap64 (bn + 1)))
      have HB1 := Lib.hid (below_setCell (i := 4) (v := .int .i64 (wrap64 (bn + 1))) HB.out (Nat.le_refl s))
      go_wp2_with (refine (HST.out c HS1.out (by omega) HG1.out HNE.out HNE.out).mono ?_; rintro e w2 ⟨r2, st2, n2, et2, vp2, er2, bn2, rfl, hs2, hn2, hne2, hb2⟩; have H2 := Lib.hid hs2; have HB2 := Lib.hid hb2; have HN2 := Lib.hid hn2; have HNE2 := Lib.hid hne2; have d3 := hs2.c3; have HER := Lib.hid hs2.err; clear hs2 hb2 hn2 hne2)
      · go_ret
        exact ⟨⟨_, rfl, HER.out⟩, ⟨_, st2, n2, et2, vp2, er2, bn2, H2.out, HN2.out, HNE2.out⟩, HB1.out.trans HB2.out⟩
      · refine ⟨⟨k + 1, st2, n2, et2, vp2, er2, bn2, by go_num, by omega, H2.out, by have := HN2.out; omega, HNE2.out, HB1.out.trans HB2.out⟩, ?_⟩
        simp [intOf]
        omega
theorem free_any {w : World} {s n : Nat} (u : FrameMode) (h : ScIs w s n) :
    CallsD Tryz.prog 147 #[.pointer (some ⟨s, 0, none⟩)] u w fun e u' w' => u' = u ∧ e = .returned (.tuple #[]) ∧ Below s w w' := by
  obtain ⟨st, n', et, vp, er, bn, h, -, -⟩ := h
  obtain ⟨p, c, rfl⟩ := h.form
  have c2 := h.c2
  have z2 := h.free 2
  clear h
  go_enter_d Tryz.func147, Tryz.ntmps147
  go_wp2
  all_goals
    go_end0
    first
      | exact ⟨rfl, below_setCell (Below.refl s w) (Nat.le_refl s)⟩
      | exact ⟨rfl, Below.refl s w⟩
set_option maxHeartbeats 2000000 in
theorem newSc_any {w : World} :
    Calls Tryz.prog 146 #[] w fun e w' => e = .returned (.pointer (some ⟨w.heap.size, 0, none⟩)) ∧ (∃ bn, ScAt w' w.heap.size 168 0 false (.slice none 0 0) .nilIface bn) ∧ Below w.heap.size w w' := by
  go_enter Tryz.func146, Tryz.ntmps146
  go_wp2_with (go_at_call 162; refine (reset_any (heap_alloc_new w (.cells #[.nilFunc, .bool false, .slice none 0 0, .nilIface, .int .i64 0] 183))).mono ?_; rintro e w1 ⟨rfl, hs1, hb1⟩; have H1 := Lib.hid hs1; have HB1 := Lib.hid hb1; clear hs1 hb1)
  go_ret
  exact ⟨rfl, ⟨0, H1.out⟩, (below_alloc w _).trans (below_less HB1.out (Nat.le_refl _))⟩
set_option maxHeartbeats 4000000 in
theorem valid_any {w : World} (hT : Tabs w) {v : Value} {l : List Int} (hv : LowAt w w.heap.size v l) (hl : l.length ≤ 100000) :
    Calls Tryz.prog 125 #[v] w fun e w' => ScB e ∧ Below w.heap.size w w' := by
  obtain ⟨p, cap, hve, hp⟩ := hv
  have HP := Lib.hid hp
  have HT := Lib.hid hT
  subst hve
  clear hT hp
  go_enter_defers Tryz.func125, Tryz.ntmps125
  go_wp2_with (first
    | (go_at_call 146; refine newSc_any.mono ?_; rintro e w1 ⟨rfl, ⟨bn, hs1⟩, hb1⟩; have H1 := Lib.hid hs1; have HB1 := Lib.hid hb1; have HG1 : Hid (Gr w.heap.size w1) := Lib.hid ⟨w, HT.out, Nat.le_refl _, hb1⟩; have HV1 : Hid (LowAt w1 w.heap.size (.slice p l.length cap) l) := Lib.hid ⟨p, cap, rfl, fun h0 => by obtain ⟨bd, o, h1, h2, h3⟩ := HP.out h0; exact ⟨bd, o, h1, h2, fun i hi => below_cell hb1 h2 (h3 i hi)⟩⟩; clear hs1 hb1)
    | (go_at_call 148; refine (checkValid_any H1.out.heap HG1.out HV1.out hl).mono ?_; rintro e w2 ⟨⟨er, rfl, her⟩, ⟨n2, hs2⟩, hb2⟩; have H2 := Lib.hid hs2; have HB2 := Lib.hid hb2; clear hs2 hb2; rcases her with rfl | ⟨u, rfl⟩))
  all_goals
    refine leaves_cons (f := 147) (args := #[.pointer (some ⟨w.heap.size, 0, none⟩)]) (by simp) (by simp [go_sem]) ?_
    refine (free_any .returning H2.out).mono ?_
    rintro e u' w3 ⟨rfl, rfl, hb3⟩
    exact ⟨_, results_tmp rfl _ _ _, ⟨_, rfl⟩, (HB1.out.trans HB2.out).trans hb3⟩
end Go.Proofs.YtaecbclonmhbcaaGreatDoor
