/- SkipRecursive, at every state. Printed by gen_skp.py. -/
import Derived.Test.YtaecbclonmhbcaaGreatDoorP39
import Derived.Test.YtaecbclonmhbcaaGreatDoorP28
import Derived.Test.YtaecbclonmhbcaaGreatDoorP27
import Derived.Test.YtaecbclonmhbcaaGreatDoorP33
import Derived.BigRegion
import Derived.BigQuiet
set_option linter.unusedVariables false
set_option linter.unusedSimpArgs false
namespace Go.Proofs.YtaecbclonmhbcaaGreatDoor
open Go.RowKit
def SkInv (o e : Int) (l : List Int) (p lv : Nat) (q s : Bool) (k : Nat) : Prop :=
  skipScan o e (l.drop p) 1 false false = (skipScan o e (l.drop (p + k)) lv q s).map (· + k)
theorem SkInv.start (o e : Int) (l : List Int) (p : Nat) : SkInv o e l p 1 false false 0 := by
  unfold SkInv
  rw [Nat.add_zero]
  cases skipScan o e (l.drop p) 1 false false with
  | none => rfl
  | some n => rfl
theorem drop_get {l : List Int} {i : Nat} (h : i < l.length) : l.drop i = l.getD i 0 :: l.drop (i + 1) := by
  rw [List.drop_eq_getElem_cons h]; simp [List.getD, h]
theorem SkInv.next {o e : Int} {l : List Int} {p lv lv' k : Nat} {q s q' s' : Bool} (h : SkInv o e l p lv q s k) (hl : p + k < l.length)
    (hs : ∀ cs, skipScan o e (l.getD (p + k) 0 :: cs) lv q s = (skipScan o e cs lv' q' s').map (· + 1)) : SkInv o e l p lv' q' s' (k + 1) := by
  unfold SkInv at h ⊢
  rw [h, drop_get hl, hs, ← Nat.add_assoc]
  cases skipScan o e (l.drop (p + k + 1)) lv' q' s' with
  | none => rfl
  | some n => show some (n + 1 + k) = some (n + (k + 1)); rw [Nat.add_assoc, Nat.add_comm 1 k]
theorem SkInv.done {o e : Int} {l : List Int} {p lv k : Nat} {q s : Bool} (h : SkInv o e l p lv q s k) (hl : p + k < l.length)
    (hs : ∀ cs, skipScan o e (l.getD (p + k) 0 :: cs) lv q s = some 1) : skipScan o e (l.drop p) 1 false false = some (k + 1) := by
  unfold SkInv at h
  rw [h, drop_get hl, hs]
  simp [Nat.add_comm]
def SkipDone (w : World) (b : Nat) (ae : Sur) (ao : Addr) (x : Lx) (vd vm : Value) (e : Ending) (w' : World) : Prop :=
  e = .returned (.tuple #[]) ∧ ∃ x', SkipRel x.peek x' ∧ NumDone w b ae ao x' vd vm w'
theorem conv_empty (bd o c : Nat) (W : World) : (convert 22 9 (.slice (some ⟨bd, o, none⟩) 0 c)).run Tryz.prog W = .ok (.string (strOfNums [])) W :=
  run_convert_bytes_arg W 22 5 Tryz.underlying22 Tryz.underlying5 bd o 0 c [] rfl (fun i hi => absurd hi (Nat.not_lt_zero i)) 9 Tryz.underlying9
theorem conv_nil (c : Nat) (W : World) : (convert 22 9 (.slice none 0 c)).run Tryz.prog W = .ok (.string (strOfNums [])) W :=
  run_convert_bytes_nil _ 22 5 Tryz.underlying22 Tryz.underlying5 _ _ 9 Tryz.underlying9
section
variable {w : World} {b : Nat} {ae : Sur} {ao : Addr} {x : Lx} {vd vt ve vm : Value}
theorem LexAt.drew1 (h : LexAt w b ae ao x vd vt ve vm) : LexAt w.drew b ae ao x vd vt ve vm :=
  h.into (Kept.refl b w).drew rfl h.heap (h.tok.kept (Kept.refl b w).drew) (h.err.kept (Kept.refl b w).drew)
theorem valid_low {W : World} (hT : Tabs W) {bd o n cap : Nat} (hb : bd < W.heap.size) (hn : n ≤ 100000) (hc : ∀ i, i < n → ∃ c, W.cell? ⟨bd, o + i, none⟩ = some (.int .u8 c)) :
    Calls Tryz.prog 125 #[.slice (some ⟨bd, o, none⟩) n cap] W fun e w' => ScB e ∧ Below W.heap.size W w' := by
  refine valid_any hT (l := (List.range n).map fun i => match W.cell? ⟨bd, o + i, none⟩ with | some (.int _ v) => v | _ => 0) ⟨some ⟨bd, o, none⟩, cap, by simp, fun _ => ⟨bd, o, rfl, hb, fun i hi => ?_⟩⟩ (by simpa using hn)
  have hi' : i < n := by simpa using hi
  obtain ⟨c, hcc⟩ := hc i hi'
  rw [hcc]
  simp [List.getD, hi', hcc]
set_option maxHeartbeats 2000000 in
theorem scanToken_any (h : LexAt w b ae ao x vd vt ve vm) (hw : x.Wf) :
    Calls Tryz.prog 124 #[.pointer (some ⟨b, 0, none⟩)] w fun e w' => e = .returned (.tuple #[]) ∧ NumDone w b ae ao x.peek vd vm w' := by
  have H := Lib.hid h
  have c3 := h.c3
  have c11 := h.c11
  by_cases hk : x.kind = 0
  case neg =>
    rw [peek_kept (by simp [hk])]
    have n1 : ((x.kind : Int) == 0) = false := beq_eq_false_iff_ne.2 (by omega)
    have n2 : ((x.kind : Int) != 0) = true := bne_iff_ne.2 (by omega)
    clear h hk
    go_enter Tryz.func124, Tryz.ntmps124
    go_wp2
    all_goals
      (try simp only [Exit.inBlock, Exit.then])
      exact bodyPost_ret (results_none rfl _ _ _) rfl ⟨rfl, _, _, H.out, Kept.refl b w⟩
  case pos =>
    rw [hk] at c3
    cases hok : x.ok with
    | false =>
      rw [peek_kept (by simp [hok])]
      obtain ⟨t, v, rfl⟩ := h.errSome hok
      clear h hk hok
      go_enter Tryz.func124, Tryz.ntmps124
      go_wp2
      all_goals
        (try simp only [Exit.inBlock, Exit.then])
        exact bodyPost_ret (results_none rfl _ _ _) rfl ⟨rfl, _, _, H.out, Kept.refl b w⟩
    | true =>
      rw [peek_new (by simp [hok, hk])]
      obtain rfl := h.errNil hok
      have HW := Lib.hid hw
      clear h hk hok hw
      go_enter Tryz.func124, Tryz.ntmps124
      go_wp2_with (go_at_call 86; refine (fetchToken_any H.out HW.out).mono ?_; rintro e w1 ⟨rfl, h1⟩; have HF := Lib.hid h1; clear h1)
      go_end0
      exact ⟨rfl, HF.out⟩
set_option maxHeartbeats 4000000 in
set_option maxRecDepth 100000 in
theorem skip_token (h : LexAt w b ae ao x vd vt ve vm) (hw : x.Wf) (hd : x.peek.delim ≠ 123 ∧ x.peek.delim ≠ 91) :
    Calls Tryz.prog 89 #[.pointer (some ⟨b, 0, none⟩)] w (SkipDone w b ae ao x vd vm) := by
  have H := Lib.hid h
  have HW := Lib.hid hw
  have HD := Lib.hid hd
  have n1 : (x.peek.delim == 123) = false := beq_eq_false_iff_ne.2 hd.1
  have n2 : (x.peek.delim == 91) = false := beq_eq_false_iff_ne.2 hd.2
  clear h hw hd
  go_enter Tryz.func89, Tryz.ntmps89
  go_wp2_with (first
    | (go_at_call 124; refine (scanToken_any H.out HW.out).mono ?_; rintro e w1 ⟨rfl, vt1, ve1, g1, g2⟩; have d1 := g1.c1; have d7 := g1.c7; have G1 := Lib.hid g1; have K1 := Lib.hid g2; clear g1 g2)
    | (go_at_call 104; refine (consume_any G1.out).mono ?_; rintro e w2 ⟨rfl, g3, g4⟩; have G3 := Lib.hid g3; have K3 := Lib.hid g4; clear g3 g4))
  all_goals
    (try simp only [Exit.inBlock, Exit.then])
    refine bodyPost_ret (results_none rfl _ _ _) rfl ⟨rfl, _, .token HD.out, _, _, G3.out, K1.out.trans K3.out⟩
set_option maxHeartbeats 32000000 in
set_option maxRecDepth 100000 in
theorem skip_brace {bd of cap N p st : Nat} {y : Lx} (h : LexAt w b ae ao x (.slice (some ⟨bd, of, none⟩) N cap) vt ve vm) (hw : x.Wf) (hG : Gr b w) (hy : y = x.peek) (hdel : y.delim = 123) (hN : y.d.length = N) (hN2 : N ≤ 100000) (hp : y.pos = p) (hst : y.start = st)
    (hcp : cap ≠ p) (hcap : N ≤ cap) (hpn : p ≤ N) (hsp : st ≤ p) (hne : bd ≠ b) (hbl : bd < w.heap.size) (hcells : ∀ i, i < N → w.cell? ⟨bd, of + i, none⟩ = some (.int .u8 (y.d.getD i 0))) :
    Calls Tryz.prog 89 #[.pointer (some ⟨b, 0, none⟩)] w (SkipDone w b ae ao x (.slice (some ⟨bd, of, none⟩) N cap) vm) := by
  have H := Lib.hid h
  have HW := Lib.hid hw
  have HY := Lib.hid hy
  have HDE := Lib.hid hdel
  have HP := Lib.hid hp
  have HST := Lib.hid hst
  have HNN := Lib.hid hN
  have HGR := Lib.hid hG
  have HCE := Lib.hid hcells
  have hcp1 : ¬ cap = p := hcp
  have hcs : ¬ cap = st := by omega
  have hpi : (p : Int) ≤ (N : Int) := by omega
  have hpc : (p : Int) ≤ (cap : Int) := by omega
  clear h hw hy hdel hp hst hN hG hcells hcp
  go_enter Tryz.func89, Tryz.ntmps89
  go_wp2_with (first
    | (go_at_call 124; refine (scanToken_any H.out HW.out).mono ?_; rintro e w1 ⟨rfl, vt1, ve1, g1, g2⟩; rw [← HY.out] at g1; have d1 := g1.c1; rw [HST.out] at d1; have d7 := g1.c7; rw [HDE.out] at d7; have G1 := Lib.hid g1; have K1 := Lib.hid g2; clear g1 g2)
    | (go_at_call 104; refine (consume_any G1.out).mono ?_; rintro e w2 ⟨rfl, g3, g4⟩; have q0 := g3.c0; have q2 : w2.cell? ⟨b, 2, none⟩ = some (.int .i64 (p : Nat)) := (by rw [← HP.out]; exact g3.c2); have G3 := Lib.hid g3; have K3 := Lib.hid (K1.out.trans g4); have hblt := g3.lt; clear g3 g4))
  go_quiet (fail)
  have G4 := Lib.hid (G3.out.drewN nq)
  have K4 := Lib.hid (K3.out.drewN nq)
  have HC4 : Hid (∀ i, i < N → (w2.drewN nq).cell? ⟨bd, of + i, none⟩ = some (.int .u8 (y.d.getD i 0))) := fun i hi => K4.out.cell (HCE.out i hi) hne
  generalize w2.drewN nq = w4 at *
  go_wp2_with fail
  go_loop [5, 6, 7, 39] (fun a5 a6 a7 a39 => ∃ (lv : Nat) (q s : Bool) (k : Nat), a5 = .int .i64 lv ∧ a6 = .bool q ∧ a7 = .bool s ∧ a39 = .int .i64 k ∧ k ≤ N - p ∧ 1 ≤ lv ∧ lv ≤ k + 1 ∧ SkInv 123 125 y.d p lv q s k) (fun _ _ _ a39 => N - p - (intOf a39).toNat)
  case atStart => exact ⟨1, false, false, 0, rfl, rfl, rfl, rfl, Nat.zero_le _, Nat.le_refl _, Nat.le_refl _, SkInv.start _ _ _ _⟩
  case round =>
    obtain ⟨lv, q, s, k, rfl, rfl, rfl, rfl, hk, hlv0, hlv1, hS⟩ := hrel
    have HS := Lib.hid hS
    clear hS
    by_cases hlt : k < N - p
    case neg =>
      obtain rfl : k = N - p := by omega
      have HNONE : Hid (skipScan 123 125 (y.d.drop p) 1 false false = none) := by
        have h := HS.out
        unfold SkInv at h
        rw [show p + (N - p) = y.d.length from by rw [HNN.out]; omega, List.drop_length] at h
        exact h
      have q0 := G4.out.c0
      have q2 := G4.out.c2
      have f2 := G4.out.free 2
      go_wp2_with fail
      obtain ⟨w6, hw6⟩ : ∃ w6, w6 = w4.setCell ⟨b, 2, none⟩ (.int .i64 (N : Nat)) := ⟨_, rfl⟩
      have G6 : Hid (LexAt w6 b ae ao { y.consume with pos := N } (.slice (some ⟨bd, of, none⟩) N cap) vt1 ve1 vm) := by rw [hw6]; exact G4.out.setPos N
      have K6 : Hid (Kept b w w6) := by rw [hw6]; exact K4.out.setCell _ _
      rw [← hw6]
      clear hw6 q0 q2 f2
      have HBAD : Hid (SkipRel x.peek { y.consume with pos := N, err := .lex N }) := by have h := SkipRel.bad (y := y) (.inl HDE.out); rw [HNN.out] at h; rw [← HY.out]; exact h
      have d0 := G6.out.c0
      have d2 := G6.out.c2
      have d11 := G6.out.c11
      have f11 := G6.out.free 11
      have hlt8 := G6.out.lt
      have hcv := conv_empty
      rcases Classical.em (N = cap) with hcl | hcl0
      all_goals
        first | subst hcl | (have hcl : ¬ cap = N := fun e => hcl0 e.symm)
        go_region
        all_goals
          go_wp2_with fail
          all_goals
            first
              | go_end0
              | ((try simp only [Exit.inBlock, Exit.then]); refine bodyPost_ret (results_none rfl _ _ _) rfl ?_)
            first
              | exact ⟨rfl, _, HBAD.out, _, _, G6.out.newErr' _ _ _, (K6.out.setCell 11 _).alloc _⟩
              | exact ⟨rfl, _, HBAD.out, _, _, (G6.out.newErr' _ _ _).drew1, ((K6.out.setCell 11 _).alloc _).drew⟩
    case pos =>
      have hpk : p + k < y.d.length := by rw [HNN.out]; omega
      have q3 := HC4.out (p + k) (by omega)
      obtain ⟨c, hcc⟩ : ∃ c, y.d.getD (p + k) 0 = c := ⟨_, rfl⟩
      rw [hcc] at q3
      have HC := Lib.hid hcc
      rw [← Nat.add_assoc] at q3
      clear hcc
      cases q
      case false =>
        by_cases h1 : c = 123
        · subst h1
          go_wp2_with fail
          go_round
          case rel => exact ⟨lv + 1, false, false, k + 1, by go_num, rfl, rfl, by go_num, by omega, by omega, by omega, HS.out.next hpk (fun cs => by rw [HC.out]; simp [skipScan])⟩
          case measure => simp [intOf]; omega
        by_cases h2 : c = 125
        · subst h2
          by_cases h3 : lv = 1
          · subst h3
            have HDONE := Lib.hid (HS.out.done hpk (fun cs => by rw [HC.out]; simp [skipScan]))
            have q2 : w4.cell? ⟨b, 2, none⟩ = some (.int .i64 (p : Nat)) := by rw [← HP.out]; exact G4.out.c2
            have q0 := G4.out.c0
            have f2 := G4.out.free 2
            have q4 := hlt
            have hkk : ((p + (k + 1) : Nat) : Int) = (p : Int) + ((k : Int) + 1) := by omega
            have HKK := Lib.hid hkk
            clear hkk
            have g1 : (0 : Int) ≤ (p : Int) + ((k : Int) + 1) := by omega
            have g2 : (st : Int) ≤ (p : Int) + ((k : Int) + 1) := by omega
            have g3 : (p : Int) + ((k : Int) + 1) ≤ (cap : Int) := by omega
            go_wp2_with fail
            obtain ⟨w5, hw5⟩ : ∃ w5, w5 = w4.setCell ⟨b, 2, none⟩ (.int .i64 ((p : Int) + ((k : Int) + 1))) := ⟨_, rfl⟩
            have G5 : Hid (LexAt w5 b ae ao { y.consume with pos := p + (k + 1) } (.slice (some ⟨bd, of, none⟩) N cap) vt1 ve1 vm) := by rw [hw5, ← HKK.out]; exact G4.out.setPos (p + (k + 1))
            have K5 : Hid (Kept b w w5) := by rw [hw5]; exact K4.out.setCell _ _
            have HC5 : Hid (∀ i, i < N → w5.cell? ⟨bd, of + i, none⟩ = some (.int .u8 (y.d.getD i 0))) := fun i hi => K5.out.cell (HCE.out i hi) hne
            have HSH : Hid (SkipRel x.peek { y.consume with pos := p + (k + 1) }) := by
              have h := SkipRel.shut (y := y) (k + 1) (.inl HDE.out) (by rw [HDE.out, HP.out]; exact HDONE.out)
              rw [HP.out] at h; rw [← HY.out]; exact h
            rw [← hw5]
            clear hw5 q0 q2 f2
            have d0 := G5.out.c0
            have d2 : w5.cell? ⟨b, 2, none⟩ = some (.int .i64 ((p : Int) + ((k : Int) + 1))) := by rw [← HKK.out]; exact G5.out.c2
            have hbl5 : bd < w5.heap.size := Nat.lt_of_lt_of_le hbl K5.out.size
            have HT5 := Lib.hid (HGR.out.kept K5.out).tabs
            clear q3
            go_region_with (go_at_call 125; refine (valid_low (HT5.out.below (below_drewN _ _)) hbl5 (by omega) (fun i hi => ⟨_, by rw [Nat.add_assoc]; exact HC5.out (st + i) (by omega)⟩)).mono ?_; rintro e wv ⟨⟨t, rfl⟩, hb6⟩; have HB6 := Lib.hid hb6; clear hb6)
            all_goals
              have G7 := Lib.hid ((G5.out.drewN 1).belowNew HB6.out)
              have K7 := Lib.hid ((K5.out.drewN 1).trans (kept_below HB6.out b))
              have q0 := G7.out.c0
              have q2 := G7.out.c2
              have f2 := G7.out.free 2
              clear d0 d2
              cases t
              · go_wp2_with fail
                obtain ⟨w6, hw6⟩ : ∃ w6, w6 = wv.setCell ⟨b, 2, none⟩ (.int .i64 (N : Nat)) := ⟨_, rfl⟩
                have G6 : Hid (LexAt w6 b ae ao { y.consume with pos := N } (.slice (some ⟨bd, of, none⟩) N cap) vt1 ve1 vm) := by rw [hw6]; exact G7.out.setPos N
                have K6 : Hid (Kept b w w6) := by rw [hw6]; exact K7.out.setCell _ _
                rw [← hw6]
                clear hw6 q0 q2 f2
                have HBAD : Hid (SkipRel x.peek { y.consume with pos := N, err := .lex N }) := by have h := SkipRel.bad (y := y) (.inl HDE.out); rw [HNN.out] at h; rw [← HY.out]; exact h
                have d0 := G6.out.c0
                have d2 := G6.out.c2
                have d11 := G6.out.c11
                have f11 := G6.out.free 11
                have hlt8 := G6.out.lt
                have hcv := conv_empty
                rcases Classical.em (N = cap) with hcl | hcl0
                all_goals
                  first | subst hcl | (have hcl : ¬ cap = N := fun e => hcl0 e.symm)
                  go_region
                  all_goals
                    go_wp2_with fail
                    all_goals
                      first
                        | go_end0
                        | ((try simp only [Exit.inBlock, Exit.then]); refine bodyPost_ret (results_none rfl _ _ _) rfl ?_)
                      first
                        | exact ⟨rfl, _, HBAD.out, _, _, G6.out.newErr' _ _ _, (K6.out.setCell 11 _).alloc _⟩
                        | exact ⟨rfl, _, HBAD.out, _, _, (G6.out.newErr' _ _ _).drew1, ((K6.out.setCell 11 _).alloc _).drew⟩
              · go_wp2_with fail
                (try simp only [Exit.inBlock, Exit.then])
                exact bodyPost_ret (results_none rfl _ _ _) rfl ⟨rfl, _, HSH.out, _, _, G7.out, K7.out⟩
          · have h3' : ((lv : Int) - 1 == 0) = false := beq_eq_false_iff_ne.2 (by omega)
            go_wp2_with fail
            go_round
            case rel => exact ⟨lv - 1, false, false, k + 1, by go_num, rfl, rfl, by go_num, by omega, by omega, by omega, HS.out.next hpk (fun cs => by rw [HC.out]; have : (lv == 1) = false := beq_eq_false_iff_ne.2 h3; simp [skipScan, this])⟩
            case measure => simp [intOf]; omega
        have g1 : (c == 123) = false := beq_eq_false_iff_ne.2 h1
        have GG1 := Lib.hid h1
        have g2 : (c == 125) = false := beq_eq_false_iff_ne.2 h2
        have GG2 := Lib.hid h2
        by_cases h4 : c = 92
        · subst h4
          go_wp2_with fail
          go_round
          case rel => exact ⟨lv, false, false, k + 1, by go_num, rfl, rfl, by go_num, by omega, by omega, by omega, HS.out.next hpk (fun cs => by rw [HC.out]; simp [skipScan])⟩
          case measure => simp [intOf]; omega
        have g4 : (c == 92) = false := beq_eq_false_iff_ne.2 h4
        have GG4 := Lib.hid h4
        by_cases h5 : c = 34
        · subst h5
          go_wp2_with fail
          go_round
          case rel => exact ⟨lv, true, false, k + 1, by go_num, rfl, rfl, by go_num, by omega, by omega, by omega, HS.out.next hpk (fun cs => by rw [HC.out]; simp [skipScan])⟩
          case measure => simp [intOf]; omega
        have g5 : (c == 34) = false := beq_eq_false_iff_ne.2 h5
        have GG5 := Lib.hid h5
        clear h1 h2 h4 h5
        go_wp2_with fail
        go_round
        case rel => exact ⟨lv, false, false, k + 1, by go_num, rfl, rfl, by go_num, by omega, by omega, by omega, HS.out.next hpk (fun cs => by rw [HC.out]; have e1 := GG1.out; have e2 := GG2.out; have e4 := GG4.out; have e5 := GG5.out; simp [skipScan, e1, e2, e4, e5])⟩
        case measure => simp [intOf]; omega
      case true =>
        by_cases h4 : c = 92
        · subst h4
          go_wp2_with fail
          go_round
          case rel => exact ⟨lv, true, !s, k + 1, by go_num, rfl, rfl, by go_num, by omega, by omega, by omega, HS.out.next hpk (fun cs => by rw [HC.out]; simp [skipScan])⟩
          case measure => simp [intOf]; omega
        have g4 : (c == 92) = false := beq_eq_false_iff_ne.2 h4
        have GG4 := Lib.hid h4
        by_cases h5 : c = 34
        · subst h5
          go_wp2_with fail
          go_round
          case rel => exact ⟨lv, s, false, k + 1, by go_num, rfl, rfl, by go_num, by omega, by omega, by omega, HS.out.next hpk (fun cs => by rw [HC.out]; simp [skipScan])⟩
          case measure => simp [intOf]; omega
        have g5 : (c == 34) = false := beq_eq_false_iff_ne.2 h5
        have GG5 := Lib.hid h5
        by_cases h1 : c = 123
        · subst h1
          go_wp2_with fail
          go_round
          case rel => exact ⟨lv, true, false, k + 1, by go_num, rfl, rfl, by go_num, by omega, by omega, by omega, HS.out.next hpk (fun cs => by rw [HC.out]; simp [skipScan])⟩
          case measure => simp [intOf]; omega
        have g1 : (c == 123) = false := beq_eq_false_iff_ne.2 h1
        have GG1 := Lib.hid h1
        by_cases h2 : c = 125
        · subst h2
          go_wp2_with fail
          go_round
          case rel => exact ⟨lv, true, false, k + 1, by go_num, rfl, rfl, by go_num, by omega, by omega, by omega, HS.out.next hpk (fun cs => by rw [HC.out]; simp [skipScan])⟩
          case measure => simp [intOf]; omega
        have g2 : (c == 125) = false := beq_eq_false_iff_ne.2 h2
        have GG2 := Lib.hid h2
        clear h1 h2 h4 h5
        go_wp2_with fail
        go_round
        case rel => exact ⟨lv, true, false, k + 1, by go_num, rfl, rfl, by go_num, by omega, by omega, by omega, HS.out.next hpk (fun cs => by rw [HC.out]; have e1 := GG1.out; have e2 := GG2.out; have e4 := GG4.out; have e5 := GG5.out; simp [skipScan, e1, e2, e4, e5])⟩
        case measure => simp [intOf]; omega
set_option maxHeartbeats 32000000 in
set_option maxRecDepth 100000 in
theorem skip_bracket {bd of cap N p st : Nat} {y : Lx} (h : LexAt w b ae ao x (.slice (some ⟨bd, of, none⟩) N cap) vt ve vm) (hw : x.Wf) (hG : Gr b w) (hy : y = x.peek) (hdel : y.delim = 91) (hN : y.d.length = N) (hN2 : N ≤ 100000) (hp : y.pos = p) (hst : y.start = st)
    (hcp : cap ≠ p) (hcap : N ≤ cap) (hpn : p ≤ N) (hsp : st ≤ p) (hne : bd ≠ b) (hbl : bd < w.heap.size) (hcells : ∀ i, i < N → w.cell? ⟨bd, of + i, none⟩ = some (.int .u8 (y.d.getD i 0))) :
    Calls Tryz.prog 89 #[.pointer (some ⟨b, 0, none⟩)] w (SkipDone w b ae ao x (.slice (some ⟨bd, of, none⟩) N cap) vm) := by
  have H := Lib.hid h
  have HW := Lib.hid hw
  have HY := Lib.hid hy
  have HDE := Lib.hid hdel
  have HP := Lib.hid hp
  have HST := Lib.hid hst
  have HNN := Lib.hid hN
  have HGR := Lib.hid hG
  have HCE := Lib.hid hcells
  have hcp1 : ¬ cap = p := hcp
  have hcs : ¬ cap = st := by omega
  have hpi : (p : Int) ≤ (N : Int) := by omega
  have hpc : (p : Int) ≤ (cap : Int) := by omega
  clear h hw hy hdel hp hst hN hG hcells hcp
  go_enter Tryz.func89, Tryz.ntmps89
  go_wp2_with (first
    | (go_at_call 124; refine (scanToken_any H.out HW.out).mono ?_; rintro e w1 ⟨rfl, vt1, ve1, g1, g2⟩; rw [← HY.out] at g1; have d1 := g1.c1; rw [HST.out] at d1; have d7 := g1.c7; rw [HDE.out] at d7; have G1 := Lib.hid g1; have K1 := Lib.hid g2; clear g1 g2)
    | (go_at_call 104; refine (consume_any G1.out).mono ?_; rintro e w2 ⟨rfl, g3, g4⟩; have q0 := g3.c0; have q2 : w2.cell? ⟨b, 2, none⟩ = some (.int .i64 (p : Nat)) := (by rw [← HP.out]; exact g3.c2); have G3 := Lib.hid g3; have K3 := Lib.hid (K1.out.trans g4); have hblt := g3.lt; clear g3 g4))
  go_quiet (fail)
  have G4 := Lib.hid (G3.out.drewN nq)
  have K4 := Lib.hid (K3.out.drewN nq)
  have HC4 : Hid (∀ i, i < N → (w2.drewN nq).cell? ⟨bd, of + i, none⟩ = some (.int .u8 (y.d.getD i 0))) := fun i hi => K4.out.cell (HCE.out i hi) hne
  generalize w2.drewN nq = w4 at *
  go_wp2_with fail
  go_loop [5, 6, 7, 39] (fun a5 a6 a7 a39 => ∃ (lv : Nat) (q s : Bool) (k : Nat), a5 = .int .i64 lv ∧ a6 = .bool q ∧ a7 = .bool s ∧ a39 = .int .i64 k ∧ k ≤ N - p ∧ 1 ≤ lv ∧ lv ≤ k + 1 ∧ SkInv 91 93 y.d p lv q s k) (fun _ _ _ a39 => N - p - (intOf a39).toNat)
  case atStart => exact ⟨1, false, false, 0, rfl, rfl, rfl, rfl, Nat.zero_le _, Nat.le_refl _, Nat.le_refl _, SkInv.start _ _ _ _⟩
  case round =>
    obtain ⟨lv, q, s, k, rfl, rfl, rfl, rfl, hk, hlv0, hlv1, hS⟩ := hrel
    have HS := Lib.hid hS
    clear hS
    by_cases hlt : k < N - p
    case neg =>
      obtain rfl : k = N - p := by omega
      have HNONE : Hid (skipScan 91 93 (y.d.drop p) 1 false false = none) := by
        have h := HS.out
        unfold SkInv at h
        rw [show p + (N - p) = y.d.length from by rw [HNN.out]; omega, List.drop_length] at h
        exact h
      have q0 := G4.out.c0
      have q2 := G4.out.c2
      have f2 := G4.out.free 2
      go_wp2_with fail
      obtain ⟨w6, hw6⟩ : ∃ w6, w6 = w4.setCell ⟨b, 2, none⟩ (.int .i64 (N : Nat)) := ⟨_, rfl⟩
      have G6 : Hid (LexAt w6 b ae ao { y.consume with pos := N } (.slice (some ⟨bd, of, none⟩) N cap) vt1 ve1 vm) := by rw [hw6]; exact G4.out.setPos N
      have K6 : Hid (Kept b w w6) := by rw [hw6]; exact K4.out.setCell _ _
      rw [← hw6]
      clear hw6 q0 q2 f2
      have HBAD : Hid (SkipRel x.peek { y.consume with pos := N, err := .lex N }) := by have h := SkipRel.bad (y := y) (.inr HDE.out); rw [HNN.out] at h; rw [← HY.out]; exact h
      have d0 := G6.out.c0
      have d2 := G6.out.c2
      have d11 := G6.out.c11
      have f11 := G6.out.free 11
      have hlt8 := G6.out.lt
      have hcv := conv_empty
      rcases Classical.em (N = cap) with hcl | hcl0
      all_goals
        first | subst hcl | (have hcl : ¬ cap = N := fun e => hcl0 e.symm)
        go_region
        all_goals
          go_wp2_with fail
          all_goals
            first
              | go_end0
              | ((try simp only [Exit.inBlock, Exit.then]); refine bodyPost_ret (results_none rfl _ _ _) rfl ?_)
            first
              | exact ⟨rfl, _, HBAD.out, _, _, G6.out.newErr' _ _ _, (K6.out.setCell 11 _).alloc _⟩
              | exact ⟨rfl, _, HBAD.out, _, _, (G6.out.newErr' _ _ _).drew1, ((K6.out.setCell 11 _).alloc _).drew⟩
    case pos =>
      have hpk : p + k < y.d.length := by rw [HNN.out]; omega
      have q3 := HC4.out (p + k) (by omega)
      obtain ⟨c, hcc⟩ : ∃ c, y.d.getD (p + k) 0 = c := ⟨_, rfl⟩
      rw [hcc] at q3
      have HC := Lib.hid hcc
      rw [← Nat.add_assoc] at q3
      clear hcc
      cases q
      case false =>
        by_cases h1 : c = 91
        · subst h1
          go_wp2_with fail
          go_round
          case rel => exact ⟨lv + 1, false, false, k + 1, by go_num, rfl, rfl, by go_num, by omega, by omega, by omega, HS.out.next hpk (fun cs => by rw [HC.out]; simp [skipScan])⟩
          case measure => simp [intOf]; omega
        by_cases h2 : c = 93
        · subst h2
          by_cases h3 : lv = 1
          · subst h3
            have HDONE := Lib.hid (HS.out.done hpk (fun cs => by rw [HC.out]; simp [skipScan]))
            have q2 : w4.cell? ⟨b, 2, none⟩ = some (.int .i64 (p : Nat)) := by rw [← HP.out]; exact G4.out.c2
            have q0 := G4.out.c0
            have f2 := G4.out.free 2
            have q4 := hlt
            have hkk : ((p + (k + 1) : Nat) : Int) = (p : Int) + ((k : Int) + 1) := by omega
            have HKK := Lib.hid hkk
            clear hkk
            have g1 : (0 : Int) ≤ (p : Int) + ((k : Int) + 1) := by omega
            have g2 : (st : Int) ≤ (p : Int) + ((k : Int) + 1) := by omega
            have g3 : (p : Int) + ((k : Int) + 1) ≤ (cap : Int) := by omega
            go_wp2_with fail
            obtain ⟨w5, hw5⟩ : ∃ w5, w5 = w4.setCell ⟨b, 2, none⟩ (.int .i64 ((p : Int) + ((k : Int) + 1))) := ⟨_, rfl⟩
            have G5 : Hid (LexAt w5 b ae ao { y.consume with pos := p + (k + 1) } (.slice (some ⟨bd, of, none⟩) N cap) vt1 ve1 vm) := by rw [hw5, ← HKK.out]; exact G4.out.setPos (p + (k + 1))
            have K5 : Hid (Kept b w w5) := by rw [hw5]; exact K4.out.setCell _ _
            have HC5 : Hid (∀ i, i < N → w5.cell? ⟨bd, of + i, none⟩ = some (.int .u8 (y.d.getD i 0))) := fun i hi => K5.out.cell (HCE.out i hi) hne
            have HSH : Hid (SkipRel x.peek { y.consume with pos := p + (k + 1) }) := by
              have h := SkipRel.shut (y := y) (k + 1) (.inr HDE.out) (by rw [HDE.out, HP.out]; exact HDONE.out)
              rw [HP.out] at h; rw [← HY.out]; exact h
            rw [← hw5]
            clear hw5 q0 q2 f2
            have d0 := G5.out.c0
            have d2 : w5.cell? ⟨b, 2, none⟩ = some (.int .i64 ((p : Int) + ((k : Int) + 1))) := by rw [← HKK.out]; exact G5.out.c2
            have hbl5 : bd < w5.heap.size := Nat.lt_of_lt_of_le hbl K5.out.size
            have HT5 := Lib.hid (HGR.out.kept K5.out).tabs
            clear q3
            go_region_with (go_at_call 125; refine (valid_low (HT5.out.below (below_drewN _ _)) hbl5 (by omega) (fun i hi => ⟨_, by rw [Nat.add_assoc]; exact HC5.out (st + i) (by omega)⟩)).mono ?_; rintro e wv ⟨⟨t, rfl⟩, hb6⟩; have HB6 := Lib.hid hb6; clear hb6)
            all_goals
              have G7 := Lib.hid ((G5.out.drewN 1).belowNew HB6.out)
              have K7 := Lib.hid ((K5.out.drewN 1).trans (kept_below HB6.out b))
              have q0 := G7.out.c0
              have q2 := G7.out.c2
              have f2 := G7.out.free 2
              clear d0 d2
              cases t
              · go_wp2_with fail
                obtain ⟨w6, hw6⟩ : ∃ w6, w6 = wv.setCell ⟨b, 2, none⟩ (.int .i64 (N : Nat)) := ⟨_, rfl⟩
                have G6 : Hid (LexAt w6 b ae ao { y.consume with pos := N } (.slice (some ⟨bd, of, none⟩) N cap) vt1 ve1 vm) := by rw [hw6]; exact G7.out.setPos N
                have K6 : Hid (Kept b w w6) := by rw [hw6]; exact K7.out.setCell _ _
                rw [← hw6]
                clear hw6 q0 q2 f2
                have HBAD : Hid (SkipRel x.peek { y.consume with pos := N, err := .lex N }) := by have h := SkipRel.bad (y := y) (.inr HDE.out); rw [HNN.out] at h; rw [← HY.out]; exact h
                have d0 := G6.out.c0
                have d2 := G6.out.c2
                have d11 := G6.out.c11
                have f11 := G6.out.free 11
                have hlt8 := G6.out.lt
                have hcv := conv_empty
                rcases Classical.em (N = cap) with hcl | hcl0
                all_goals
                  first | subst hcl | (have hcl : ¬ cap = N := fun e => hcl0 e.symm)
                  go_region
                  all_goals
                    go_wp2_with fail
                    all_goals
                      first
                        | go_end0
                        | ((try simp only [Exit.inBlock, Exit.then]); refine bodyPost_ret (results_none rfl _ _ _) rfl ?_)
                      first
                        | exact ⟨rfl, _, HBAD.out, _, _, G6.out.newErr' _ _ _, (K6.out.setCell 11 _).alloc _⟩
                        | exact ⟨rfl, _, HBAD.out, _, _, (G6.out.newErr' _ _ _).drew1, ((K6.out.setCell 11 _).alloc _).drew⟩
              · go_wp2_with fail
                (try simp only [Exit.inBlock, Exit.then])
                exact bodyPost_ret (results_none rfl _ _ _) rfl ⟨rfl, _, HSH.out, _, _, G7.out, K7.out⟩
          · have h3' : ((lv : Int) - 1 == 0) = false := beq_eq_false_iff_ne.2 (by omega)
            go_wp2_with fail
            go_round
            case rel => exact ⟨lv - 1, false, false, k + 1, by go_num, rfl, rfl, by go_num, by omega, by omega, by omega, HS.out.next hpk (fun cs => by rw [HC.out]; have : (lv == 1) = false := beq_eq_false_iff_ne.2 h3; simp [skipScan, this])⟩
            case measure => simp [intOf]; omega
        have g1 : (c == 91) = false := beq_eq_false_iff_ne.2 h1
        have GG1 := Lib.hid h1
        have g2 : (c == 93) = false := beq_eq_false_iff_ne.2 h2
        have GG2 := Lib.hid h2
        by_cases h4 : c = 92
        · subst h4
          go_wp2_with fail
          go_round
          case rel => exact ⟨lv, false, false, k + 1, by go_num, rfl, rfl, by go_num, by omega, by omega, by omega, HS.out.next hpk (fun cs => by rw [HC.out]; simp [skipScan])⟩
          case measure => simp [intOf]; omega
        have g4 : (c == 92) = false := beq_eq_false_iff_ne.2 h4
        have GG4 := Lib.hid h4
        by_cases h5 : c = 34
        · subst h5
          go_wp2_with fail
          go_round
          case rel => exact ⟨lv, true, false, k + 1, by go_num, rfl, rfl, by go_num, by omega, by omega, by omega, HS.out.next hpk (fun cs => by rw [HC.out]; simp [skipScan])⟩
          case measure => simp [intOf]; omega
        have g5 : (c == 34) = false := beq_eq_false_iff_ne.2 h5
        have GG5 := Lib.hid h5
        clear h1 h2 h4 h5
        go_wp2_with fail
        go_round
        case rel => exact ⟨lv, false, false, k + 1, by go_num, rfl, rfl, by go_num, by omega, by omega, by omega, HS.out.next hpk (fun cs => by rw [HC.out]; have e1 := GG1.out; have e2 := GG2.out; have e4 := GG4.out; have e5 := GG5.out; simp [skipScan, e1, e2, e4, e5])⟩
        case measure => simp [intOf]; omega
      case true =>
        by_cases h4 : c = 92
        · subst h4
          go_wp2_with fail
          go_round
          case rel => exact ⟨lv, true, !s, k + 1, by go_num, rfl, rfl, by go_num, by omega, by omega, by omega, HS.out.next hpk (fun cs => by rw [HC.out]; simp [skipScan])⟩
          case measure => simp [intOf]; omega
        have g4 : (c == 92) = false := beq_eq_false_iff_ne.2 h4
        have GG4 := Lib.hid h4
        by_cases h5 : c = 34
        · subst h5
          go_wp2_with fail
          go_round
          case rel => exact ⟨lv, s, false, k + 1, by go_num, rfl, rfl, by go_num, by omega, by omega, by omega, HS.out.next hpk (fun cs => by rw [HC.out]; simp [skipScan])⟩
          case measure => simp [intOf]; omega
        have g5 : (c == 34) = false := beq_eq_false_iff_ne.2 h5
        have GG5 := Lib.hid h5
        by_cases h1 : c = 91
        · subst h1
          go_wp2_with fail
          go_round
          case rel => exact ⟨lv, true, false, k + 1, by go_num, rfl, rfl, by go_num, by omega, by omega, by omega, HS.out.next hpk (fun cs => by rw [HC.out]; simp [skipScan])⟩
          case measure => simp [intOf]; omega
        have g1 : (c == 91) = false := beq_eq_false_iff_ne.2 h1
        have GG1 := Lib.hid h1
        by_cases h2 : c = 93
        · subst h2
          go_wp2_with fail
          go_round
          case rel => exact ⟨lv, true, false, k + 1, by go_num, rfl, rfl, by go_num, by omega, by omega, by omega, HS.out.next hpk (fun cs => by rw [HC.out]; simp [skipScan])⟩
          case measure => simp [intOf]; omega
        have g2 : (c == 93) = false := beq_eq_false_iff_ne.2 h2
        have GG2 := Lib.hid h2
        clear h1 h2 h4 h5
        go_wp2_with fail
        go_round
        case rel => exact ⟨lv, true, false, k + 1, by go_num, rfl, rfl, by go_num, by omega, by omega, by omega, HS.out.next hpk (fun cs => by rw [HC.out]; have e1 := GG1.out; have e2 := GG2.out; have e4 := GG4.out; have e5 := GG5.out; simp [skipScan, e1, e2, e4, e5])⟩
        case measure => simp [intOf]; omega
set_option maxHeartbeats 16000000 in
set_option maxRecDepth 100000 in
theorem skip_cap123 {bd of N : Nat} {y : Lx} (h : LexAt w b ae ao x (.slice (some ⟨bd, of, none⟩) N N) vt ve vm) (hw : x.Wf) (hy : y = x.peek) (hdel : y.delim = 123) (hN : y.d.length = N) (hp : y.pos = N) (hN2 : N ≤ 100000) :
    Calls Tryz.prog 89 #[.pointer (some ⟨b, 0, none⟩)] w (SkipDone w b ae ao x (.slice (some ⟨bd, of, none⟩) N N) vm) := by
  have H := Lib.hid h
  have HW := Lib.hid hw
  have HY := Lib.hid hy
  have HDE := Lib.hid hdel
  have HP := Lib.hid hp
  have HNN := Lib.hid hN
  clear h hw hy hdel hp hN
  go_enter Tryz.func89, Tryz.ntmps89
  go_wp2_with (first
    | (go_at_call 124; refine (scanToken_any H.out HW.out).mono ?_; rintro e w1 ⟨rfl, vt1, ve1, g1, g2⟩; rw [← HY.out] at g1; have d1 := g1.c1; have d7 := g1.c7; rw [HDE.out] at d7; have G1 := Lib.hid g1; have K1 := Lib.hid g2; clear g1 g2)
    | (go_at_call 104; refine (consume_any G1.out).mono ?_; rintro e w2 ⟨rfl, g3, g4⟩; have q0 := g3.c0; have q2 : w2.cell? ⟨b, 2, none⟩ = some (.int .i64 (N : Nat)) := (by rw [← HP.out]; exact g3.c2); have G3 := Lib.hid g3; have K3 := Lib.hid (K1.out.trans g4); have hblt := g3.lt; clear g3 g4))
  go_quiet (fail)
  have G4 := Lib.hid (G3.out.drewN nq)
  have K4 := Lib.hid (K3.out.drewN nq)
  generalize w2.drewN nq = w4 at *
  go_wp2_with fail
  go_loop [39] (fun a39 => a39 = .int .i64 0) (fun _ => 0)
  case atStart => rfl
  case round =>
    subst hrel
    have q0 := G4.out.c0
    have q2 := G4.out.c2
    have f2 := G4.out.free 2
    go_wp2_with fail
    obtain ⟨w6, hw6⟩ : ∃ w6, w6 = w4.setCell ⟨b, 2, none⟩ (.int .i64 (N : Nat)) := ⟨_, rfl⟩
    have G6 : Hid (LexAt w6 b ae ao { y.consume with pos := N } (.slice (some ⟨bd, of, none⟩) N N) vt1 ve1 vm) := by rw [hw6]; exact G4.out.setPos N
    have K6 : Hid (Kept b w w6) := by rw [hw6]; exact K4.out.setCell _ _
    rw [← hw6]
    clear hw6 q0 q2 f2
    have HBAD : Hid (SkipRel x.peek { y.consume with pos := N, err := .lex N }) := by have h := SkipRel.bad (y := y) (.inl HDE.out); rw [HNN.out] at h; rw [← HY.out]; exact h
    have d0 := G6.out.c0
    have d2 : w6.cell? ⟨b, 2, none⟩ = some (.int .i64 (N : Nat)) := G6.out.c2
    have d11 := G6.out.c11
    have f11 := G6.out.free 11
    have hlt8 := G6.out.lt
    have hcv := conv_empty
    go_region
    all_goals
      go_wp2_with fail
      all_goals
        first
          | go_end0
          | ((try simp only [Exit.inBlock, Exit.then]); refine bodyPost_ret (results_none rfl _ _ _) rfl ?_)
        first
          | exact ⟨rfl, _, HBAD.out, _, _, G6.out.newErr' _ _ N, (K6.out.setCell 11 _).alloc _⟩
          | exact ⟨rfl, _, HBAD.out, _, _, (G6.out.newErr' _ _ N).drew1, ((K6.out.setCell 11 _).alloc _).drew⟩
set_option maxHeartbeats 16000000 in
set_option maxRecDepth 100000 in
theorem skip_cap91 {bd of N : Nat} {y : Lx} (h : LexAt w b ae ao x (.slice (some ⟨bd, of, none⟩) N N) vt ve vm) (hw : x.Wf) (hy : y = x.peek) (hdel : y.delim = 91) (hN : y.d.length = N) (hp : y.pos = N) (hN2 : N ≤ 100000) :
    Calls Tryz.prog 89 #[.pointer (some ⟨b, 0, none⟩)] w (SkipDone w b ae ao x (.slice (some ⟨bd, of, none⟩) N N) vm) := by
  have H := Lib.hid h
  have HW := Lib.hid hw
  have HY := Lib.hid hy
  have HDE := Lib.hid hdel
  have HP := Lib.hid hp
  have HNN := Lib.hid hN
  clear h hw hy hdel hp hN
  go_enter Tryz.func89, Tryz.ntmps89
  go_wp2_with (first
    | (go_at_call 124; refine (scanToken_any H.out HW.out).mono ?_; rintro e w1 ⟨rfl, vt1, ve1, g1, g2⟩; rw [← HY.out] at g1; have d1 := g1.c1; have d7 := g1.c7; rw [HDE.out] at d7; have G1 := Lib.hid g1; have K1 := Lib.hid g2; clear g1 g2)
    | (go_at_call 104; refine (consume_any G1.out).mono ?_; rintro e w2 ⟨rfl, g3, g4⟩; have q0 := g3.c0; have q2 : w2.cell? ⟨b, 2, none⟩ = some (.int .i64 (N : Nat)) := (by rw [← HP.out]; exact g3.c2); have G3 := Lib.hid g3; have K3 := Lib.hid (K1.out.trans g4); have hblt := g3.lt; clear g3 g4))
  go_quiet (fail)
  have G4 := Lib.hid (G3.out.drewN nq)
  have K4 := Lib.hid (K3.out.drewN nq)
  generalize w2.drewN nq = w4 at *
  go_wp2_with fail
  go_loop [39] (fun a39 => a39 = .int .i64 0) (fun _ => 0)
  case atStart => rfl
  case round =>
    subst hrel
    have q0 := G4.out.c0
    have q2 := G4.out.c2
    have f2 := G4.out.free 2
    go_wp2_with fail
    obtain ⟨w6, hw6⟩ : ∃ w6, w6 = w4.setCell ⟨b, 2, none⟩ (.int .i64 (N : Nat)) := ⟨_, rfl⟩
    have G6 : Hid (LexAt w6 b ae ao { y.consume with pos := N } (.slice (some ⟨bd, of, none⟩) N N) vt1 ve1 vm) := by rw [hw6]; exact G4.out.setPos N
    have K6 : Hid (Kept b w w6) := by rw [hw6]; exact K4.out.setCell _ _
    rw [← hw6]
    clear hw6 q0 q2 f2
    have HBAD : Hid (SkipRel x.peek { y.consume with pos := N, err := .lex N }) := by have h := SkipRel.bad (y := y) (.inr HDE.out); rw [HNN.out] at h; rw [← HY.out]; exact h
    have d0 := G6.out.c0
    have d2 : w6.cell? ⟨b, 2, none⟩ = some (.int .i64 (N : Nat)) := G6.out.c2
    have d11 := G6.out.c11
    have f11 := G6.out.free 11
    have hlt8 := G6.out.lt
    have hcv := conv_empty
    go_region
    all_goals
      go_wp2_with fail
      all_goals
        first
          | go_end0
          | ((try simp only [Exit.inBlock, Exit.then]); refine bodyPost_ret (results_none rfl _ _ _) rfl ?_)
        first
          | exact ⟨rfl, _, HBAD.out, _, _, G6.out.newErr' _ _ N, (K6.out.setCell 11 _).alloc _⟩
          | exact ⟨rfl, _, HBAD.out, _, _, (G6.out.newErr' _ _ N).drew1, ((K6.out.setCell 11 _).alloc _).drew⟩
set_option maxHeartbeats 16000000 in
set_option maxRecDepth 100000 in
theorem skip_nil123 {N : Nat} {y : Lx} (h : LexAt w b ae ao x (.slice none 0 0) vt ve vm) (hw : x.Wf) (hy : y = x.peek) (hdel : y.delim = 123) (hN : y.d.length = 0) (hp : y.pos = 0) (hN2 : N ≤ 100000) :
    Calls Tryz.prog 89 #[.pointer (some ⟨b, 0, none⟩)] w (SkipDone w b ae ao x (.slice none 0 0) vm) := by
  have H := Lib.hid h
  have HW := Lib.hid hw
  have HY := Lib.hid hy
  have HDE := Lib.hid hdel
  have HP := Lib.hid hp
  have HNN := Lib.hid hN
  clear h hw hy hdel hp hN
  go_enter Tryz.func89, Tryz.ntmps89
  go_wp2_with (first
    | (go_at_call 124; refine (scanToken_any H.out HW.out).mono ?_; rintro e w1 ⟨rfl, vt1, ve1, g1, g2⟩; rw [← HY.out] at g1; have d1 := g1.c1; have d7 := g1.c7; rw [HDE.out] at d7; have G1 := Lib.hid g1; have K1 := Lib.hid g2; clear g1 g2)
    | (go_at_call 104; refine (consume_any G1.out).mono ?_; rintro e w2 ⟨rfl, g3, g4⟩; have q0 := g3.c0; have q2 : w2.cell? ⟨b, 2, none⟩ = some (.int .i64 (0 : Nat)) := (by rw [← HP.out]; exact g3.c2); have G3 := Lib.hid g3; have K3 := Lib.hid (K1.out.trans g4); have hblt := g3.lt; clear g3 g4))
  go_quiet (fail)
  have G4 := Lib.hid (G3.out.drewN nq)
  have K4 := Lib.hid (K3.out.drewN nq)
  generalize w2.drewN nq = w4 at *
  go_wp2_with fail
  go_loop [39] (fun a39 => a39 = .int .i64 0) (fun _ => 0)
  case atStart => rfl
  case round =>
    subst hrel
    have q0 := G4.out.c0
    have q2 := G4.out.c2
    have f2 := G4.out.free 2
    go_wp2_with fail
    obtain ⟨w6, hw6⟩ : ∃ w6, w6 = w4.setCell ⟨b, 2, none⟩ (.int .i64 0) := ⟨_, rfl⟩
    have G6 : Hid (LexAt w6 b ae ao { y.consume with pos := 0 } (.slice none 0 0) vt1 ve1 vm) := by rw [hw6]; exact G4.out.setPos 0
    have K6 : Hid (Kept b w w6) := by rw [hw6]; exact K4.out.setCell _ _
    rw [← hw6]
    clear hw6 q0 q2 f2
    have HBAD : Hid (SkipRel x.peek { y.consume with pos := 0, err := .lex 0 }) := by have h := SkipRel.bad (y := y) (.inl HDE.out); rw [HNN.out] at h; rw [← HY.out]; exact h
    have d0 := G6.out.c0
    have d2 : w6.cell? ⟨b, 2, none⟩ = some (.int .i64 0) := G6.out.c2
    have d11 := G6.out.c11
    have f11 := G6.out.free 11
    have hlt8 := G6.out.lt
    have hcv := conv_nil
    go_region
    all_goals
      go_wp2_with fail
      all_goals
        first
          | go_end0
          | ((try simp only [Exit.inBlock, Exit.then]); refine bodyPost_ret (results_none rfl _ _ _) rfl ?_)
        first
          | exact ⟨rfl, _, HBAD.out, _, _, G6.out.newErr' _ _ 0, (K6.out.setCell 11 _).alloc _⟩
          | exact ⟨rfl, _, HBAD.out, _, _, (G6.out.newErr' _ _ 0).drew1, ((K6.out.setCell 11 _).alloc _).drew⟩
set_option maxHeartbeats 16000000 in
set_option maxRecDepth 100000 in
theorem skip_nil91 {N : Nat} {y : Lx} (h : LexAt w b ae ao x (.slice none 0 0) vt ve vm) (hw : x.Wf) (hy : y = x.peek) (hdel : y.delim = 91) (hN : y.d.length = 0) (hp : y.pos = 0) (hN2 : N ≤ 100000) :
    Calls Tryz.prog 89 #[.pointer (some ⟨b, 0, none⟩)] w (SkipDone w b ae ao x (.slice none 0 0) vm) := by
  have H := Lib.hid h
  have HW := Lib.hid hw
  have HY := Lib.hid hy
  have HDE := Lib.hid hdel
  have HP := Lib.hid hp
  have HNN := Lib.hid hN
  clear h hw hy hdel hp hN
  go_enter Tryz.func89, Tryz.ntmps89
  go_wp2_with (first
    | (go_at_call 124; refine (scanToken_any H.out HW.out).mono ?_; rintro e w1 ⟨rfl, vt1, ve1, g1, g2⟩; rw [← HY.out] at g1; have d1 := g1.c1; have d7 := g1.c7; rw [HDE.out] at d7; have G1 := Lib.hid g1; have K1 := Lib.hid g2; clear g1 g2)
    | (go_at_call 104; refine (consume_any G1.out).mono ?_; rintro e w2 ⟨rfl, g3, g4⟩; have q0 := g3.c0; have q2 : w2.cell? ⟨b, 2, none⟩ = some (.int .i64 (0 : Nat)) := (by rw [← HP.out]; exact g3.c2); have G3 := Lib.hid g3; have K3 := Lib.hid (K1.out.trans g4); have hblt := g3.lt; clear g3 g4))
  go_quiet (fail)
  have G4 := Lib.hid (G3.out.drewN nq)
  have K4 := Lib.hid (K3.out.drewN nq)
  generalize w2.drewN nq = w4 at *
  go_wp2_with fail
  go_loop [39] (fun a39 => a39 = .int .i64 0) (fun _ => 0)
  case atStart => rfl
  case round =>
    subst hrel
    have q0 := G4.out.c0
    have q2 := G4.out.c2
    have f2 := G4.out.free 2
    go_wp2_with fail
    obtain ⟨w6, hw6⟩ : ∃ w6, w6 = w4.setCell ⟨b, 2, none⟩ (.int .i64 0) := ⟨_, rfl⟩
    have G6 : Hid (LexAt w6 b ae ao { y.consume with pos := 0 } (.slice none 0 0) vt1 ve1 vm) := by rw [hw6]; exact G4.out.setPos 0
    have K6 : Hid (Kept b w w6) := by rw [hw6]; exact K4.out.setCell _ _
    rw [← hw6]
    clear hw6 q0 q2 f2
    have HBAD : Hid (SkipRel x.peek { y.consume with pos := 0, err := .lex 0 }) := by have h := SkipRel.bad (y := y) (.inr HDE.out); rw [HNN.out] at h; rw [← HY.out]; exact h
    have d0 := G6.out.c0
    have d2 : w6.cell? ⟨b, 2, none⟩ = some (.int .i64 0) := G6.out.c2
    have d11 := G6.out.c11
    have f11 := G6.out.free 11
    have hlt8 := G6.out.lt
    have hcv := conv_nil
    go_region
    all_goals
      go_wp2_with fail
      all_goals
        first
          | go_end0
          | ((try simp only [Exit.inBlock, Exit.then]); refine bodyPost_ret (results_none rfl _ _ _) rfl ?_)
        first
          | exact ⟨rfl, _, HBAD.out, _, _, G6.out.newErr' _ _ 0, (K6.out.setCell 11 _).alloc _⟩
          | exact ⟨rfl, _, HBAD.out, _, _, (G6.out.newErr' _ _ 0).drew1, ((K6.out.setCell 11 _).alloc _).drew⟩
theorem skip_any (h : LexAt w b ae ao x vd vt ve vm) (hw : x.Wf) (hG : Gr b w) (hl : x.d.length ≤ 100000) :
    Calls Tryz.prog 89 #[.pointer (some ⟨b, 0, none⟩)] w (SkipDone w b ae ao x vd vm) := by
  have hyd : x.peek.d = x.d := peek_same.d
  have hyw := peek_wf hw
  by_cases hd : x.peek.delim = 123 ∨ x.peek.delim = 91
  case neg => exact skip_token h hw ⟨fun e => hd (.inl e), fun e => hd (.inr e)⟩
  case pos =>
    have hpl := hyw.pos
    have hsp := hyw.start
    rw [hyd] at hpl
    rcases h.data with ⟨h0, rfl⟩ | ⟨bd, o, cap, rfl, hc, hne, hx⟩
    · have hl0 : x.d.length = 0 := by rw [h0]; rfl
      rcases hd with hd | hd
      · exact skip_nil123 (N := 0) h hw rfl hd (by rw [hyd]; exact hl0) (by omega) (by decide)
      · exact skip_nil91 (N := 0) h hw rfl hd (by rw [hyd]; exact hl0) (by omega) (by decide)
    · by_cases hcp : cap = x.peek.pos
      · obtain rfl : cap = x.d.length := by omega
        rcases hd with hd | hd
        · exact skip_cap123 h hw rfl hd (by rw [hyd]) hcp.symm hl
        · exact skip_cap91 h hw rfl hd (by rw [hyd]) hcp.symm hl
      · rcases hd with hd | hd
        · exact skip_brace h hw hG rfl hd (by rw [hyd]) hl rfl rfl hcp hc hpl hsp (fun e => hne.1 (.inl e)) hne.2 (by rw [hyd]; exact hx)
        · exact skip_bracket h hw hG rfl hd (by rw [hyd]) hl rfl rfl hcp hc hpl hsp (fun e => hne.1 (.inl e)) hne.2 (by rw [hyd]; exact hx)
end
end Go.Proofs.YtaecbclonmhbcaaGreatDoor
