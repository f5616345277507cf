/- fetchNumber. Printed by gen_num.py. -/
import Derived.Test.YtaecbclonmhbcaaGreatDoorR01
import Derived.StillTailTactics
set_option linter.unusedVariables false
set_option linter.unusedSimpArgs false
namespace Go.Proofs.YtaecbclonmhbcaaGreatDoor
open Go.RowKit
def NumInv (r : List Int) (k : Nat) (e a t : Bool) : Prop :=
  k ≤ r.length ∧ numScan r false false false = ((numScan (r.drop k) e a t).1 + k, (numScan (r.drop k) e a t).2)
theorem NumInv.start (r : List Int) : NumInv r 0 false false false := ⟨Nat.zero_le _, rfl⟩
section
variable {r : List Int} {k : Nat} {e a t : Bool}
theorem NumInv.dig (h : NumInv r k e a t) (hk : k < r.length) (hd : isDig (r.getD k 0) = true) : NumInv r (k + 1) e false t := by
  obtain ⟨_, h2⟩ := h
  refine ⟨hk, ?_⟩
  rw [h2, drop_cons_getD r k hk]
  simp only [numScan, hd, if_true, Prod.mk.injEq, and_true]
  omega
theorem NumInv.dot (h : NumInv r k e a false) (hk : k < r.length) (hd : r.getD k 0 = 46) : NumInv r (k + 1) e a true := by
  obtain ⟨_, h2⟩ := h
  refine ⟨hk, ?_⟩
  rw [h2, drop_cons_getD r k hk, hd]
  simp only [numScan, show isDig 46 = false from rfl, Bool.false_eq_true, if_false, beq_self_eq_true, Bool.not_false, Bool.and_self, if_true, Prod.mk.injEq, and_true]
  omega
theorem NumInv.exp (h : NumInv r k false a t) (hk : k < r.length) (hd : r.getD k 0 = 101 ∨ r.getD k 0 = 69) : NumInv r (k + 1) true true true := by
  obtain ⟨_, h2⟩ := h
  refine ⟨hk, ?_⟩
  rw [h2, drop_cons_getD r k hk]
  rcases hd with hd | hd <;> rw [hd] <;> simp [numScan, isDig] <;> omega
theorem NumInv.sgn (h : NumInv r k e true t) (hk : k < r.length) (hd : r.getD k 0 = 43 ∨ r.getD k 0 = 45) : NumInv r (k + 1) e false t := by
  obtain ⟨_, h2⟩ := h
  refine ⟨hk, ?_⟩
  rw [h2, drop_cons_getD r k hk]
  rcases hd with hd | hd <;> rw [hd] <;> simp [numScan, isDig] <;> omega
theorem NumInv.all (h : NumInv r r.length e a t) : numScan r false false false = (r.length, none) := by
  rw [h.2]; simp [numScan]
theorem NumInv.stop (h : NumInv r k e a t) (hk : k < r.length) (h1 : isDig (r.getD k 0) = false) (h2 : (r.getD k 0 == 46 && !t) = false)
    (h3 : ((r.getD k 0 == 101 || r.getD k 0 == 69) && !e) = false) (h4 : ((r.getD k 0 == 43 || r.getD k 0 == 45) && a) = false) :
    numScan r false false false = (k, some (r.getD k 0)) := by
  rw [h.2, drop_cons_getD r k hk]
  simp only [numScan, h1, h2, h3, h4, Bool.false_eq_true, if_false, Nat.zero_add]
end
section
variable {w : World} {b : Nat} {ae : Sur} {ao : Addr} {x : Lx} {vd vt ve vm : Value}
def numStop (x : Lx) (n : Nat) (c : Int) : Lx :=
  if isEndB c then { x with pos := x.pos + 1 + n, tok := (x.d.drop x.start).take (x.pos + 1 + n - x.start) } else { x with pos := x.pos + 1 + n }.fail
theorem fetchNumber_stop {n : Nat} {c : Int} (h : numScan (x.d.drop (x.pos + 1)) false false false = (n, some c)) : x.fetchNumber = numStop x n c := by
  unfold Lx.fetchNumber numStop; rw [h]
theorem fetchNumber_all {n : Nat} (h : numScan (x.d.drop (x.pos + 1)) false false false = (n, none)) : x.fetchNumber = { x with pos := x.d.length, tok := x.d.drop x.start } := by
  unfold Lx.fetchNumber; rw [h]
theorem LexAt.part {o cap bd : Nat} (h : LexAt w b ae ao x (.slice (some ⟨bd, o, none⟩) x.d.length cap) vt ve vm) (_hne : bd ≠ b) (i n c : Nat) (hi : i + n ≤ x.d.length) (hc : n ≤ c) :
    BytesAt w (ae.off b) (.slice (some ⟨bd, o + i, none⟩) n c) ((x.d.drop i).take n) := by
  have hl : ((x.d.drop i).take n).length = n := by simp; omega
  rcases h.data with ⟨-, hv⟩ | ⟨b', o', cap', hv, -, hnb, hx⟩
  · simp at hv
  · simp only [Value.slice.injEq, Option.some.injEq, Addr.mk.injEq, and_true] at hv
    obtain ⟨⟨rfl, rfl⟩, -, -⟩ := hv
    refine .inr ⟨bd, o + i, c, by rw [hl], by omega, hnb, fun j hj => ?_⟩
    rw [hl] at hj
    have := hx (i + j) (by omega)
    rw [← Nat.add_assoc] at this
    rw [this]
    simp [List.getD, hj]
theorem LexAt.rest {o cap bd : Nat} (h : LexAt w b ae ao x (.slice (some ⟨bd, o, none⟩) x.d.length cap) vt ve vm) (hne : bd ≠ b) (i c : Nat) (hi : i ≤ x.d.length) (hc : x.d.length - i ≤ c) :
    BytesAt w (ae.off b) (.slice (some ⟨bd, o + i, none⟩) (x.d.length - i) c) (x.d.drop i) := by
  have := h.part hne i (x.d.length - i) c (by omega) hc
  rwa [List.take_of_length_le (by simp)] at this
def NumDone (w : World) (b : Nat) (ae : Sur) (ao : Addr) (x : Lx) (vd vm : Value) (w' : World) : Prop := ∃ vt' ve', LexAt w' b ae ao x vd vt' ve' vm ∧ Kept b w w'
set_option maxHeartbeats 2000000 in
theorem fetchNumber_last (h : LexAt w b ae ao x vd vt ve vm) (hw : x.Wf) (hp : x.pos + 1 = x.d.length) (hcap1 : ∀ a n cap, vd = .slice a n cap → cap = x.pos + 1) :
    Calls Tryz.prog 120 #[.pointer (some ⟨b, 0, none⟩)] w fun e w' => e = .returned (.tuple #[]) ∧ NumDone w b ae ao x.fetchNumber vd vm w' := by
  rw [fetchNumber_all (n := 0) (by rw [hp]; simp [numScan])]
  obtain ⟨bd, o, cap, rfl, hcap, hne, hx⟩ := h.bytes (by omega)
  have hne' : b ≠ bd := Ne.symm hne
  have c0 := h.c0
  have c1 := h.c1
  have c2 := h.c2
  have c6 := h.c6
  have f2 := h.free 2
  have f6 := h.free 6
  have hl := hw.len
  have hst := hw.start
  have s1 : IntKind.i64.wrap ((x.pos : Int) + 1) = (x.pos : Int) + 1 := IntWalk.i64_in _ (by omega)
  have t1 : ((x.pos : Int) + 1).toNat = x.pos + 1 := by omega
  have p1 : (0 : Int) ≤ (x.pos : Int) + 1 := by omega
  have q1 : (x.pos : Int) + 1 ≤ (x.d.length : Int) := by omega
  have cs : ¬ cap = x.start := by omega
  have sl : x.start ≤ x.d.length := by omega
  have hcp : cap = x.pos + 1 := hcap1 _ _ _ rfl
  have HP := Lib.hid hp
  have hlt0 : decide ((0 : Int) < ((x.d.length - (x.pos + 1) : Nat) : Int)) = false := by simp; omega
  have hlt1 : ¬ 0 < x.d.length - (x.pos + 1) := by omega
  have H := Lib.hid h
  have HC := Lib.hid hcp
  have hcp1 : cap ≤ x.pos + 1 := by omega
  have hcp2 : x.pos + 1 ≤ cap := by omega
  clear h hx hp hcp hcap1
  go_enter Tryz.func120, Tryz.ntmps120
  go_wp2
  go_quiet (fail)
  go_wp2
  go_loop [24] (fun i => i = .int .i64 0) (fun _ => 0)
  case atStart => rfl
  case round =>
    subst hrel
    go_wp2
    go_region
    go_end0
    have hk := (((((Kept.refl b w).setCell 2 (.int .i64 ((x.pos : Int) + 1))).drewN nq).setCell 2 (.int .i64 x.d.length)).drewN 1).setCell 6 (.slice (some ⟨bd, o + x.start, none⟩) (x.d.length - x.start) (cap - x.start))
    exact ⟨rfl, _, _, ((((H.out.setPos (x.pos + 1)).drewN nq).setPos x.d.length).drewN 1).setTok _ (x.d.drop x.start) ((H.out.rest hne x.start _ sl (by omega)).kept hk), hk⟩
set_option maxHeartbeats 8000000 in
set_option maxRecDepth 100000 in
theorem fetchNumber_more (h : LexAt w b ae ao x vd vt ve vm) (hw : x.Wf) (hp : x.pos < x.d.length) (hcap1 : ∀ a n cap, vd = .slice a n cap → cap ≠ x.pos + 1) :
    Calls Tryz.prog 120 #[.pointer (some ⟨b, 0, none⟩)] w fun e w' => e = .returned (.tuple #[]) ∧ NumDone w b ae ao x.fetchNumber vd vm w' := by
  obtain ⟨bd, o, cap, rfl, hcap, hne, hx⟩ := h.bytes (by omega)
  have hne' : b ≠ bd := Ne.symm hne
  have c0 := h.c0
  have c1 := h.c1
  have c2 := h.c2
  have c6 := h.c6
  have f2 := h.free 2
  have f6 := h.free 6
  have hl := hw.len
  have hst := hw.start
  have s1 : IntKind.i64.wrap ((x.pos : Int) + 1) = (x.pos : Int) + 1 := IntWalk.i64_in _ (by omega)
  have t1 : ((x.pos : Int) + 1).toNat = x.pos + 1 := by omega
  have p1 : (0 : Int) ≤ (x.pos : Int) + 1 := by omega
  have q1 : (x.pos : Int) + 1 ≤ (x.d.length : Int) := by omega
  have cs : ¬ cap = x.start := by omega
  have sl : x.start ≤ x.d.length := by omega
  have hcp : ¬ cap = x.pos + 1 := hcap1 _ _ _ rfl
  have hrl : (x.d.drop (x.pos + 1)).length = x.d.length - (x.pos + 1) := by simp
  have HR := Lib.hid hrl
  have HX := Lib.hid hx
  have H := Lib.hid h
  clear h hx hcap1 hrl
  go_enter Tryz.func120, Tryz.ntmps120
  go_wp2
  go_quiet (fail)
  go_wp2
  go_loop [2, 3, 4, 24] (fun e a t i => ∃ (k : Nat) (e' a' t' : Bool), e = .bool e' ∧ a = .bool a' ∧ t = .bool t' ∧ i = .int .i64 k ∧ NumInv (x.d.drop (x.pos + 1)) k e' a' t')
    (fun _ _ _ i => (x.d.length - (x.pos + 1)) - (intOf i).toNat)
  case atStart => exact ⟨0, false, false, false, rfl, rfl, rfl, rfl, NumInv.start _⟩
  case round =>
    obtain ⟨k, e, a, t, rfl, rfl, rfl, rfl, inv⟩ := hrel
    have HI := Lib.hid inv
    have hki : k ≤ x.d.length - (x.pos + 1) := by rw [← HR.out]; exact inv.1
    clear inv
    by_cases hk : k < x.d.length - (x.pos + 1)
    case neg =>
      have HF : RowKit.Hid (x.fetchNumber = { x with pos := x.d.length, tok := x.d.drop x.start }) := by
        have hk0 : k = (x.d.drop (x.pos + 1)).length := by rw [HR.out]; omega
        have inv := HI.out
        rw [hk0] at inv
        exact fetchNumber_all inv.all
      go_wp2
      go_region
      go_end0
      rw [HF.out]
      have hk := (((((Kept.refl b w).setCell 2 (.int .i64 ((x.pos : Int) + 1))).drewN nq).setCell 2 (.int .i64 x.d.length)).drewN 1).setCell 6 (.slice (some ⟨bd, o + x.start, none⟩) (x.d.length - x.start) (cap - x.start))
      exact ⟨rfl, _, _, ((((H.out.setPos (x.pos + 1)).drewN nq).setPos x.d.length).drewN 1).setTok _ (x.d.drop x.start) ((H.out.rest hne x.start _ sl (by omega)).kept hk), hk⟩
    case pos =>
      have hkr : k < (x.d.drop (x.pos + 1)).length := by rw [HR.out]; exact hk
      have hu := HX.out (x.pos + 1 + k) (by omega)
      rw [show o + (x.pos + 1 + k) = o + (x.pos + 1) + k from by omega] at hu
      have hcr : (x.d.drop (x.pos + 1)).getD k 0 = x.d.getD (x.pos + 1 + k) 0 := getD_drop _ _ _
      generalize x.d.getD (x.pos + 1 + k) 0 = c at hu hcr
      have HC := Lib.hid hcr
      have HK := Lib.hid hkr
      clear hcr hkr
      have tk : ((x.pos : Int) + 1 + k).toNat = x.pos + 1 + k := by omega
      have b1 : (x.start : Int) ≤ (x.pos : Int) + 1 + k := by omega
      have b2 : (x.pos : Int) + 1 + k ≤ (cap : Int) := by omega
      have b3 : (0 : Int) ≤ (x.pos : Int) + 1 + k := by omega
      by_cases k0 : c = 46
      · subst k0
        cases t with
        | false =>
          go_wp2
          go_round
          case rel => exact ⟨k + 1, e, a, true, rfl, rfl, rfl, by go_num, HI.out.dot HK.out HC.out⟩
          case measure => simp [intOf]; omega
        | true =>
          have ee : isEndB 46 = false := rfl
          have HS := Lib.hid (HI.out.stop HK.out (by rw [HC.out]; rfl) (by rw [HC.out]; rfl) (by rw [HC.out]; rfl) (by rw [HC.out]; rfl))
          go_wp2_with (first | (go_at_call 145; refine (isEnd_any _ _).mono ?_; rintro e w' ⟨rfl, rfl⟩) | (go_at_call 118; refine (errSyntax_any (x := { x with pos := x.pos + 1 + k }) (ae := ae) (ao := ao) (vd := .slice (some ⟨bd, o, none⟩) x.d.length cap) (vt := vt) (ve := ve) (vm := vm) (((H.out.setPos (x.pos + 1)).drewN nq).setPos (x.pos + 1 + k)) ⟨hw.len, by show x.pos + 1 + k ≤ x.d.length; omega, by show x.start ≤ x.pos + 1 + k; omega, hw.byte⟩).mono ?_; rintro e w' ⟨rfl, hf⟩))
          (try simp only [Exit.inBlock, Exit.then]); refine bodyPost_ret (results_none rfl _ _ _) rfl ?_
          have hs := HS.out
          rw [HC.out] at hs
          rw [fetchNumber_stop hs]
          unfold numStop
          rw [if_neg (by rw [ee]; simp)]
          obtain ⟨ve', g1, g2⟩ := hf
          exact ⟨rfl, _, ve', g1, ((((Kept.refl b w).setCell 2 _).drewN _).setCell 2 _).trans g2⟩
      by_cases k1 : c = 101
      · subst k1
        cases e with
        | false =>
          go_wp2
          go_round
          case rel => exact ⟨k + 1, true, true, true, rfl, rfl, rfl, by go_num, HI.out.exp HK.out (.inl HC.out)⟩
          case measure => simp [intOf]; omega
        | true =>
          have ee : isEndB 101 = false := rfl
          have HS := Lib.hid (HI.out.stop HK.out (by rw [HC.out]; rfl) (by rw [HC.out]; rfl) (by rw [HC.out]; rfl) (by rw [HC.out]; rfl))
          go_wp2_with (first | (go_at_call 145; refine (isEnd_any _ _).mono ?_; rintro e w' ⟨rfl, rfl⟩) | (go_at_call 118; refine (errSyntax_any (x := { x with pos := x.pos + 1 + k }) (ae := ae) (ao := ao) (vd := .slice (some ⟨bd, o, none⟩) x.d.length cap) (vt := vt) (ve := ve) (vm := vm) (((H.out.setPos (x.pos + 1)).drewN nq).setPos (x.pos + 1 + k)) ⟨hw.len, by show x.pos + 1 + k ≤ x.d.length; omega, by show x.start ≤ x.pos + 1 + k; omega, hw.byte⟩).mono ?_; rintro e w' ⟨rfl, hf⟩))
          (try simp only [Exit.inBlock, Exit.then]); refine bodyPost_ret (results_none rfl _ _ _) rfl ?_
          have hs := HS.out
          rw [HC.out] at hs
          rw [fetchNumber_stop hs]
          unfold numStop
          rw [if_neg (by rw [ee]; simp)]
          obtain ⟨ve', g1, g2⟩ := hf
          exact ⟨rfl, _, ve', g1, ((((Kept.refl b w).setCell 2 _).drewN _).setCell 2 _).trans g2⟩
      by_cases k2 : c = 69
      · subst k2
        cases e with
        | false =>
          go_wp2
          go_round
          case rel => exact ⟨k + 1, true, true, true, rfl, rfl, rfl, by go_num, HI.out.exp HK.out (.inr HC.out)⟩
          case measure => simp [intOf]; omega
        | true =>
          have ee : isEndB 69 = false := rfl
          have HS := Lib.hid (HI.out.stop HK.out (by rw [HC.out]; rfl) (by rw [HC.out]; rfl) (by rw [HC.out]; rfl) (by rw [HC.out]; rfl))
          go_wp2_with (first | (go_at_call 145; refine (isEnd_any _ _).mono ?_; rintro e w' ⟨rfl, rfl⟩) | (go_at_call 118; refine (errSyntax_any (x := { x with pos := x.pos + 1 + k }) (ae := ae) (ao := ao) (vd := .slice (some ⟨bd, o, none⟩) x.d.length cap) (vt := vt) (ve := ve) (vm := vm) (((H.out.setPos (x.pos + 1)).drewN nq).setPos (x.pos + 1 + k)) ⟨hw.len, by show x.pos + 1 + k ≤ x.d.length; omega, by show x.start ≤ x.pos + 1 + k; omega, hw.byte⟩).mono ?_; rintro e w' ⟨rfl, hf⟩))
          (try simp only [Exit.inBlock, Exit.then]); refine bodyPost_ret (results_none rfl _ _ _) rfl ?_
          have hs := HS.out
          rw [HC.out] at hs
          rw [fetchNumber_stop hs]
          unfold numStop
          rw [if_neg (by rw [ee]; simp)]
          obtain ⟨ve', g1, g2⟩ := hf
          exact ⟨rfl, _, ve', g1, ((((Kept.refl b w).setCell 2 _).drewN _).setCell 2 _).trans g2⟩
      by_cases k3 : c = 43
      · subst k3
        cases a with
        | true =>
          go_wp2
          go_round
          case rel => exact ⟨k + 1, e, false, t, rfl, rfl, rfl, by go_num, HI.out.sgn HK.out (.inl HC.out)⟩
          case measure => simp [intOf]; omega
        | false =>
          have ee : isEndB 43 = false := rfl
          have HS := Lib.hid (HI.out.stop HK.out (by rw [HC.out]; rfl) (by rw [HC.out]; rfl) (by rw [HC.out]; rfl) (by rw [HC.out]; rfl))
          go_wp2_with (first | (go_at_call 145; refine (isEnd_any _ _).mono ?_; rintro e w' ⟨rfl, rfl⟩) | (go_at_call 118; refine (errSyntax_any (x := { x with pos := x.pos + 1 + k }) (ae := ae) (ao := ao) (vd := .slice (some ⟨bd, o, none⟩) x.d.length cap) (vt := vt) (ve := ve) (vm := vm) (((H.out.setPos (x.pos + 1)).drewN nq).setPos (x.pos + 1 + k)) ⟨hw.len, by show x.pos + 1 + k ≤ x.d.length; omega, by show x.start ≤ x.pos + 1 + k; omega, hw.byte⟩).mono ?_; rintro e w' ⟨rfl, hf⟩))
          (try simp only [Exit.inBlock, Exit.then]); refine bodyPost_ret (results_none rfl _ _ _) rfl ?_
          have hs := HS.out
          rw [HC.out] at hs
          rw [fetchNumber_stop hs]
          unfold numStop
          rw [if_neg (by rw [ee]; simp)]
          obtain ⟨ve', g1, g2⟩ := hf
          exact ⟨rfl, _, ve', g1, ((((Kept.refl b w).setCell 2 _).drewN _).setCell 2 _).trans g2⟩
      by_cases k4 : c = 45
      · subst k4
        cases a with
        | true =>
          go_wp2
          go_round
          case rel => exact ⟨k + 1, e, false, t, rfl, rfl, rfl, by go_num, HI.out.sgn HK.out (.inr HC.out)⟩
          case measure => simp [intOf]; omega
        | false =>
          have ee : isEndB 45 = false := rfl
          have HS := Lib.hid (HI.out.stop HK.out (by rw [HC.out]; rfl) (by rw [HC.out]; rfl) (by rw [HC.out]; rfl) (by rw [HC.out]; rfl))
          go_wp2_with (first | (go_at_call 145; refine (isEnd_any _ _).mono ?_; rintro e w' ⟨rfl, rfl⟩) | (go_at_call 118; refine (errSyntax_any (x := { x with pos := x.pos + 1 + k }) (ae := ae) (ao := ao) (vd := .slice (some ⟨bd, o, none⟩) x.d.length cap) (vt := vt) (ve := ve) (vm := vm) (((H.out.setPos (x.pos + 1)).drewN nq).setPos (x.pos + 1 + k)) ⟨hw.len, by show x.pos + 1 + k ≤ x.d.length; omega, by show x.start ≤ x.pos + 1 + k; omega, hw.byte⟩).mono ?_; rintro e w' ⟨rfl, hf⟩))
          (try simp only [Exit.inBlock, Exit.then]); refine bodyPost_ret (results_none rfl _ _ _) rfl ?_
          have hs := HS.out
          rw [HC.out] at hs
          rw [fetchNumber_stop hs]
          unfold numStop
          rw [if_neg (by rw [ee]; simp)]
          obtain ⟨ve', g1, g2⟩ := hf
          exact ⟨rfl, _, ve', g1, ((((Kept.refl b w).setCell 2 _).drewN _).setCell 2 _).trans g2⟩
      have j1 : (c == 46) = false := by simp [k0]
      have j2 : (c == 101) = false := by simp [k1]
      have j3 : (c == 69) = false := by simp [k2]
      have j4 : (c == 43) = false := by simp [k3]
      have j5 : (c == 45) = false := by simp [k4]
      by_cases kd : 48 ≤ c
      · by_cases ke : c ≤ 57
        · have d1 : decide (48 ≤ c) = true := by simp [kd]
          have d2 : decide (c ≤ 57) = true := by simp [ke]
          go_wp2
          go_round
          case rel => exact ⟨k + 1, e, false, t, rfl, rfl, rfl, by go_num, HI.out.dig HK.out (by rw [HC.out]; simp [isDig, kd, ke])⟩
          case measure => simp [intOf]; omega
        · have d1 : decide (48 ≤ c) = true := by simp [kd]
          have d2 : decide (c ≤ 57) = false := by simp; omega
          cases ee : isEndB c with
          | true =>
            have HS := Lib.hid (HI.out.stop HK.out (by rw [HC.out]; simp [isDig]; omega) (by rw [HC.out]; simp [k0]) (by rw [HC.out]; simp [k1, k2]) (by rw [HC.out]; simp [k3, k4]))
            go_wp2_with (go_at_call 145; refine (isEnd_any _ _).mono ?_; rintro e w' ⟨rfl, rfl⟩)
            go_region
            go_wp2
            (try simp only [Exit.inBlock, Exit.then]); refine bodyPost_ret (results_none rfl _ _ _) rfl ?_
            have hs := HS.out
            rw [HC.out] at hs
            rw [fetchNumber_stop hs]
            unfold numStop
            rw [if_pos ee]
            have hk := (((((Kept.refl b w).setCell 2 (.int .i64 ((x.pos : Int) + 1))).drewN nq).setCell 2 (.int .i64 ((x.pos : Int) + 1 + k))).drewN 1).setCell 6 (.slice (some ⟨bd, o + x.start, none⟩) (x.pos + 1 + k - x.start) (cap - x.start))
            exact ⟨rfl, _, _, ((((H.out.setPos (x.pos + 1)).drewN nq).setPos (x.pos + 1 + k)).drewN 1).setTok _ ((x.d.drop x.start).take (x.pos + 1 + k - x.start)) ((H.out.part hne x.start _ _ (by omega) (by omega)).kept hk), hk⟩
          | false =>
            have HS := Lib.hid (HI.out.stop HK.out (by rw [HC.out]; simp [isDig]; omega) (by rw [HC.out]; simp [k0]) (by rw [HC.out]; simp [k1, k2]) (by rw [HC.out]; simp [k3, k4]))
            go_wp2_with (first | (go_at_call 145; refine (isEnd_any _ _).mono ?_; rintro e w' ⟨rfl, rfl⟩) | (go_at_call 118; refine (errSyntax_any (x := { x with pos := x.pos + 1 + k }) (ae := ae) (ao := ao) (vd := .slice (some ⟨bd, o, none⟩) x.d.length cap) (vt := vt) (ve := ve) (vm := vm) (((H.out.setPos (x.pos + 1)).drewN nq).setPos (x.pos + 1 + k)) ⟨hw.len, by show x.pos + 1 + k ≤ x.d.length; omega, by show x.start ≤ x.pos + 1 + k; omega, hw.byte⟩).mono ?_; rintro e w' ⟨rfl, hf⟩))
            (try simp only [Exit.inBlock, Exit.then]); refine bodyPost_ret (results_none rfl _ _ _) rfl ?_
            have hs := HS.out
            rw [HC.out] at hs
            rw [fetchNumber_stop hs]
            unfold numStop
            rw [if_neg (by rw [ee]; simp)]
            obtain ⟨ve', g1, g2⟩ := hf
            exact ⟨rfl, _, ve', g1, ((((Kept.refl b w).setCell 2 _).drewN _).setCell 2 _).trans g2⟩
      · have d1 : decide (48 ≤ c) = false := by simp; omega
        cases ee : isEndB c with
        | true =>
          have HS := Lib.hid (HI.out.stop HK.out (by rw [HC.out]; simp [isDig]; omega) (by rw [HC.out]; simp [k0]) (by rw [HC.out]; simp [k1, k2]) (by rw [HC.out]; simp [k3, k4]))
          go_wp2_with (go_at_call 145; refine (isEnd_any _ _).mono ?_; rintro e w' ⟨rfl, rfl⟩)
          go_region
          go_wp2
          (try simp only [Exit.inBlock, Exit.then]); refine bodyPost_ret (results_none rfl _ _ _) rfl ?_
          have hs := HS.out
          rw [HC.out] at hs
          rw [fetchNumber_stop hs]
          unfold numStop
          rw [if_pos ee]
          have hk := (((((Kept.refl b w).setCell 2 (.int .i64 ((x.pos : Int) + 1))).drewN nq).setCell 2 (.int .i64 ((x.pos : Int) + 1 + k))).drewN 1).setCell 6 (.slice (some ⟨bd, o + x.start, none⟩) (x.pos + 1 + k - x.start) (cap - x.start))
          exact ⟨rfl, _, _, ((((H.out.setPos (x.pos + 1)).drewN nq).setPos (x.pos + 1 + k)).drewN 1).setTok _ ((x.d.drop x.start).take (x.pos + 1 + k - x.start)) ((H.out.part hne x.start _ _ (by omega) (by omega)).kept hk), hk⟩
        | false =>
          have HS := Lib.hid (HI.out.stop HK.out (by rw [HC.out]; simp [isDig]; omega) (by rw [HC.out]; simp [k0]) (by rw [HC.out]; simp [k1, k2]) (by rw [HC.out]; simp [k3, k4]))
          go_wp2_with (first | (go_at_call 145; refine (isEnd_any _ _).mono ?_; rintro e w' ⟨rfl, rfl⟩) | (go_at_call 118; refine (errSyntax_any (x := { x with pos := x.pos + 1 + k }) (ae := ae) (ao := ao) (vd := .slice (some ⟨bd, o, none⟩) x.d.length cap) (vt := vt) (ve := ve) (vm := vm) (((H.out.setPos (x.pos + 1)).drewN nq).setPos (x.pos + 1 + k)) ⟨hw.len, by show x.pos + 1 + k ≤ x.d.length; omega, by show x.start ≤ x.pos + 1 + k; omega, hw.byte⟩).mono ?_; rintro e w' ⟨rfl, hf⟩))
          (try simp only [Exit.inBlock, Exit.then]); refine bodyPost_ret (results_none rfl _ _ _) rfl ?_
          have hs := HS.out
          rw [HC.out] at hs
          rw [fetchNumber_stop hs]
          unfold numStop
          rw [if_neg (by rw [ee]; simp)]
          obtain ⟨ve', g1, g2⟩ := hf
          exact ⟨rfl, _, ve', g1, ((((Kept.refl b w).setCell 2 _).drewN _).setCell 2 _).trans g2⟩
theorem fetchNumber_any (h : LexAt w b ae ao x vd vt ve vm) (hw : x.Wf) (hp : x.pos < x.d.length) :
    Calls Tryz.prog 120 #[.pointer (some ⟨b, 0, none⟩)] w fun e w' => e = .returned (.tuple #[]) ∧ NumDone w b ae ao x.fetchNumber vd vm w' := by
  obtain ⟨bd, o, cap, rfl, hcap, hne, hx⟩ := h.bytes (by omega)
  by_cases hc : cap = x.pos + 1
  · refine fetchNumber_last h hw (by omega) fun a n cap' hv => ?_
    simp only [Value.slice.injEq] at hv
    omega
  · refine fetchNumber_more h hw hp fun a n cap' hv => ?_
    simp only [Value.slice.injEq] at hv
    omega
end
end Go.Proofs.YtaecbclonmhbcaaGreatDoor
