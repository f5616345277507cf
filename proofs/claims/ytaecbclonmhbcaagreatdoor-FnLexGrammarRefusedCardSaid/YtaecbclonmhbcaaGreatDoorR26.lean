/- Consumed, of a lexer with one error. -/
import Derived.Test.YtaecbclonmhbcaaGreatDoorR25
set_option linter.unusedVariables false
set_option linter.unusedSimpArgs false
namespace Go.Proofs.YtaecbclonmhbcaaGreatDoor
open Go.RowKit
def Eaten (x x' : Lx) : Prop := x'.d = x.d ∧ x'.multi = x.multi ∧ (x'.ok = true → x.ok = true ∧ ∀ i, x.pos ≤ i → i < x.d.length → isBl (x.d.getD i 0) = true)
def EatDone (w : World) (b : Nat) (ae : Sur) (ao : Addr) (x : Lx) (vd vm : Value) (e : Ending) (w' : World) : Prop := e = .returned (.tuple #[]) ∧ ∃ x', NumDone w b ae ao x' vd vm w' ∧ Eaten x x'
section
variable {w w' : World} {b : Nat} {ae : Sur} {ao : Addr} {x : Lx} {vd vt ve vm : Value}
theorem LexAt.drew1 (h : LexAt w b ae ao x vd vt ve vm) : LexAt w.drew b ae ao x vd vt ve vm := h.drewN 1
theorem eaten_shut (h : x.ok = false) : Eaten x x := ⟨rfl, rfl, fun a => by rw [h] at a; cases a⟩
theorem eaten_end (h : x.ok = true) (hp : x.d.length ≤ x.pos) : Eaten x x := ⟨rfl, rfl, fun _ => ⟨h, fun i a b => absurd b (by omega)⟩⟩
set_option maxHeartbeats 8000000 in
set_option maxRecDepth 100000 in
theorem consumed1_nil (h : LexAt w b ae ao x (.slice none 0 0) vt ve vm) (hqe : x.pos = 0) (h0 : x.d.length = 0) :
    Calls Tryz.prog 33 #[.pointer (some ⟨b, 0, none⟩)] w (EatDone w b ae ao x (.slice none 0 0) vm) := by
  have H := Lib.hid h
  have d1 := h.c1
  have d2 := h.c2
  have d0 := h.c0
  have HE : Hid (x.ok = true → Eaten x x) := fun a => eaten_end a (by omega)
  rw [hqe] at d2
  have hgt : ¬ ((0 : Int) < ((0 : Nat) : Int)) := by omega
  clear h h0
  rcases Bool.eq_false_or_eq_true x.ok with hok | hok
  case inr =>
    go_enter Tryz.func33, Tryz.ntmps33
    go_wp2
    go_region_held3 (fun w' => w'.cell? ⟨b, 0, none⟩ = some (.slice none 0 0) ∧ w'.cell? ⟨b, 2, none⟩ = some (.int .i64 (0 : Nat))) (go_keep) (first | (go_at_call 47; refine (ok_any H.out.drew1).mono ?_; rintro e w8 ⟨rfl, rfl⟩; rw [hok]))
    all_goals
      go_wp2
      (try simp only [Exit.inBlock, Exit.then])
      exact bodyPost_ret (results_none rfl _ _ _) rfl ⟨rfl, x, ⟨vt, ve, H.out.drew1, (Kept.refl b w).drew⟩, eaten_shut hok⟩
  case inl =>
    go_enter Tryz.func33, Tryz.ntmps33
    go_wp2
    go_region_held3 (fun w' => w'.cell? ⟨b, 0, none⟩ = some (.slice none 0 0) ∧ w'.cell? ⟨b, 2, none⟩ = some (.int .i64 (0 : Nat))) (go_keep) (first | (go_at_call 47; refine (ok_any H.out.drew1).mono ?_; rintro e w8 ⟨rfl, rfl⟩; rw [hok]))
    have HE2 := Lib.hid (HE.out hok)
    clear hok
    have H1 := Lib.hid H.out.drew1
    have HK1 := Lib.hid ((Kept.refl b w).drew)
    have d0 : w.drew.cell? ⟨b, 0, none⟩ = some (.slice none 0 0) := d0
    have d2 : w.drew.cell? ⟨b, 2, none⟩ = some (.int .i64 (0 : Nat)) := d2
    generalize w.drew = w1 at *
    go_wp2
    go_quiet (fail)
    have H2 := Lib.hid (H1.out.drewN nq)
    have HK2 := Lib.hid (HK1.out.drewN nq)
    generalize w1.drewN nq = w2 at *
    go_wp2
    go_loop [29] (fun i => i = .int .i64 0) (fun _ => 0)
    case atStart => rfl
    case round =>
      subst hrel
      go_wp2
      go_end0
      exact ⟨rfl, x, ⟨vt, ve, H2.out, HK2.out⟩, HE2.out⟩
set_option maxHeartbeats 8000000 in
set_option maxRecDepth 100000 in
theorem consumed1_cap {bd o N : Nat} (h : LexAt w b ae ao x (.slice (some ⟨bd, o, none⟩) N N) vt ve vm) (hN : x.d.length = N) (hqe : x.pos = N) :
    Calls Tryz.prog 33 #[.pointer (some ⟨b, 0, none⟩)] w (EatDone w b ae ao x (.slice (some ⟨bd, o, none⟩) N N) vm) := by
  have H := Lib.hid h
  have d1 := h.c1
  have d2 := h.c2
  have d0 := h.c0
  have HE : Hid (x.ok = true → Eaten x x) := fun a => eaten_end a (by omega)
  rw [hqe] at d2
  have hgt : ¬ ((N : Int) < (N : Int)) := by omega
  have hgt2 : decide ((N : Int) < (N : Int)) = false := decide_eq_false hgt
  have hgt3 : decide (N < N) = false := decide_eq_false (by omega)
  clear h hN
  rcases Bool.eq_false_or_eq_true x.ok with hok | hok
  case inr =>
    go_enter Tryz.func33, Tryz.ntmps33
    go_wp2
    go_region_held3 (fun w' => w'.cell? ⟨b, 0, none⟩ = some (.slice (some ⟨bd, o, none⟩) N N) ∧ w'.cell? ⟨b, 2, none⟩ = some (.int .i64 (N : Nat))) (go_keep) (first | (go_at_call 47; refine (ok_any H.out.drew1).mono ?_; rintro e w8 ⟨rfl, rfl⟩; rw [hok]))
    all_goals
      go_wp2
      (try simp only [Exit.inBlock, Exit.then])
      exact bodyPost_ret (results_none rfl _ _ _) rfl ⟨rfl, x, ⟨vt, ve, H.out.drew1, (Kept.refl b w).drew⟩, eaten_shut hok⟩
  case inl =>
    go_enter Tryz.func33, Tryz.ntmps33
    go_wp2
    go_region_held3 (fun w' => w'.cell? ⟨b, 0, none⟩ = some (.slice (some ⟨bd, o, none⟩) N N) ∧ w'.cell? ⟨b, 2, none⟩ = some (.int .i64 (N : Nat))) (go_keep) (first | (go_at_call 47; refine (ok_any H.out.drew1).mono ?_; rintro e w8 ⟨rfl, rfl⟩; rw [hok]))
    have HE2 := Lib.hid (HE.out hok)
    clear hok
    have H1 := Lib.hid H.out.drew1
    have HK1 := Lib.hid ((Kept.refl b w).drew)
    have d0 : w.drew.cell? ⟨b, 0, none⟩ = some (.slice (some ⟨bd, o, none⟩) N N) := d0
    have d2 : w.drew.cell? ⟨b, 2, none⟩ = some (.int .i64 (N : Nat)) := d2
    generalize w.drew = w1 at *
    go_wp2
    go_quiet (fail)
    have H2 := Lib.hid (H1.out.drewN nq)
    have HK2 := Lib.hid (HK1.out.drewN nq)
    generalize w1.drewN nq = w2 at *
    go_wp2
    go_loop [29] (fun i => i = .int .i64 0) (fun _ => 0)
    case atStart => rfl
    case round =>
      subst hrel
      go_wp2
      go_end0
      exact ⟨rfl, x, ⟨vt, ve, H2.out, HK2.out⟩, HE2.out⟩
theorem LexAt.cutAt {bd o cap N : Nat} (h : LexAt w b ae ao x (.slice (some ⟨bd, o, none⟩) N cap) vt ve vm) (hN : x.d.length = N) {a c : Nat} (hac : a ≤ c) (hcl : c ≤ N) :
    BytesAt w (ae.off b) (.slice (some ⟨bd, o + a, none⟩) (c - a) (cap - a)) ((x.d.drop a).take (c - a)) := by
  have hlen : ((x.d.drop a).take (c - a)).length = c - a := by simp; omega
  rcases h.data with ⟨-, e⟩ | ⟨bd', o', cap', e, hc, hne, hx⟩
  · cases e
  · cases e
    refine .inr ⟨bd, o + a, cap - a, by rw [hlen], by rw [hlen]; omega, hne, fun i hi => ?_⟩
    rw [hlen] at hi
    have := hx (a + i) (by omega)
    rw [← Nat.add_assoc] at this
    rw [this]
    simp [List.getD, hi]
theorem cut_same {x9 : Lx} (hd : x.d = x9.d) {bd o cap N : Nat} (h : LexAt w b ae ao x9 (.slice (some ⟨bd, o, none⟩) N cap) vt ve vm) (hN : x.d.length = N) {a c : Nat} (hac : a ≤ c) (hcl : c ≤ N) :
    BytesAt w (ae.off b) (.slice (some ⟨bd, o + a, none⟩) (c - a) (cap - a)) ((x.d.drop a).take (c - a)) := by
  rw [hd]
  exact h.cutAt (by rw [← hd]; exact hN) hac hcl
theorem LexAt.byteAt {bd o cap N q k : Nat} (h : LexAt w b ae ao x (.slice (some ⟨bd, o, none⟩) N cap) vt ve vm) (hk : q + k < x.d.length) : w.cell? ⟨bd, o + q + k, none⟩ = some (.int .u8 (x.d.getD (q + k) 0)) := by
  rcases h.data with ⟨-, e⟩ | ⟨bd', o', cap', e, hc, hne, hx⟩
  · cases e
  · cases e
    rw [Nat.add_assoc]
    exact hx (q + k) hk
set_option maxHeartbeats 8000000 in
set_option maxRecDepth 100000 in
theorem consumed1_some {bd o N cap : Nat} (h : LexAt w b ae ao x (.slice (some ⟨bd, o, none⟩) N cap) vt ve vm) (hN : x.d.length = N) (hqe : x.pos ≠ cap) (hcl : N ≤ cap) (hw : x.Wf) (hnl : N ≤ 100000) :
    Calls Tryz.prog 33 #[.pointer (some ⟨b, 0, none⟩)] w (EatDone w b ae ao x (.slice (some ⟨bd, o, none⟩) N cap) vm) := by
  have H := Lib.hid h
  obtain ⟨st, hst⟩ : ∃ st, st = x.start := ⟨_, rfl⟩
  obtain ⟨q, hq⟩ : ∃ q, q = x.pos := ⟨_, rfl⟩
  have hsq : st ≤ q := by rw [hst, hq]; exact hw.start
  have hql : q ≤ N := by rw [hq, ← hN]; exact hw.pos
  have d1 : w.cell? ⟨b, 1, none⟩ = some (.int .i64 (st : Nat)) := by rw [hst]; exact H.out.c1
  have d2 : w.cell? ⟨b, 2, none⟩ = some (.int .i64 (q : Nat)) := by rw [hq]; exact H.out.c2
  have d0 : w.cell? ⟨b, 0, none⟩ = some (.slice (some ⟨bd, o, none⟩) N cap) := H.out.c0
  have HST := Lib.hid hst
  have HQQ := Lib.hid hq
  have HN := Lib.hid hN
  rw [← hq] at hqe
  clear h hst hq hN hw
  have hcq : ¬ cap = q := fun e => hqe e.symm
  have i0 : (q : Int) ≤ (N : Int) := by omega
  have hgt : ¬ ((N : Int) < (q : Int)) := by omega
  have hgt2 : decide ((N : Int) < (q : Int)) = false := decide_eq_false hgt
  have hgt3 : decide (N < q) = false := decide_eq_false (by omega)
  rcases Bool.eq_false_or_eq_true x.ok with hok | hok
  case inr =>
    go_enter Tryz.func33, Tryz.ntmps33
    go_wp2
    go_region_held3 (fun w' => w'.cell? ⟨b, 0, none⟩ = some (.slice (some ⟨bd, o, none⟩) N cap) ∧ w'.cell? ⟨b, 2, none⟩ = some (.int .i64 (q : Nat))) (go_keep) (first | (go_at_call 47; refine (ok_any H.out.drew1).mono ?_; rintro e w8 ⟨rfl, rfl⟩; rw [hok]))
    all_goals
      go_wp2
      (try simp only [Exit.inBlock, Exit.then])
      exact bodyPost_ret (results_none rfl _ _ _) rfl ⟨rfl, x, ⟨vt, ve, H.out.drew1, (Kept.refl b w).drew⟩, eaten_shut hok⟩
  case inl =>
    go_enter Tryz.func33, Tryz.ntmps33
    go_wp2
    go_region_held3 (fun w' => w'.cell? ⟨b, 0, none⟩ = some (.slice (some ⟨bd, o, none⟩) N cap) ∧ w'.cell? ⟨b, 2, none⟩ = some (.int .i64 (q : Nat))) (go_keep) (first | (go_at_call 47; refine (ok_any H.out.drew1).mono ?_; rintro e w8 ⟨rfl, rfl⟩; rw [hok]))
    have HOK := Lib.hid hok
    clear hok
    have H1 := Lib.hid H.out.drew1
    have HK1 := Lib.hid ((Kept.refl b w).drew)
    have d0 : w.drew.cell? ⟨b, 0, none⟩ = some (.slice (some ⟨bd, o, none⟩) N cap) := d0
    have d2 : w.drew.cell? ⟨b, 2, none⟩ = some (.int .i64 (q : Nat)) := d2
    generalize w.drew = w1 at *
    go_wp2
    go_quiet (fail)
    have H2 := Lib.hid (H1.out.drewN nq)
    have HK2 := Lib.hid (HK1.out.drewN nq)
    generalize w1.drewN nq = w2 at *
    go_wp2
    go_loopw [29] (fun i wr => ∃ (k : Nat), i = .int .i64 k ∧ k ≤ N - q ∧ LexAt wr b ae ao { x with pos := q + k, start := st + k } (.slice (some ⟨bd, o, none⟩) N cap) vt ve vm ∧ Kept b w wr ∧ ∀ j, q ≤ j → j < q + k → isBl (x.d.getD j 0) = true) (fun i _ => N - q - (intOf i).toNat)
    case atStart => exact ⟨0, rfl, Nat.zero_le _, by rw [Nat.add_zero, Nat.add_zero, HST.out, HQQ.out]; exact H2.out, HK2.out, fun j a b => absurd b (by omega)⟩
    case round =>
      obtain ⟨k, rfl, hk, hr, hkr, hbl⟩ := hrel
      have HR := Lib.hid hr
      have HKR := Lib.hid hkr
      have HBL := Lib.hid hbl
      clear hr hkr hbl
      by_cases hlt : k < N - q
      case neg =>
        obtain rfl : k = N - q := by omega
        go_wp2
        go_end0
        exact ⟨rfl, _, ⟨vt, ve, HR.out, HKR.out⟩, rfl, rfl, fun _ => ⟨HOK.out, fun i a b => HBL.out i (by rw [HQQ.out]; exact a) (by rw [HN.out] at b; omega)⟩⟩
      case pos =>
        obtain ⟨c, hcc⟩ : ∃ c, x.d.getD (q + k) 0 = c := ⟨_, rfl⟩
        have q3 : wr.cell? ⟨bd, o + q + k, none⟩ = some (.int .u8 c) := by rw [← hcc]; exact HR.out.byteAt (by show q + k < x.d.length; rw [HN.out]; omega)
        have e0 : wr.cell? ⟨b, 0, none⟩ = some (.slice (some ⟨bd, o, none⟩) N cap) := HR.out.c0
        have e1 : wr.cell? ⟨b, 1, none⟩ = some (.int .i64 (st + k : Nat)) := HR.out.c1
        have e2 : wr.cell? ⟨b, 2, none⟩ = some (.int .i64 (q + k : Nat)) := HR.out.c2
        have f1 := HR.out.free 1
        have f2 := HR.out.free 2
        have hltr := HR.out.lt
        by_cases hb : c = 32 ∨ c = 9 ∨ c = 13 ∨ c = 10
        case pos =>
          have HX : Hid (LexAt ((wr.setCell ⟨b, 2, none⟩ (.int .i64 (q + k + 1 : Nat))).setCell ⟨b, 1, none⟩ (.int .i64 (st + k + 1 : Nat))) b ae ao { x with pos := q + k + 1, start := st + k + 1 } (.slice (some ⟨bd, o, none⟩) N cap) vt ve vm) :=
            (HR.out.setPos (q + k + 1)).setStart (st + k + 1)
          have HKX : Hid (Kept b w ((wr.setCell ⟨b, 2, none⟩ (.int .i64 (q + k + 1 : Nat))).setCell ⟨b, 1, none⟩ (.int .i64 (st + k + 1 : Nat)))) := (HKR.out.setCell 2 _).setCell 1 _
          have HBX : Hid (∀ j, q ≤ j → j < q + (k + 1) → isBl (x.d.getD j 0) = true) := fun j a1 a2 => by
            by_cases e : j = q + k
            · rw [e, hcc]; rcases hb with rfl | rfl | rfl | rfl <;> rfl
            · exact HBL.out j a1 (by omega)
          clear hcc
          rcases hb with rfl | rfl | rfl | rfl
          all_goals
            go_wp2
            go_roundw
            case rel => exact ⟨k + 1, by go_num, by omega, HX.out, HKX.out, HBX.out⟩
            case measure => simp [intOf]; omega
        case neg =>
          have n1 : (c == 32) = false := beq_eq_false_iff_ne.2 (fun e => hb (.inl e))
          have n2 : (c == 9) = false := beq_eq_false_iff_ne.2 (fun e => hb (.inr (.inl e)))
          have n3 : (c == 13) = false := beq_eq_false_iff_ne.2 (fun e => hb (.inr (.inr (.inl e))))
          have n4 : (c == 10) = false := beq_eq_false_iff_ne.2 (fun e => hb (.inr (.inr (.inr e))))
          have m1 : (c != 32) = true := bne_iff_ne.2 (fun e => hb (.inl e))
          have m2 : (c != 9) = true := bne_iff_ne.2 (fun e => hb (.inr (.inl e)))
          have m3 : (c != 13) = true := bne_iff_ne.2 (fun e => hb (.inr (.inr (.inl e))))
          have m4 : (c != 10) = true := bne_iff_ne.2 (fun e => hb (.inr (.inr (.inr e))))
          clear hb hcc
          obtain ⟨tb, htb, hcv0⟩ := byte_text c
          have hcut := HR.out.cutAt HN.out (a := q + k) (c := N) (by omega) (Nat.le_refl _)
          have hlen : ((x.d.drop (q + k)).take (N - (q + k))).length = N - (q + k) := by simp [HN.out]
          have hcv1 : (convert 22 9 (.slice (some ⟨bd, o + (q + k), none⟩) (N - (q + k)) (cap - (q + k)))).run Tryz.prog wr.drew = .ok (.string (strOfNums ((x.d.drop (q + k)).take (N - (q + k))))) wr.drew := run_bytes_str hcut 1 9 Tryz.underlying9
          have hsz : (strOfNums ((x.d.drop (q + k)).take (N - (q + k)))).size ≤ 100000 := by rw [strOfNums_size]; omega
          have hcs : ¬ cap = q + k := by omega
          have i1 : ((q + k : Nat) : Int) ≤ (N : Int) := by omega
          have hadd1 : ∀ W, (Op.stringOp .add ⟨#[105, 110, 118, 97, 108, 105, 100, 32, 99, 104, 97, 114, 97, 99, 116, 101, 114, 32, 39]⟩ tb).run Tryz.prog W = .ok (.string (⟨#[105, 110, 118, 97, 108, 105, 100, 32, 99, 104, 97, 114, 97, 99, 116, 101, 114, 32, 39]⟩ ++ tb)) W := fun W => run_string_add_sum W _ _ (by show 19 + tb.size ≤ _; omega)
          have hadd2 : ∀ W, (Op.stringOp .add (⟨#[105, 110, 118, 97, 108, 105, 100, 32, 99, 104, 97, 114, 97, 99, 116, 101, 114, 32, 39]⟩ ++ tb) ⟨#[39, 32, 97, 102, 116, 101, 114, 32, 116, 111, 112, 45, 108, 101, 118, 101, 108, 32, 118, 97, 108, 117, 101]⟩).run Tryz.prog W = .ok (.string (⟨#[105, 110, 118, 97, 108, 105, 100, 32, 99, 104, 97, 114, 97, 99, 116, 101, 114, 32, 39]⟩ ++ tb ++ ⟨#[39, 32, 97, 102, 116, 101, 114, 32, 116, 111, 112, 45, 108, 101, 118, 101, 108, 32, 118, 97, 108, 117, 101]⟩)) W := fun W => run_string_add_sum W _ _ (by rw [ByteArray.size_append]; show 19 + tb.size + 23 ≤ _; omega)
          have hcvA : ∀ O, (convert 22 9 (.slice (some ⟨bd, o + (q + k), none⟩) (N - (q + k)) (cap - (q + k)))).run Tryz.prog (wr.drew.alloc O) = .ok (.string (strOfNums ((x.d.drop (q + k)).take (N - (q + k))))) (wr.drew.alloc O) := fun O => run_bytes_str ((HR.out.drew1.alloc O).cutAt HN.out (a := q + k) (c := N) (by omega) (Nat.le_refl _)) 0 9 Tryz.underlying9
          clear hcut hlen
          have i2 : (q : Int) + (k : Int) ≤ (N : Int) := by omega
          have i3 : ¬ ((cap : Int) = (q : Int) + (k : Int)) := by omega
          have i4 : (0 : Int) ≤ (q : Int) + (k : Int) := by omega
          have i5 : (N : Int) ≤ (cap : Int) := by omega
          have i6 : ((q : Int) + (k : Int)).toNat = q + k := by omega
          go_wp2
          go_region_held3 (fun w' => w'.cell? ⟨b, 0, none⟩ = some (.slice (some ⟨bd, o, none⟩) N cap) ∧ w'.cell? ⟨b, 2, none⟩ = some (.int .i64 (q + k : Nat)) ∧ (convert 22 9 (.slice (some ⟨bd, o + (q + k), none⟩) (N - (q + k)) (cap - (q + k)))).run Tryz.prog w' = .ok (.string (strOfNums ((x.d.drop (q + k)).take (N - (q + k))))) w') (first | exact ⟨k0, k2, k3⟩ | (refine ⟨?_, ?_, hcv1⟩ <;> go_keep) | (refine ⟨?_, ?_, hcvA _⟩ <;> go_keep)) (first | (go_at_call 48; refine (addErrLex_any HR.out.drew1 _ _ _).mono ?_; rintro e w9 ⟨rfl, x9, ⟨vt9, ve9, g9, gk9⟩, hsm9, hok9, hs9, hp9⟩; have k0 : w9.cell? ⟨b, 0, none⟩ = some (.slice (some ⟨bd, o, none⟩) N cap) := g9.c0; have k2 : w9.cell? ⟨b, 2, none⟩ = some (.int .i64 (q + k : Nat)) := (g9.c2).trans (by rw [hp9]); have k3 := run_bytes_str (cut_same hsm9.d g9 HN.out (a := q + k) (c := N) (by omega) (Nat.le_refl _)) 0 9 Tryz.underlying9; have H9 := Lib.hid g9; have HK9 := Lib.hid (HKR.out.drew.trans gk9); have HS9 := Lib.hid hsm9; have HO9 := Lib.hid hok9; clear g9 gk9 hsm9 hok9))
          all_goals
            go_wp2_with fail
            (try simp only [Exit.inBlock, Exit.then])
            exact bodyPost_ret (results_none rfl _ _ _) rfl ⟨rfl, x9, ⟨vt9, ve9, H9.out, HK9.out⟩, HS9.out.d.symm, HS9.out.multi.symm, fun a => by rw [HO9.out] at a; cases a⟩
theorem consumed1_any (h : LexAt w b ae ao x vd vt ve vm) (hw : x.Wf) (hl : x.d.length ≤ 100000) :
    Calls Tryz.prog 33 #[.pointer (some ⟨b, 0, none⟩)] w (EatDone w b ae ao x vd vm) := by
  have hp := hw.pos
  rcases h.data with ⟨h0, rfl⟩ | ⟨bd, o, cap, rfl, hc, -, -⟩
  · rw [h0] at hp
    exact consumed1_nil h (by simpa using hp) (by rw [h0]; rfl)
  · by_cases he : x.pos = cap
    · have : cap = x.d.length := by omega
      subst this
      exact consumed1_cap h rfl he
    · exact consumed1_some h rfl he hc hw hl
end
end Go.Proofs.YtaecbclonmhbcaaGreatDoor
