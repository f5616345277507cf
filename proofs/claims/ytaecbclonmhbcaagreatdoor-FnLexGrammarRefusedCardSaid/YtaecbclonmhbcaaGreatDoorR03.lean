/- fetchString. What FetchToken's loop does at each byte. Plain. -/
import Derived.Test.YtaecbclonmhbcaaGreatDoorR01
import Derived.Test.YtaecbclonmhbcaaGreatDoorR02
set_option linter.unusedVariables false
set_option linter.unusedSimpArgs false
namespace Go.Proofs.YtaecbclonmhbcaaGreatDoor
open Go.RowKit
theorem strLen_bound : ∀ (f : Nat) (data : List Int) (len : Nat), data.length < f →
    ((strLen f data len).1 = true → (strLen f data len).2 < len + data.length) ∧ ((strLen f data len).1 = false → (strLen f data len).2 ≤ data.length)
  | 0, _, _, h => absurd h (Nat.not_lt_zero _)
  | f + 1, data, len, h => by
    simp only [strLen]
    cases hi : idxOf 34 data with
    | none => simp
    | some i =>
      have hl := (idxOf_lt hi).1
      simp only
      split
      · simp; omega
      · have := strLen_bound f (data.drop (i + 1)) (len + i + 1) (by simp; omega)
        simp only [List.length_drop] at this
        refine ⟨fun ht => ?_, fun hf => ?_⟩
        · have := this.1 ht; omega
        · have := this.2 hf; omega
section
variable {w : World} {b : Nat} {ae : Sur} {ao : Addr} {x : Lx} {vd vt ve vm : Value}
theorem Lx.Wf.bytes {x : Lx} (h : x.Wf) : Bytes x.d := h.byte
def strDone (x : Lx) : Bool × Nat → Lx
  | (true, n) => { x with tok := (x.d.drop (x.pos + 1)).take n, pos := x.pos + 1 + n + 1 }
  | (false, n) => { x with pos := x.pos + 1 + n }.fail
theorem fetchString_eq (x : Lx) : x.fetchString = strDone x (strLen (x.d.length + 1) (x.d.drop (x.pos + 1)) 0) := by
  unfold Lx.fetchString strDone
  cases h : strLen (x.d.length + 1) (x.d.drop (x.pos + 1)) 0 with
  | mk a b => cases a <;> rfl
set_option maxHeartbeats 2000000 in
set_option maxRecDepth 100000 in
theorem fetchString_at (bd o cap o' : Nat) (h : LexAt w b ae ao x (.slice (some ⟨bd, o, none⟩) x.d.length cap) vt ve vm) (hw : x.Wf) (hp : x.pos < x.d.length)
    (hcap : x.d.length ≤ cap) (hne : bd ≠ b) (ho : (cap = x.pos + 1 ∧ o' = o) ∨ (cap ≠ x.pos + 1 ∧ o' = o + (x.pos + 1))) :
    Calls Tryz.prog 119 #[.pointer (some ⟨b, 0, none⟩)] w fun e w' => e = .returned (.tuple #[]) ∧ NumDone w b ae ao x.fetchString (.slice (some ⟨bd, o, none⟩) x.d.length cap) vm w' := by
  have hne' : b ≠ bd := Ne.symm hne
  have c0 := h.c0
  have c2 := h.c2
  have c6 := h.c6
  have f2 := h.free 2
  have f6 := h.free 6
  have hl := hw.len
  have hst := hw.start
  have s1 : IntKind.i64.wrap ((x.pos : Int) + 1) = (x.pos : Int) + 1 := IntWalk.i64_in _ (by omega)
  have t1 : ((x.pos : Int) + 1).toNat = x.pos + 1 := by omega
  have p1 : (0 : Int) ≤ (x.pos : Int) + 1 := by omega
  have q1 : (x.pos : Int) + 1 ≤ (x.d.length : Int) := by omega
  have hrl : (x.d.drop (x.pos + 1)).length = x.d.length - (x.pos + 1) := by simp
  have hx2 : RowKit.Hid ((∀ i, i < x.d.length → w.cell? ⟨bd, o + i, none⟩ = some (.int .u8 (x.d.getD i 0))) ∧ (¬ ae.off b bd ∧ bd < w.heap.size)) := by
    rcases h.data with ⟨-, hv⟩ | ⟨b', o', cap', hv, -, hnb, hx⟩
    · simp at hv
    · simp only [Value.slice.injEq, Option.some.injEq, Addr.mk.injEq, and_true] at hv
      obtain ⟨⟨rfl, rfl⟩, -, -⟩ := hv
      exact ⟨hx, hnb⟩
  have hx := Lib.hid hx2.out.1
  -- the rest of the text, wherever its address
  have hrest : RowKit.Hid (∀ (nq i : Nat), i < x.d.length - (x.pos + 1) → ((w.setCell ⟨b, 2, none⟩ (.int .i64 ((x.pos : Int) + 1))).drewN nq).cell? ⟨bd, o' + i, none⟩ = some (.int .u8 ((x.d.drop (x.pos + 1)).getD i 0))) := fun nq i hi => by
    rcases ho with ⟨h1, -⟩ | ⟨-, h2⟩
    · omega
    · have := ((Kept.refl b w).setCell 2 (.int .i64 ((x.pos : Int) + 1))).cell (hx.out (x.pos + 1 + i) (by omega)) hne
      rw [World.cell?_drewN, getD_drop, h2, ← this]; simp [Nat.add_assoc]
  have htok : RowKit.Hid (∀ n, n ≤ x.d.length - (x.pos + 1) → BytesAt w (ae.off b) (.slice (some ⟨bd, o', none⟩) n (cap - (x.pos + 1))) ((x.d.drop (x.pos + 1)).take n)) := fun n hn => by
    have hl : ((x.d.drop (x.pos + 1)).take n).length = n := by simp; omega
    refine .inr ⟨bd, o', cap - (x.pos + 1), by rw [hl], by omega, hx2.out.2, fun j hj => ?_⟩
    rw [hl] at hj
    rcases ho with ⟨h1, -⟩ | ⟨-, h2⟩
    · omega
    · have := hx.out (x.pos + 1 + j) (by omega)
      rw [h2]
      simp [List.getD, hj] at this ⊢
      rw [← this]; simp [Nat.add_assoc]
  have HA : RowKit.Hid ((if cap = x.pos + 1 then some (⟨bd, o, none⟩ : Addr) else some ⟨bd, o + (x.pos + 1), none⟩) = some ⟨bd, o', none⟩) := by
    show _ = _
    rcases ho with ⟨h1, h2⟩ | ⟨h1, h2⟩
    · rw [if_pos h1, h2]
    · rw [if_neg h1, h2]
  have HC : RowKit.Hid (∀ nq cp, x.d.length - (x.pos + 1) ≤ cp → Calls Tryz.prog 144 #[.slice (some ⟨bd, o', none⟩) (x.d.length - (x.pos + 1)) cp] ((w.setCell ⟨b, 2, none⟩ (.int .i64 ((x.pos : Int) + 1))).drewN nq) fun e w' =>
      e = .returned (.tuple #[.bool (strLen (x.d.length - (x.pos + 1) + 1) (x.d.drop (x.pos + 1)) 0).1, .int .i64 (strLen (x.d.length - (x.pos + 1) + 1) (x.d.drop (x.pos + 1)) 0).2]) ∧ (w.setCell ⟨b, 2, none⟩ (.int .i64 ((x.pos : Int) + 1))).drewN nq = w') := fun nq cp hcp =>
    findStringLen_at bd o' (x.d.length - (x.pos + 1)) cp (x.d.drop (x.pos + 1)) _ hrl (by omega) (hw.bytes.drop _) (hrest.out nq) hcp
  have hbd := strLen_bound (x.d.length - (x.pos + 1) + 1) (x.d.drop (x.pos + 1)) 0 (by rw [hrl]; omega)
  have hfs : RowKit.Hid (x.fetchString = strDone x (strLen (x.d.length - (x.pos + 1) + 1) (x.d.drop (x.pos + 1)) 0)) := by
    show _ = _
    rw [fetchString_eq, strLen_fuel (x.d.length + 1) (x.d.length - (x.pos + 1) + 1) _ _ (by rw [hrl]; omega) (by rw [hrl]; omega)]
  have H := Lib.hid h
  clear h
  rw [hrl] at hbd
  generalize strLen (x.d.length - (x.pos + 1) + 1) (x.d.drop (x.pos + 1)) 0 = r at HC hbd hfs
  obtain ⟨ok, n⟩ := r
  simp only [] at HC hbd
  clear hrl
  cases ok with
  | true =>
    have hn := hbd.1 rfl
    clear hbd
    rcases ho with ⟨h1, h2⟩ | ⟨h1, h2⟩
    · exfalso; omega
    · subst h2
      go_enter Tryz.func119, Tryz.ntmps119
      go_wp2
      go_quiet (fail)
      go_wp2_with (go_at_call 144; refine (HC.out nq _ (by omega)).mono ?_; rintro e w' ⟨rfl, rfl⟩)
      go_end0
      rw [hfs.out]
      have hk := (((((Kept.refl b w).setCell 2 (.int .i64 ((x.pos : Int) + 1))).drewN nq)).setCell 6 (.slice (some ⟨bd, o + (x.pos + 1), none⟩) n (cap - (x.pos + 1)))).setCell 2 (.int .i64 ((x.pos : Int) + 1 + (n + 1)))
      have hk1 := (((((Kept.refl b w).setCell 2 (.int .i64 ((x.pos : Int) + 1))).drewN nq)).setCell 6 (.slice (some ⟨bd, o + (x.pos + 1), none⟩) n (cap - (x.pos + 1))))
      exact ⟨rfl, _, _, (((H.out.setPos (x.pos + 1)).drewN nq).setTok _ ((x.d.drop (x.pos + 1)).take n) ((htok.out n (by omega)).kept hk1)).setPos (x.pos + 1 + (n + 1)), hk⟩
  | false =>
    have hn := hbd.2 rfl
    clear hbd
    rcases ho with ⟨h1, h2⟩ | ⟨h1, h2⟩
    · obtain rfl := h2
      have HCI := Lib.hid h1
      have hci1 : cap ≤ x.pos + 1 := by omega
      have hci2 : x.pos + 1 ≤ cap := by omega
      clear h1
      have hwf : ({ x with pos := x.pos + 1 + n } : Lx).Wf := ⟨hw.len, by show x.pos + 1 + n ≤ x.d.length; omega, by show x.start ≤ x.pos + 1 + n; omega, hw.byte⟩
      have HW := Lib.hid hwf
      clear hwf
      go_enter Tryz.func119, Tryz.ntmps119
      go_wp2
      go_quiet (fail)
      go_wp2_with (first | (go_at_call 144; refine (HC.out nq _ (by omega)).mono ?_; rintro e w' ⟨rfl, rfl⟩) | (go_at_call 117; refine (errParse_any (x := { x with pos := x.pos + 1 + n }) (ae := ae) (ao := ao) (vd := .slice (some ⟨bd, o', none⟩) x.d.length cap) (vt := vt) (ve := ve) (vm := vm) (((H.out.setPos (x.pos + 1)).drewN nq).setPos (x.pos + 1 + n)) HW.out _).mono ?_; rintro e w' ⟨rfl, hf⟩))
      (try simp only [Exit.inBlock, Exit.then])
      refine bodyPost_ret (results_none rfl _ _ _) rfl ?_
      rw [hfs.out]
      obtain ⟨ve', g1, g2⟩ := hf
      exact ⟨rfl, _, ve', g1, ((((Kept.refl b w).setCell 2 _).drewN _).setCell 2 _).trans g2⟩
    · subst h2
      have hwf : ({ x with pos := x.pos + 1 + n } : Lx).Wf := ⟨hw.len, by show x.pos + 1 + n ≤ x.d.length; omega, by show x.start ≤ x.pos + 1 + n; omega, hw.byte⟩
      have HW := Lib.hid hwf
      clear hwf
      go_enter Tryz.func119, Tryz.ntmps119
      go_wp2
      go_quiet (fail)
      go_wp2_with (first | (go_at_call 144; refine (HC.out nq _ (by omega)).mono ?_; rintro e w' ⟨rfl, rfl⟩) | (go_at_call 117; refine (errParse_any (x := { x with pos := x.pos + 1 + n }) (ae := ae) (ao := ao) (vd := .slice (some ⟨bd, o, none⟩) x.d.length cap) (vt := vt) (ve := ve) (vm := vm) (((H.out.setPos (x.pos + 1)).drewN nq).setPos (x.pos + 1 + n)) HW.out _).mono ?_; rintro e w' ⟨rfl, hf⟩))
      (try simp only [Exit.inBlock, Exit.then])
      refine bodyPost_ret (results_none rfl _ _ _) rfl ?_
      rw [hfs.out]
      obtain ⟨ve', g1, g2⟩ := hf
      exact ⟨rfl, _, ve', g1, ((((Kept.refl b w).setCell 2 _).drewN _).setCell 2 _).trans g2⟩
theorem fetchString_any (h : LexAt w b ae ao x vd vt ve vm) (hw : x.Wf) (hp : x.pos < x.d.length) :
    Calls Tryz.prog 119 #[.pointer (some ⟨b, 0, none⟩)] w fun e w' => e = .returned (.tuple #[]) ∧ NumDone w b ae ao x.fetchString vd vm w' := by
  obtain ⟨bd, o, cap, rfl, hcap, hne, hx⟩ := h.bytes (by omega)
  by_cases hc : cap = x.pos + 1
  · exact fetchString_at bd o cap o h hw hp hcap hne (.inl ⟨hc, rfl⟩)
  · exact fetchString_at bd o cap _ h hw hp hcap hne (.inr ⟨hc, rfl⟩)
end
end Go.Proofs.YtaecbclonmhbcaaGreatDoor

namespace Go.Proofs.YtaecbclonmhbcaaGreatDoor
section
variable {x : Lx} {c : Int} {cs : List Int}
theorem fail_d : x.fail.d = x.d := by unfold Lx.fail; split <;> rfl
theorem fail_pos : x.fail.pos = x.pos := by unfold Lx.fail; split <;> rfl
theorem fail_start : x.fail.start = x.start := by unfold Lx.fail; split <;> rfl
theorem fail_multi : x.fail.multi = x.multi := by unfold Lx.fail; split <;> rfl
theorem Lx.Wf.as {x y : Lx} (h : x.Wf) (hd : y.d = x.d) (hp : y.pos = x.pos) (hs : y.start = x.start) : y.Wf :=
  ⟨by rw [hd]; exact h.len, by rw [hd, hp]; exact h.pos, by rw [hp, hs]; exact h.start, by rw [hd]; exact h.byte⟩
theorem Lx.Wf.fail {x : Lx} (h : x.Wf) : x.fail.Wf := h.as fail_d fail_pos fail_start
theorem sepFail_zero (h : x.sep = 0) : x.sepFail = x := by unfold Lx.sepFail; simp [h]
theorem sepFail_ne (h : x.sep ≠ 0) : x.sepFail = x.fail := by unfold Lx.sepFail; simp [h]
theorem scan_sep (hc : c = 58 ∨ c = 44) : Lx.scan x (c :: cs) = if x.sep == c then Lx.scan { x with pos := x.pos + 1, start := x.start + 1, sep := 0 } cs else Lx.scan x.fail cs := by
  rcases hc with rfl | rfl <;> rfl
theorem scan_blank (hc : c = 32 ∨ c = 9 ∨ c = 13 ∨ c = 10) : Lx.scan x (c :: cs) = Lx.scan { x with pos := x.pos + 1, start := x.start + 1 } cs := by
  rcases hc with rfl | rfl | rfl | rfl <;> rfl
theorem scan_str : Lx.scan x (34 :: cs) = Lx.fetchString { x.sepFail with kind := 2 } := rfl
theorem scan_open (hc : c = 123 ∨ c = 91) : Lx.scan x (c :: cs) = { x.sepFail with fst := true, kind := 1, delim := x.d.getD x.pos 0, pos := x.pos + 1 } := by
  rcases hc with rfl | rfl <;> rfl
theorem scan_close (hc : c = 125 ∨ c = 93) : Lx.scan x (c :: cs) = { (if !x.fst && x.sep != 44 then x.fail else x) with sep := 0, kind := 1, delim := x.d.getD x.pos 0, pos := x.pos + 1 } := by
  rcases hc with rfl | rfl <;> rfl
theorem scan_num (hc : c = 45 ∨ c = 48 ∨ c = 49 ∨ c = 50 ∨ c = 51 ∨ c = 52 ∨ c = 53 ∨ c = 54 ∨ c = 55 ∨ c = 56 ∨ c = 57) : Lx.scan x (c :: cs) = Lx.fetchNumber { x.sepFail with kind := 3 } := by
  rcases hc with rfl | rfl | rfl | rfl | rfl | rfl | rfl | rfl | rfl | rfl | rfl <;> rfl
theorem scan_n : Lx.scan x (110 :: cs) = Lx.word { x.sepFail with kind := 5 } [117, 108, 108] := rfl
theorem scan_t : Lx.scan x (116 :: cs) = Lx.word { x.sepFail with kind := 4, bv := true } [114, 117, 101] := rfl
theorem scan_f : Lx.scan x (102 :: cs) = Lx.word { x.sepFail with kind := 4, bv := false } [97, 108, 115, 101] := rfl
theorem scan_else (h58 : c ≠ 58) (h44 : c ≠ 44) (hb : isBl c = false) (h34 : c ≠ 34) (h123 : c ≠ 123) (h91 : c ≠ 91) (h125 : c ≠ 125) (h93 : c ≠ 93) (hd : isDig c = false) (h45 : c ≠ 45)
    (hn : c ≠ 110) (ht : c ≠ 116) (hf : c ≠ 102) : Lx.scan x (c :: cs) = x.fail := by
  simp only [Lx.scan, beq_eq_false_iff_ne.2 h58, beq_eq_false_iff_ne.2 h44, hb, beq_eq_false_iff_ne.2 h34, beq_eq_false_iff_ne.2 h123, beq_eq_false_iff_ne.2 h91, beq_eq_false_iff_ne.2 h125, beq_eq_false_iff_ne.2 h93, hd,
    beq_eq_false_iff_ne.2 h45, beq_eq_false_iff_ne.2 hn, beq_eq_false_iff_ne.2 ht, beq_eq_false_iff_ne.2 hf, Bool.or_self, Bool.false_eq_true, if_false]
end
end Go.Proofs.YtaecbclonmhbcaaGreatDoor
