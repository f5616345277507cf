/- strconv.ParseInt(s, 10, n) at every text: a number, no error or a new *NumError. Printed by gen_psi.py. (*strconv.NumError).Error, at the errors that strconv gives: it returns some text. The token's bytes are bytes of the text. Plain. A number's token is not empty, and of the signs that stand in numbers. Plain. -/
import Derived.Test.YtaecbclonmhbcaaGreatDoorG31
import Derived.Shelf.Strconv.ParseIntPublic10
import Derived.Test.YtaecbclonmhbcaaGreatDoorG25
import Derived.Test.YtaecbclonmhbcaaGreatDoorG30
import Derived.Test.YtaecbclonmhbcaaGreatDoorG02
import Derived.Test.YtaecbclonmhbcaaGreatDoorG19
set_option linter.unusedVariables false
set_option linter.unusedSimpArgs false
/- strconv.ParseInt(s, 10, n) at every text: a number, no error or a new *NumError. Printed by gen_psi.py. -/
namespace Go.Proofs.YtaecbclonmhbcaaGreatDoor
open Go.RowKit

def PsV (s : ByteArray) (w : World) (e : Ending) (w' : World) : Prop := ∃ (u : Int) (er : Value), e = .returned (.tuple #[.int .i64 u, er]) ∧ NErr s w w' er ∧ Kept w.heap.size w w'

theorem parseInt8_any (s : ByteArray) (w : World) (hs : s.size ≤ 100000) (h3 : ∃ te pe, w.cell? ⟨3, 0, none⟩ = some (.iface te pe)) (h4 : ∃ te pe, w.cell? ⟨4, 0, none⟩ = some (.iface te pe)) :
    Calls Tryz.prog 116 #[.string s, .int .i64 10, .int .i64 8] w (PsV s w) := by
  obtain ⟨t3, p3, c3⟩ := h3
  obtain ⟨t4, p4, c4⟩ := h4
  cases h : Lib.parseIntB 8 s.data.toList
  · rename_i u
    exact (Any.strconv_ParseInt_10_at8_ok sh_laysC174 s (by omega) u h w).mono fun e w' h => ⟨u, _, h.1, .inl rfl, by rcases h.2 with h | ⟨t, h⟩; exact h ▸ Kept.refl _ _; exact h ▸ kept_bytesWorld w t⟩
  · exact (Any.strconv_ParseInt_10_at8_syntax sh_laysC174 s (by omega) h _ w c3 (.inr ⟨_, _, rfl⟩)).mono fun e w' ⟨N, a1, a2, a3, a4⟩ => ⟨_, _, a1, .inr ⟨N, 3, _, _, rfl, a2, a3, by decide, .inl rfl, (Kept.of_below a4 rfl).old (Nat.le_refl _) c3⟩, Kept.of_below a4 rfl⟩
  · exact (Any.strconv_ParseInt_10_at8_range sh_laysC174 s (by omega) h _ w c4 (.inr ⟨_, _, rfl⟩)).mono fun e w' ⟨N, a1, a2, a3, a4⟩ => ⟨_, _, a1, .inr ⟨N, 4, _, _, rfl, a2, a3, by decide, .inr rfl, (Kept.of_below a4 rfl).old (Nat.le_refl _) c4⟩, Kept.of_below a4 rfl⟩

theorem parseInt16_any (s : ByteArray) (w : World) (hs : s.size ≤ 100000) (h3 : ∃ te pe, w.cell? ⟨3, 0, none⟩ = some (.iface te pe)) (h4 : ∃ te pe, w.cell? ⟨4, 0, none⟩ = some (.iface te pe)) :
    Calls Tryz.prog 116 #[.string s, .int .i64 10, .int .i64 16] w (PsV s w) := by
  obtain ⟨t3, p3, c3⟩ := h3
  obtain ⟨t4, p4, c4⟩ := h4
  cases h : Lib.parseIntB 16 s.data.toList
  · rename_i u
    exact (Any.strconv_ParseInt_10_at16_ok sh_laysC174 s (by omega) u h w).mono fun e w' h => ⟨u, _, h.1, .inl rfl, by rcases h.2 with h | ⟨t, h⟩; exact h ▸ Kept.refl _ _; exact h ▸ kept_bytesWorld w t⟩
  · exact (Any.strconv_ParseInt_10_at16_syntax sh_laysC174 s (by omega) h _ w c3 (.inr ⟨_, _, rfl⟩)).mono fun e w' ⟨N, a1, a2, a3, a4⟩ => ⟨_, _, a1, .inr ⟨N, 3, _, _, rfl, a2, a3, by decide, .inl rfl, (Kept.of_below a4 rfl).old (Nat.le_refl _) c3⟩, Kept.of_below a4 rfl⟩
  · exact (Any.strconv_ParseInt_10_at16_range sh_laysC174 s (by omega) h _ w c4 (.inr ⟨_, _, rfl⟩)).mono fun e w' ⟨N, a1, a2, a3, a4⟩ => ⟨_, _, a1, .inr ⟨N, 4, _, _, rfl, a2, a3, by decide, .inr rfl, (Kept.of_below a4 rfl).old (Nat.le_refl _) c4⟩, Kept.of_below a4 rfl⟩

theorem parseInt32_any (s : ByteArray) (w : World) (hs : s.size ≤ 100000) (h3 : ∃ te pe, w.cell? ⟨3, 0, none⟩ = some (.iface te pe)) (h4 : ∃ te pe, w.cell? ⟨4, 0, none⟩ = some (.iface te pe)) :
    Calls Tryz.prog 116 #[.string s, .int .i64 10, .int .i64 32] w (PsV s w) := by
  obtain ⟨t3, p3, c3⟩ := h3
  obtain ⟨t4, p4, c4⟩ := h4
  cases h : Lib.parseIntB 32 s.data.toList
  · rename_i u
    exact (Any.strconv_ParseInt_10_at32_ok sh_laysC174 s (by omega) u h w).mono fun e w' h => ⟨u, _, h.1, .inl rfl, by rcases h.2 with h | ⟨t, h⟩; exact h ▸ Kept.refl _ _; exact h ▸ kept_bytesWorld w t⟩
  · exact (Any.strconv_ParseInt_10_at32_syntax sh_laysC174 s (by omega) h _ w c3 (.inr ⟨_, _, rfl⟩)).mono fun e w' ⟨N, a1, a2, a3, a4⟩ => ⟨_, _, a1, .inr ⟨N, 3, _, _, rfl, a2, a3, by decide, .inl rfl, (Kept.of_below a4 rfl).old (Nat.le_refl _) c3⟩, Kept.of_below a4 rfl⟩
  · exact (Any.strconv_ParseInt_10_at32_range sh_laysC174 s (by omega) h _ w c4 (.inr ⟨_, _, rfl⟩)).mono fun e w' ⟨N, a1, a2, a3, a4⟩ => ⟨_, _, a1, .inr ⟨N, 4, _, _, rfl, a2, a3, by decide, .inr rfl, (Kept.of_below a4 rfl).old (Nat.le_refl _) c4⟩, Kept.of_below a4 rfl⟩

theorem parseInt64_any (s : ByteArray) (w : World) (hs : s.size ≤ 100000) (h3 : ∃ te pe, w.cell? ⟨3, 0, none⟩ = some (.iface te pe)) (h4 : ∃ te pe, w.cell? ⟨4, 0, none⟩ = some (.iface te pe)) :
    Calls Tryz.prog 116 #[.string s, .int .i64 10, .int .i64 64] w (PsV s w) := by
  obtain ⟨t3, p3, c3⟩ := h3
  obtain ⟨t4, p4, c4⟩ := h4
  cases h : Lib.parseIntB 64 s.data.toList
  · rename_i u
    exact (Any.strconv_ParseInt_10_at64_ok sh_laysC174 s (by omega) u h w).mono fun e w' h => ⟨u, _, h.1, .inl rfl, by rcases h.2 with h | ⟨t, h⟩; exact h ▸ Kept.refl _ _; exact h ▸ kept_bytesWorld w t⟩
  · exact (Any.strconv_ParseInt_10_at64_syntax sh_laysC174 s (by omega) h _ w c3 (.inr ⟨_, _, rfl⟩)).mono fun e w' ⟨N, a1, a2, a3, a4⟩ => ⟨_, _, a1, .inr ⟨N, 3, _, _, rfl, a2, a3, by decide, .inl rfl, (Kept.of_below a4 rfl).old (Nat.le_refl _) c3⟩, Kept.of_below a4 rfl⟩
  · exact (Any.strconv_ParseInt_10_at64_range sh_laysC174 s (by omega) h _ w c4 (.inr ⟨_, _, rfl⟩)).mono fun e w' ⟨N, a1, a2, a3, a4⟩ => ⟨_, _, a1, .inr ⟨N, 4, _, _, rfl, a2, a3, by decide, .inr rfl, (Kept.of_below a4 rfl).old (Nat.le_refl _) c4⟩, Kept.of_below a4 rfl⟩
end Go.Proofs.YtaecbclonmhbcaaGreatDoor

/- (*strconv.NumError).Error, at the errors that strconv gives: it returns some text. -/
namespace Go.Proofs.YtaecbclonmhbcaaGreatDoor
open Go.RowKit

set_option maxHeartbeats 1000000 in
/-- (*errors.errorString).Error. -/
theorem errString_any (a : Addr) (t : ByteArray) (w : World) (h : w.cell? a = some (.string t)) : Calls Tryz.prog 282 #[.pointer (some a)] w fun e w' => e = .returned (.string t) ∧ w = w' := by
  obtain ⟨b, o, sp⟩ := a
  obtain rfl : sp = none := World.cell?_spot h
  go_enter Tryz.func282, Tryz.ntmps282
  go_wp2
  go_ret
  exact ⟨rfl, rfl⟩

set_option maxHeartbeats 1000000 in
set_option maxRecDepth 100000 in
theorem numErrText_any {W : World} (hT : Tabs W) {N g : Nat} {fn s : ByteArray} {ev : Value} (hh : W.heap[N]? = some (.cells #[.string fn, .string s, ev] 189 (0, 0))) (hf : fn.size ≤ 1000) (hs : s.size ≤ 100000) (hg : g = 3 ∨ g = 4) (hc : W.cell? ⟨g, 0, none⟩ = some ev) :
    Calls Tryz.prog 279 #[.pointer (some ⟨N, 0, none⟩)] W fun e w' => (∃ t, e = .returned (.string t)) ∧ Below W.heap.size W w' := by
  obtain ⟨a, t, rfl, hta, htz⟩ : ∃ (a : Addr) (t : ByteArray), ev = .iface 191 (.pointer (some a)) ∧ W.cell? a = some (.string t) ∧ t.size ≤ 1000 := by
    rcases hg with rfl | rfl
    · obtain ⟨a, t, h1, h2, h3⟩ := hT.e3
      exact ⟨a, t, Option.some.inj (hc.symm.trans h1), h2, h3⟩
    · obtain ⟨a, t, h1, h2, h3⟩ := hT.e4
      exact ⟨a, t, Option.some.inj (hc.symm.trans h1), h2, h3⟩
  have hsz : (strOfNums (Lib.quoteZ Lib.goPrintTabs s)).size ≤ 10 * s.size + 2 := by rw [strOfNums_size]; exact Lib.quoteZ_length_le _ s
  refine (Any.NumError_Error sh_laysFn4 N 0 fn s (strOfNums (Lib.quoteZ Lib.goPrintTabs s)) t 191 (.pointer (some a)) 282 (.pointer (some a)) W
    (cell_of_heap hh 0 rfl) (cell_of_heap hh 1 rfl) (cell_of_heap hh 2 rfl) (by omega)
    (fun W' h => Any.strconv_Quote sh_lays177 (by kernel_rfl) Lib.goPrintTabs s W' (by omega) (printTabs_below hT.pr h) (Utf8Tabs_below hT.u8 h))
    (fun W' => by show _ = _; kernel_rfl)
    (enters_of Tryz.func282 (by kernel_rfl) rfl)
    (fun W' h => (errString_any a t W' ((Kept.of_below h rfl).old (Nat.le_refl _) hta)).mono fun e w' ⟨h1, h2⟩ => ⟨h1, by rw [← h2]; exact Below.refl _ _⟩)).mono ?_
  rintro e w' ⟨rfl, h⟩
  exact ⟨⟨_, rfl⟩, h⟩
end Go.Proofs.YtaecbclonmhbcaaGreatDoor

/- The token's bytes are bytes of the text. Plain. -/
namespace Go.Proofs.YtaecbclonmhbcaaGreatDoor

/-- A string's or number's token holds bytes, no more than the text. -/
def Lx.TF (x : Lx) : Prop := x.ok = true → x.kind = 2 ∨ x.kind = 3 → x.tok.length ≤ x.d.length ∧ Bytes x.tok

section
variable {x : Lx}
theorem fail_ok : x.fail.ok = false := by
  unfold Lx.fail
  split
  · rfl
  · rename_i h; exact Bool.eq_false_iff.2 h
theorem fail_tf : x.fail.TF := fun h => by rw [fail_ok] at h; cases h
theorem tf_kind (h : x.kind ≠ 2 ∧ x.kind ≠ 3) : x.TF := fun _ hk => by rcases hk with e | e; exact absurd e h.1; exact absurd e h.2
theorem bytes_cut {l : List Int} (h : Bytes l) (a n : Nat) : ((l.drop a).take n).length ≤ l.length ∧ Bytes ((l.drop a).take n) := by
  refine ⟨by rw [List.length_take, List.length_drop]; omega, fun i => ?_⟩
  by_cases hi : i < n
  · have : ((l.drop a).take n).getD i 0 = (l.drop a).getD i 0 := by simp [List.getD, hi]
    rw [this]; exact h.drop a i
  · have : ((l.drop a).take n).getD i 0 = 0 := by simp [List.getD, List.getElem?_take, hi]
    rw [this]; omega
theorem word_tf (h : x.kind ≠ 2 ∧ x.kind ≠ 3) (ws : List Int) : (x.word ws).TF := by
  unfold Lx.word
  split
  · exact tf_kind h
  · exact fail_tf
theorem fetchString_tf (h : Bytes x.d) : x.fetchString.TF := by
  unfold Lx.fetchString
  split
  · exact fun _ _ => bytes_cut h _ _
  · exact fail_tf
theorem fetchNumber_tf (h : Bytes x.d) : x.fetchNumber.TF := by
  unfold Lx.fetchNumber
  split
  · exact fun _ _ => ⟨by rw [List.length_drop]; exact Nat.sub_le _ _, h.drop _⟩
  · split
    · exact fun _ _ => bytes_cut h _ _
    · exact fail_tf
theorem scan_tf : ∀ (cs : List Int) (x : Lx), Bytes x.d → x.kind = 0 → (Lx.scan x cs).TF
  | [], x, _, _ => fun h => by simp [Lx.scan, Lx.ok, Er.isNil] at h
  | c :: cs, x, h, hk => by
    have e1 := (sepFail_same (x := x)).d
    unfold Lx.scan
    split
    · split
      · exact scan_tf cs _ h hk
      · exact scan_tf cs _ (by rw [fail_d]; exact h) (by unfold Lx.fail; split <;> exact hk)
    split
    · exact scan_tf cs _ h hk
    split
    · exact fetchString_tf (by show Bytes x.sepFail.d; rw [e1]; exact h)
    split
    · exact tf_kind (by show (1 : Nat) ≠ 2 ∧ (1 : Nat) ≠ 3; decide)
    split
    · exact tf_kind (by show (1 : Nat) ≠ 2 ∧ (1 : Nat) ≠ 3; decide)
    split
    · exact fetchNumber_tf (by show Bytes x.sepFail.d; rw [e1]; exact h)
    split
    · exact word_tf (x := { x.sepFail with kind := 5 }) (by show (5 : Nat) ≠ 2 ∧ (5 : Nat) ≠ 3; decide) _
    split
    · exact word_tf (x := { x.sepFail with kind := 4, bv := true }) (by show (4 : Nat) ≠ 2 ∧ (4 : Nat) ≠ 3; decide) _
    split
    · exact word_tf (x := { x.sepFail with kind := 4, bv := false }) (by show (4 : Nat) ≠ 2 ∧ (4 : Nat) ≠ 3; decide) _
    · exact fail_tf
theorem fetch_tf (h : Bytes x.d) : x.fetch.TF := scan_tf _ _ h rfl
theorem peek_tf (h : x.TF) (hb : Bytes x.d) : x.peek.TF := by unfold Lx.peek; split; exact fetch_tf hb; exact h
end
end Go.Proofs.YtaecbclonmhbcaaGreatDoor

/- A number's token is not empty, and of the signs that stand in numbers. Plain. -/
namespace Go.Proofs.YtaecbclonmhbcaaGreatDoor

def NumL (l : List Int) : Prop := ∀ c ∈ l, NumCh c
def Lx.NF (x : Lx) : Prop := x.ok = true → x.kind = 3 → x.tok ≠ [] ∧ NumL x.tok

theorem dig_num {c : Int} (h : isDig c = true) : NumCh c := by
  simp only [isDig, Bool.and_eq_true, decide_eq_true_eq] at h
  exact .inl h
theorem numScan_num : ∀ (l : List Int) (e a t : Bool), (∀ c ∈ l.take (numScan l e a t).1, NumCh c) ∧ ((numScan l e a t).2 = none → (numScan l e a t).1 = l.length)
  | [], _, _, _ => ⟨fun c h => by simp at h, fun _ => rfl⟩
  | c :: cs, e, a, t => by
    have step : ∀ (e' a' t' : Bool), NumCh c → (∀ x ∈ (c :: cs).take ((numScan cs e' a' t').1 + 1), NumCh x) ∧ ((numScan cs e' a' t').2 = none → (numScan cs e' a' t').1 + 1 = (c :: cs).length) := by
      intro e' a' t' hc
      obtain ⟨h1, h2⟩ := numScan_num cs e' a' t'
      refine ⟨fun x hx => ?_, fun h => by rw [h2 h]; rfl⟩
      rw [List.take_succ_cons, List.mem_cons] at hx
      rcases hx with rfl | hx
      · exact hc
      · exact h1 x hx
    simp only [numScan]
    split
    · rename_i h; exact step _ _ _ (dig_num h)
    split
    · rename_i h
      simp only [Bool.and_eq_true, beq_iff_eq] at h
      exact step _ _ _ (.inr (.inl h.1))
    split
    · rename_i h
      simp only [Bool.and_eq_true, Bool.or_eq_true, beq_iff_eq] at h
      exact step _ _ _ (by unfold NumCh; omega)
    split
    · rename_i h
      simp only [Bool.and_eq_true, Bool.or_eq_true, beq_iff_eq] at h
      exact step _ _ _ (by unfold NumCh; omega)
    · exact ⟨fun x hx => by simp at hx, fun h => by simp at h⟩

section
variable {x : Lx}
theorem fail_nf : x.fail.NF := fun h => by rw [fail_ok] at h; cases h
theorem nf_kind (h : x.kind ≠ 3) : x.NF := fun _ e => absurd e h
theorem nf_notok (h : x.ok = false) : x.NF := fun e => by rw [h] at e; cases e
theorem word_nf (h : x.kind ≠ 3) (ws : List Int) : (x.word ws).NF := by
  unfold Lx.word
  split
  · exact nf_kind h
  · exact fail_nf
theorem fetchString_nf (h : x.kind ≠ 3) : x.fetchString.NF := by
  unfold Lx.fetchString
  split
  · exact nf_kind h
  · exact fail_nf
theorem fetchNumber_notok (h : x.ok = false) : x.fetchNumber.ok = false := by
  unfold Lx.fetchNumber
  split
  · exact h
  · split
    · exact h
    · exact fail_ok
theorem fetchNumber_nf {c : Int} {cs : List Int} (hd : x.d.drop x.pos = c :: cs) (hs : x.start = x.pos) (hc : NumCh c) : x.fetchNumber.NF := by
  have hd1 : x.d.drop (x.pos + 1) = cs := by rw [← List.drop_drop, hd]; rfl
  obtain ⟨h1, h2⟩ := numScan_num cs false false false
  unfold Lx.fetchNumber
  rw [hd1]
  split
  · rename_i n hn
    rw [hn] at h1 h2
    simp only [forall_const] at h2
    intro _ _
    show x.d.drop x.start ≠ [] ∧ NumL (x.d.drop x.start)
    rw [hs, hd]
    refine ⟨by simp, fun y hy => ?_⟩
    rw [List.mem_cons] at hy
    rcases hy with rfl | hy
    · exact hc
    · exact h1 y (by rw [h2, List.take_length]; exact hy)
  · rename_i n c' hn
    rw [hn] at h1
    split
    · intro _ _
      show (x.d.drop x.start).take (x.pos + 1 + n - x.start) ≠ [] ∧ NumL ((x.d.drop x.start).take (x.pos + 1 + n - x.start))
      rw [hs, hd, show x.pos + 1 + n - x.pos = n + 1 by omega, List.take_succ_cons]
      refine ⟨by simp, fun y hy => ?_⟩
      rw [List.mem_cons] at hy
      rcases hy with rfl | hy
      · exact hc
      · exact h1 y hy
    · exact fail_nf
theorem sepFail_ok_eq (h : x.sepFail.ok = true) : x.sepFail = x ∧ x.ok = true := by
  unfold Lx.sepFail at h ⊢
  split at h
  · rw [fail_ok] at h; cases h
  · rename_i h'; rw [if_neg h']; exact ⟨rfl, h⟩
theorem fail_kind0 (h : x.kind = 0) : x.fail.kind = 0 := by unfold Lx.fail; split <;> exact h
theorem scan_nf : ∀ (cs : List Int) (x : Lx), (x.ok = true → x.start = x.pos ∧ x.d.drop x.pos = cs) → x.kind = 0 → (Lx.scan x cs).NF
  | [], x, _, _ => nf_notok (by simp [Lx.scan, Lx.ok, Er.isNil])
  | c :: cs, x, h, hk => by
    have hnext : x.ok = true → x.start + 1 = x.pos + 1 ∧ x.d.drop (x.pos + 1) = cs := fun e => by
      obtain ⟨h1, h2⟩ := h e
      exact ⟨by rw [h1], by rw [← List.drop_drop, h2]; rfl⟩
    unfold Lx.scan
    split
    · split
      · exact scan_nf cs _ hnext hk
      · exact scan_nf cs _ (fun e => by rw [fail_ok] at e; cases e) (fail_kind0 hk)
    split
    · exact scan_nf cs _ hnext hk
    split
    · exact fetchString_nf (by show (2 : Nat) ≠ 3; decide)
    split
    · exact nf_kind (by show (1 : Nat) ≠ 3; decide)
    split
    · exact nf_kind (by show (1 : Nat) ≠ 3; decide)
    split
    · rename_i hc
      have hn : NumCh c := by
        simp only [Bool.or_eq_true, beq_iff_eq] at hc
        rcases hc with hc | hc
        · exact dig_num hc
        · unfold NumCh; omega
      cases hs : x.sepFail.ok with
      | false => exact nf_notok (fetchNumber_notok (x := { x.sepFail with kind := 3 }) hs)
      | true =>
        obtain ⟨e, ho⟩ := sepFail_ok_eq hs
        rw [e]
        obtain ⟨h1, h2⟩ := h ho
        exact fetchNumber_nf (x := { x with kind := 3 }) h2 h1 hn
    split
    · exact word_nf (x := { x.sepFail with kind := 5 }) (by show (5 : Nat) ≠ 3; decide) _
    split
    · exact word_nf (x := { x.sepFail with kind := 4, bv := true }) (by show (4 : Nat) ≠ 3; decide) _
    split
    · exact word_nf (x := { x.sepFail with kind := 4, bv := false }) (by show (4 : Nat) ≠ 3; decide) _
    · exact fail_nf
theorem fetch_nf : x.fetch.NF := scan_nf _ _ (fun _ => ⟨rfl, rfl⟩) rfl
theorem peek_nf (h : x.NF) : x.peek.NF := by unfold Lx.peek; split; exact fetch_nf; exact h

theorem numS_of {l : List Int} (hb : Bytes l) (h : NumL l) : NumS (strOfNums l) := by
  intro j hj
  have hj' : j < l.length := by rw [strOfNums_size] at hj; exact hj
  have e : (strOfNums l)[j] = UInt8.ofNat (l[j]).toNat := by
    have h1 : (strOfNums l).data.toList[j]? = some (UInt8.ofNat (l[j]).toNat) := by rw [strOfNums_data]; simp [hj']
    have h2 : (strOfNums l).data.toList[j]? = some (strOfNums l)[j] := by
      show (strOfNums l).data.toList[j]? = some (strOfNums l).data[j]
      simp
    exact Option.some.inj (h2.symm.trans h1)
  have hbj := hb j
  have e2 : l.getD j 0 = l[j] := by simp [List.getD, hj']
  rw [e2] at hbj
  have e3 : (((strOfNums l)[j].toNat : Nat) : Int) = l[j] := by
    rw [e, UInt8.toNat_ofNat']
    omega
  rw [e3]
  exact h _ (List.getElem_mem hj')
end
end Go.Proofs.YtaecbclonmhbcaaGreatDoor
