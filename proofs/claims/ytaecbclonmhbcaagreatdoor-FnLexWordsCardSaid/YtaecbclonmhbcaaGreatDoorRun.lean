/- impl.Lex over a row of calls. -/
import Derived.Test.YtaecbclonmhbcaaGreatDoorSteps
namespace Go.Proofs.YtaecbclonmhbcaaGreatDoor
open Go.RowKit

theorem info30 : (Tryz.prog.info? 30).map (fun i => (i.zero, i.size, i.bytes)) = some (some (Value.agg #[.int .i64 0, .slice none 0 0, .int .i64 0, .int .i64 0]), 4, 48) := by kernel_rfl

/-- One more result behind the others. -/
theorem append_got {w : World} {base : Nat} {v : Value} {n : Nat} {xs : List Value} (hown : w.ownsRow base 30 4 v n xs) (ad : Addr) (c : Nat) (news : List Value) (hl : news.length = 4)
    (hnews : ∀ j u, news[j]? = some u → w.cell? (ad.add j) = some u) (h1 : ∀ u ∈ news, u.oneCell' = true) (hn : n ≤ 1000000) (hbase : base ≤ w.heap.size) :
    ∃ v' w', (Builtin.append_ #[24, 24] 24 #[v, .slice (some ad) 1 c]).run Tryz.prog w = .ok v' w' ∧ w'.ownsRow base 30 4 v' (n + 1) (xs ++ news) ∧ w.grownBy w' v.ownBlock ∧
      (v'.ownBlock = v.ownBlock ∨ ∃ k, w.heap.size ≤ k ∧ v'.ownBlock = some k) := by
  obtain ⟨i, hi, hz, hz1, hz2⟩ := info_parts info30
  obtain ⟨v', w', hr, h2, h3, h4⟩ := run_append_own (P := Tryz.prog) w base 24 24 30 i _ 4 48 Tryz.underlying24 hi hz hz1 hz2 rfl (by decide) v n xs hown ad 1 c news (by omega) hnews h1 (by unfold maxLen; omega) (by omega) hbase
  refine ⟨v', w', hr, h2, h3, ?_⟩
  rcases hown.2 with ⟨rfl, rfl⟩ | ⟨g, cap, cur, rfl, hbg, hg, hnc, hcm, hcs, htake⟩
  · have hr' := run_append_nil (P := Tryz.prog) w 24 24 30 i _ Tryz.underlying24 hi hz ad 1 c news (by omega) hnews (by omega) (by omega) (by omega)
    rw [hr] at hr'
    simp only [Result.ok.injEq] at hr'
    rw [hr'.1]
    exact .inr ⟨_, Nat.le_refl _, rfl⟩
  · by_cases hroom : n + 1 ≤ cap
    · obtain ⟨w2, hr', -⟩ := run_append_fits (P := Tryz.prog) w base 24 24 30 i 4 Tryz.underlying24 hi hz1 g n cap xs hown ad 1 c news (by omega) hnews h1 hroom
      rw [hr] at hr'
      simp only [Result.ok.injEq] at hr'
      rw [hr'.1]
      exact .inl rfl
    · have hr' := run_append_grow (P := Tryz.prog) w 24 24 30 i _ Tryz.underlying24 hi hz ⟨g, 0, none⟩ n cap xs (by rw [hown.1, hz1]) (hown.cells (g := g) rfl) ad 1 c news (by omega) hnews (by omega) (by omega) (growslice_fits (by omega) (by rw [hz2]; omega))
      rw [hr] at hr'
      simp only [Result.ok.injEq] at hr'
      rw [hr'.1]
      exact .inr ⟨_, Nat.le_refl _, rfl⟩

/-- The cells of what was told. -/
def gotCells (l : List (Int × Int × Int)) : List Value := l.flatMap fun g => [.int .i64 g.1, .slice none 0 0, .int .i64 g.2.1, .int .i64 g.2.2]

/-- A row of calls lies at ⟨cb, co⟩. -/
def CallsAt (w : World) (cb co : Nat) (cs : List (Int × Int)) : Prop :=
  ∀ k, k < cs.length → w.cell? ⟨cb, co + k * 3, none⟩ = some (.int .i64 (cs.getD k (0, 0)).1) ∧ w.cell? ⟨cb, co + k * 3 + 1, none⟩ = some (.int .i64 (cs.getD k (0, 0)).2) ∧ w.cell? ⟨cb, co + k * 3 + 2, none⟩ = some (.slice none 0 0)

theorem gotCells_snoc (l : List (Int × Int × Int)) (g : Int × Int × Int) : gotCells (l ++ [g]) = gotCells l ++ [.int .i64 g.1, .slice none 0 0, .int .i64 g.2.1, .int .i64 g.2.2] := by simp [gotCells]

/-- The block that holds what is gathered. -/
def Sur.own (ae : Sur) (v : Value) : Sur := ⟨ae.addr, fun j => v.ownBlock = some j⟩

section
variable {w w1 w2 : World} {b : Nat} {ae : Sur} {ao : Addr} {x : Lx} {vd vt ve vm : Value}
theorem newCall_grown (w : World) (o : Obj) (a c d : Value) : w.grownBy ((((w.alloc o).setCell ⟨w.heap.size, 0, none⟩ a).setCell ⟨w.heap.size, 1, none⟩ c).setCell ⟨w.heap.size, 2, none⟩ d) none :=
  ⟨rfl, rfl, rfl, by simp, fun k hk _ => by
    rw [heap_setCell_other _ _ (by omega), heap_setCell_other _ _ (by omega), heap_setCell_other _ _ (by omega)]
    exact heap_alloc_lt hk⟩
theorem LexAt.newCall (h : LexAt w b ae ao x vd vt ve vm) (o : Obj) (a c d : Value) :
    LexAt ((((w.alloc o).setCell ⟨w.heap.size, 0, none⟩ a).setCell ⟨w.heap.size, 1, none⟩ c).setCell ⟨w.heap.size, 2, none⟩ d) b ae ao x vd vt ve vm :=
  h.grown (newCall_grown w o a c d) (by simp)

theorem BytesAt.move {w w' : World} {A A' : Nat → Prop} {v : Value} {l : List Int} {r : Option Nat} (h : BytesAt w A v l) (hg : w.grownBy w' r) (hr : ∀ k, r = some k → A k) (hA : ∀ k, k < w.heap.size → A' k → A k) : BytesAt w' A' v l := by
  rcases h with h | ⟨b, o, cap, hv, hc, hn, hx⟩
  · exact .inl h
  · exact .inr ⟨b, o, cap, hv, hc, ⟨fun a => hn.1 (hA _ hn.2 a), Nat.lt_of_lt_of_le hn.2 hg.size⟩, fun i hi => hg.cell (hx i hi) fun e => hn.1 (hr _ e.symm)⟩
/-- A step that leaves the lexer's blocks, and that holds another block behind it. -/
theorem LexAt.move {w' : World} {ae' : Sur} {r : Option Nat} (h : LexAt w b ae ao x vd vt ve vm) (hg : w.grownBy w' r) (hr : ∀ k, r = some k → ae.held k ∧ k ≠ b ∧ 1 < k)
    (ha : ae'.addr = ae.addr) (hA : ∀ k, k < w.heap.size → ae'.off b k → ae.off b k) (hh : ∀ k, ae'.held k → k < w'.heap.size) : LexAt w' b ae' ao x vd vt ve vm := by
  have hA' : ∀ k, r = some k → ae.off b k := fun k e => .inr (hr k e).1
  have g := h.grown hg hr
  refine ⟨g.heap, h.data.move hg hA' hA, h.tok.move hg hA' hA, ?_, ⟨by rw [ha]; exact g.env.eof, g.env.other, by rw [ha]; exact g.env.ne⟩, h.b2, hh⟩
  have he := h.err
  cases hx : x.err <;> rw [hx] at he <;> simp only [ErrAt] at he ⊢
  · exact he
  · rw [ha]; exact he
  · exact he
  · obtain ⟨k, s, t, hv, hn, hh⟩ := he
    exact ⟨k, s, t, hv, fun a => hn (hA k (lt_heap hh) a), by rw [hg.block k (lt_heap hh) (fun e => hn (hA' k e.symm))]; exact hh⟩

theorem grownBy_self {r : Option Nat} (w : World) : w.grownBy w r := ⟨rfl, rfl, rfl, Nat.le_refl _, fun _ _ _ => rfl⟩
theorem ownsRow_base {w : World} {base base' : Nat} {e : TypeId} {size : Nat} {v : Value} {n : Nat} {xs : List Value} (h : w.ownsRow base e size v n xs) (hb : base' ≤ base) : w.ownsRow base' e size v n xs := by
  refine ⟨h.1, ?_⟩
  rcases h.2 with h' | ⟨g, cap, cur, hv, hbg, rest⟩
  · exact .inl h'
  · exact .inr ⟨g, cap, cur, hv, by omega, rest⟩

/-- Behind a call, and behind the append of what it told. -/
theorem round_step {B k : Nat} {v : Value} {xs : List Value} {n q p : Int} {s : Value} (hs1 : s.oneCell' = true) (h0 : w.grownBy w1 none) (hk : Kept b w1 w2) (hown : w.ownsRow (b + 1) 30 4 v k xs) (hkn : k ≤ 1000000)
    (g : LexAt w2 b (ae.own v) ao x vd vt ve vm) (hB : B ≤ b) (hlt : b < w.heap.size) :
    ∃ v' w', (Builtin.append_ #[24, 24] 24 #[v, .slice (some ⟨w2.heap.size, 0, none⟩) 1 1]).run Tryz.prog (w2.alloc (.cells #[.int .i64 n, s, .int .i64 q, .int .i64 p] 30)) = .ok v' w' ∧
      w'.ownsRow (b + 1) 30 4 v' (k + 1) (xs ++ [.int .i64 n, s, .int .i64 q, .int .i64 p]) ∧ LexAt w' b (ae.own v') ao x vd vt ve vm ∧ Below B w w' ∧ (w2.alloc (.cells #[.int .i64 n, s, .int .i64 q, .int .i64 p] 30)).grownBy w' v.ownBlock := by
  have hg12 : w.grownBy w2 (some b) := ⟨hk.os.trans h0.os, hk.tape.trans h0.tape, hk.output.trans h0.output, Nat.le_trans h0.size hk.size, fun j hj hn =>
    (hk.block j (Nat.lt_of_lt_of_le hj h0.size) (fun e => hn (by rw [e]))).trans (h0.block j hj (by simp))⟩
  have hown2 := hown.kept hg12 (by
    cases hv : v.ownBlock with
    | none => exact .inl rfl
    | some g => exact .inr (fun e => by have := (hown.lt g hv).1; have := Option.some.inj e; omega))
  have hown3 := hown2.alloc (.cells #[.int .i64 n, s, .int .i64 q, .int .i64 p] 30)
  have hsz : (w2.alloc (.cells #[.int .i64 n, s, .int .i64 q, .int .i64 p] 30)).heap.size = w2.heap.size + 1 := by simp
  have hs2 := hg12.size
  obtain ⟨v', w', hr, ho, hg, hblk⟩ := append_got hown3 ⟨w2.heap.size, 0, none⟩ 1 [.int .i64 n, s, .int .i64 q, .int .i64 p] rfl
    (fun j u hj => by
      have hj4 := (List.getElem?_eq_some_iff.1 hj).1
      have hh := heap_alloc_new w2 (.cells #[.int .i64 n, s, .int .i64 q, .int .i64 p] 30)
      rw [show (⟨w2.heap.size, 0, none⟩ : Addr).add j = ⟨w2.heap.size, j, none⟩ by unfold Addr.add; split <;> simp_all]
      exact cell_of_heap hh j (by simpa using hj))
    (by intro u hu; simp only [List.mem_cons, List.not_mem_nil, or_false] at hu; rcases hu with rfl | rfl | rfl | rfl; rfl; exact hs1; rfl; rfl) hkn (by omega)
  have gA := LexAt.alloc g (.cells #[.int .i64 n, s, .int .i64 q, .int .i64 p] 30)
  refine ⟨v', w', hr, ho, gA.move hg (fun j e => ⟨e, by have := (hown.lt j e).1; omega, by have := (hown.lt j e).1; have := g.b2; omega⟩) rfl ?_ (fun j e => (ho.lt j e).2), ?_, hg⟩
  · rintro j hj (e | e)
    · exact .inl e
    · rcases hblk with e' | ⟨m, hm, e'⟩
      · exact .inr (by show v.ownBlock = some j; rw [← e']; exact e)
      · have e2 : v'.ownBlock = some j := e
        rw [e'] at e2
        have := Option.some.inj e2
        omega
  · have h1 : Below B w w2 := (Below.refl B w).trans ⟨hg12.os, hg12.tape, hg12.output, hg12.size, fun j hj => hg12.block j (by omega) (by simp; omega)⟩
    exact (h1.alloc (by omega) _).grown hg (by omega) (fun j e => by have := (hown.lt j e).1; omega)
end

theorem CallDone.split {w w' : World} {b : Nat} {ae : Sur} {ao : Addr} {x' : Lx} {vd vm : Value} {n : Int} {e : Ending} (h : CallDone w b ae ao x' vd vm n e w') :
    e = .returned (gotV n (.slice none 0 0) x'.err.num x'.pos) ∧ ∃ vt' ve', LexAt w' b ae ao x' vd vt' ve' vm ∧ Kept b w w' := h
theorem runX_same (cs : List (Int × Int)) : ∀ x : Lx, x.Same (runX cs x) := by
  induction cs with
  | nil => intro x; exact Lx.Same.refl x
  | cons c cs ih => intro x; exact (callX_same c).trans (ih _)
theorem runX_wf (cs : List (Int × Int)) : ∀ x : Lx, x.Wf → (runX cs x).Wf := by
  induction cs with
  | nil => intro x h; exact h
  | cons c cs ih => intro x h; exact ih _ (callX_wf h c)
theorem runX_fine (cs : List (Int × Int)) : ∀ x : Lx, x.Fine → (runX cs x).Fine := by
  induction cs with
  | nil => intro x h; exact h
  | cons c cs ih => intro x h; exact ih _ (callX_fine h c)
theorem take_snoc (cs : List (Int × Int)) {k : Nat} (h : k < cs.length) : cs.take (k + 1) = cs.take k ++ [cs.getD k (0, 0)] := by
  rw [List.take_succ_eq_append_getElem h]; simp [List.getD, h]

set_option maxHeartbeats 2000000 in
set_option maxRecDepth 100000 in
theorem lex_any {w : World} {A : Nat → Prop} {v : Value} {l : List Int} {ae : Sur} {ao : Addr} (hv : BytesAt w A v l) (hl : l.length ≤ 1073741824) (hby : Bytes l) (he : Env w ae ao) (h2 : 1 < w.heap.size)
    (cs : List (Int × Int)) (hok : ∀ c ∈ cs, OkCall c) (hcl : cs.length ≤ 1000000) (cb co cc : Nat) (hcs : CallsAt w cb co cs) (hcb : cb < w.heap.size) :
    Calls Tryz.prog 13 #[v, .bool false, .slice (some ⟨cb, co, none⟩) cs.length cc] w fun e w' =>
      ∃ v', e = .returned v' ∧ w'.ownsRow w.heap.size 30 4 v' cs.length (gotCells (gots cs (Lx.begin l false))) ∧ Below w.heap.size w w' := by
  have hX : (Lx.begin l false).Wf := ⟨by show l.length ≤ _; omega, Nat.zero_le _, Nat.le_refl _, hby⟩
  have hXf : (Lx.begin l false).Fine := ⟨by show (0 : Nat) ≤ 5; decide, by simp [Lx.begin]⟩
  have HX := Lib.hid hX
  have HXf := Lib.hid hXf
  have HOK := Lib.hid hok
  have HCS := Lib.hid hcs
  have HCB := Lib.hid hcb
  clear hX hXf hok hcs hcb
  go_enter Tryz.func13, Tryz.ntmps13
  go_wp2_with (go_at_call 25; refine (lexer_any (ae := ⟨ae.addr, fun _ => False⟩) hv (by omega) ⟨he.eof, he.other, he.ne⟩ (fun _ a => a.elim) h2 false).mono ?_; rintro e w1 ⟨b, vd, rfl, hb, hg, hlx⟩)
  have HB0 := Lib.hid ((Below.refl w.heap.size w).grown hg (Nat.le_refl _) (by simp))
  have HL0 := Lib.hid hlx
  clear hg hlx hv he
  go_loopw [8, 16] (fun v i wr => ∃ (k : Nat), i = .int .i64 k ∧ k ≤ cs.length ∧ wr.ownsRow (b + 1) 30 4 v k (gotCells (gots (cs.take k) (Lx.begin l false))) ∧ Below w.heap.size w wr ∧
      ∃ vt ve, LexAt wr b (ae.own v) ao (runX (cs.take k) (Lx.begin l false)) vd vt ve (.slice none 0 0))
    (fun _ i _ => cs.length - (intOf i).toNat)
  case atStart =>
    refine ⟨0, rfl, Nat.zero_le _, World.ownsRow_nil _ _ _ _, HB0.out, _, _, HL0.out.move (grownBy_self (r := none) _) (by simp) rfl ?_ ?_⟩
    · rintro j hj (e | e)
      · exact .inl e
      · cases e
    · intro j e; cases e
  case round =>
    obtain ⟨k, rfl, hk, hown, hbel, vt, ve, hlr⟩ := hrel
    have HO := Lib.hid hown
    have HB := Lib.hid hbel
    have HL := Lib.hid hlr
    clear hown hbel hlr
    by_cases hlt : k < cs.length
    case neg =>
      obtain rfl : k = cs.length := by omega
      go_wp2
      go_ret
      have h := HO.out
      rw [List.take_length] at h
      exact ⟨_, rfl, ownsRow_base h (by omega), HB.out⟩
    case pos =>
      have q0 := (HB.out.cell (p := ⟨cb, co + k * 3, none⟩) HCB.out).trans (HCS.out k hlt).1
      have q1 := (HB.out.cell (p := ⟨cb, co + k * 3 + 1, none⟩) HCB.out).trans (HCS.out k hlt).2.1
      have q2 := (HB.out.cell (p := ⟨cb, co + k * 3 + 2, none⟩) HCB.out).trans (HCS.out k hlt).2.2
      have HOC := Lib.hid (HOK.out (cs.getD k (0, 0)) (by simp [List.getD, hlt]))
      have HT := Lib.hid (take_snoc cs hlt)
      generalize cs.getD k (0, 0) = c at q0 q1 HOC HT
      obtain ⟨X, hX⟩ : ∃ X, X = runX (cs.take k) (Lx.begin l false) := ⟨_, rfl⟩
      have HL1 := HL.out
      rw [← hX] at HL1
      have HW : RowKit.Hid X.Wf := by show X.Wf; rw [hX]; exact runX_wf _ _ HX.out
      have HF : RowKit.Hid X.Fine := by show X.Fine; rw [hX]; exact runX_fine _ _ HXf.out
      have HM : RowKit.Hid (X.multi = false) := by show _ = _; rw [hX]; exact (runX_same _ _).multi
      have HG : RowKit.Hid (gotCells (gots (cs.take (k + 1)) (Lx.begin l false)) = gotCells (gots (cs.take k) (Lx.begin l false)) ++ [.int .i64 (callN c X), .slice none 0 0, .int .i64 (callX c X).err.num, .int .i64 (callX c X).pos]) := by
        show _ = _; rw [HT.out, gots_snoc, gotCells_snoc, ← hX]
      have HX1 : RowKit.Hid (runX (cs.take (k + 1)) (Lx.begin l false) = callX c X) := by show _ = _; rw [HT.out, runX_snoc, ← hX]
      have HL2 := Lib.hid HL1
      have hbr := HL1.lt
      clear HL1 hX HL
      go_wp2_with (first
        | (go_at_call 26; refine (call_any (HL2.out.alloc _) HW.out HM.out HF.out c HOC.out none 0 0).mono ?_; intro e w2 hD0; obtain ⟨he, hD⟩ := CallDone.split hD0; clear hD0; subst he; obtain ⟨vt1, ve1, g1, g2⟩ := hD; unfold gotV; obtain ⟨v', w', hr, ho, hl', hb', -⟩ := round_step (s := .slice none 0 0) rfl (n := callN c X) (q := (callX c X).err.num) (p := ((callX c X).pos : Int)) (World.grownBy_alloc _ _ none) g2 HO.out (by omega) g1 hb hbr; generalize callN c X = n1 at hr ho HG; generalize (callX c X).err.num = n2 at hr ho HG; generalize (((callX c X).pos : Nat) : Int) = n3 at hr ho HG; have HR := Lib.hid hr; have HN := Lib.hid ho; have HL3 := Lib.hid hl'; have HB3 := Lib.hid hb'; clear hr ho hl' hb' g1 g2)
        | (at_builtin; refine Lib.wpList_append_run_sl _ rfl _ _ 24 rfl _ _ rfl rfl HR.out ?_))
      go_roundw
      case rel =>
        refine ⟨k + 1, by go_num, by omega, by rw [HG.out]; exact HN.out, HB.out.trans HB3.out, vt1, ve1, ?_⟩
        rw [HX1.out]
        exact HL3.out
      case measure => simp [intOf]; omega
end Go.Proofs.YtaecbclonmhbcaaGreatDoor
