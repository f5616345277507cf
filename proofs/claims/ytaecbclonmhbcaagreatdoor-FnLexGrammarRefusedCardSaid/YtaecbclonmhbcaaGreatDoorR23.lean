/- impl.mark and impl.text, the calls that the claims make. impl.call, the calls that the claims make. Printed by gen_call.py. impl.Lex over a row of calls. impl.Lex over a row of calls, each told by what it may do. The lexer's reading of a number's bytes. What the calls that read a number share. Plain, but for the worlds. Lexer.String over every state, one error. Printed by gen_str.py. impl.mark and impl.text: the calls of FnLexAdded and FnLexStops, by what each may do. Printed by gen_markr.py. What impl.call's contracts share: the named errors' blocks; impl.kind at every error; behind the store of a number. -/
import Derived.Test.YtaecbclonmhbcaaGreatDoorR22
import Derived.Test.YtaecbclonmhbcaaGreatDoorR18
import Derived.Test.YtaecbclonmhbcaaGreatDoorR17
import Derived.Lib.AtoiErrMem
import Derived.Shelf.Strconv.ParseIntPublic10
import Derived.Test.YtaecbclonmhbcaaGreatDoorProg
import Derived.WalkMore
import Derived.Test.YtaecbclonmhbcaaGreatDoorR19
set_option linter.unusedVariables false
set_option linter.unusedSimpArgs false
namespace Go.Proofs.YtaecbclonmhbcaaGreatDoor
open Go.RowKit
def Sur.hold (s : Sur) (j : Nat) : Sur := { s with held := fun k => s.held k ∨ k = j }
theorem Sur.hold_self (s : Sur) (j : Nat) : (s.hold j).held j := Or.inr rfl
section
variable {w w' : World} {b : Nat} {ae : Sur} {ao : Addr} {x : Lx} {vd vt ve vm : Value}
theorem grownBy_setCell (w : World) (k i : Nat) (v : Value) : w.grownBy (w.setCell ⟨k, i, none⟩ v) (some k) :=
  ⟨rfl, rfl, rfl, by simp, fun j _ hj => heap_setCell_other i v fun e => hj (by rw [e])⟩
theorem LexAt.setHeld (h : LexAt w b ae ao x vd vt ve vm) {k : Nat} (hk : ae.held k) (hb : b < k) (i : Nat) (v : Value) : LexAt (w.setCell ⟨k, i, none⟩ v) b ae ao x vd vt ve vm := by
  have h2 := h.b2
  refine h.grown (grownBy_setCell w k i v) ?_
  rintro j e
  obtain rfl := Option.some.inj e
  exact ⟨hk, by omega, by omega⟩
theorem LexAt.hold (h : LexAt w b ae ao x vd vt ve vm) (o : Obj) : LexAt (w.alloc o) b (ae.hold w.heap.size) ao x vd vt ve vm := by
  have hg := World.grownBy_alloc w o none
  have hA : ∀ k, k < w.heap.size → (ae.hold w.heap.size).off b k → ae.off b k := by
    rintro k hk (e | e | e)
    · exact .inl e
    · exact .inr e
    · omega
  refine ⟨?_, (h.data.other hA).grown hg (by simp), (h.tok.other hA).grown hg (by simp), ?_, ⟨(h.env.grown hg (by simp) (by simp)).eof, (h.env.grown hg (by simp) (by simp)).other, h.env.ne⟩, h.b2, ?_⟩
  · rw [hg.block b h.lt (by simp)]; exact h.heap
  · have he := h.err
    cases hx : x.err <;> rw [hx] at he <;> simp only [ErrAt] at he ⊢ <;> try exact he
    obtain ⟨k, s, t, hv, hn, hh⟩ := he
    exact ⟨k, s, t, hv, fun a => hn (hA k (lt_heap hh) a), by rw [hg.block k (lt_heap hh) (by simp)]; exact hh⟩
  · rintro k (a | rfl)
    · have := h.held k a; have := hg.size; omega
    · simp
theorem LexAt.less {j : Nat} (h : LexAt w b (ae.hold j) ao x vd vt ve vm) : LexAt w b ae ao x vd vt ve vm := by
  have hA : ∀ k, ae.off b k → (ae.hold j).off b k := by
    rintro k (e | e)
    · exact .inl e
    · exact .inr (.inl e)
  refine ⟨h.heap, h.data.other fun k _ => hA k, h.tok.other fun k _ => hA k, ?_, ⟨h.env.eof, h.env.other, h.env.ne⟩, h.b2, fun k a => h.held k (.inl a)⟩
  have he := h.err
  cases hx : x.err <;> rw [hx] at he <;> simp only [ErrAt] at he ⊢ <;> try exact he
  obtain ⟨k, s, t, hv, hn, hh⟩ := he
  exact ⟨k, s, t, hv, fun a => hn (hA k a), hh⟩
theorem Kept.setNew {b : Nat} {u v : World} (h : Kept b u v) {k : Nat} (hk : u.heap.size ≤ k) (i : Nat) (x : Value) : Kept b u (v.setCell ⟨k, i, none⟩ x) :=
  ⟨h.os, h.tape, h.output, Nat.le_trans h.size (by simp), fun j hj hn => (heap_setCell_other i x (by omega)).trans (h.block j hj hn)⟩
theorem Kept.of_alloc {b : Nat} {u v : World} {o : Obj} (h : Kept b (u.alloc o) v) : Kept b u v := ((Kept.refl b u).alloc o).trans h
def callV (op n : Int) (s : Value) : Value := .agg #[.int .i64 op, .int .i64 n, s]
def gotV (n : Int) (s : Value) (k p : Int) : Value := .agg #[.int .i64 n, s, .int .i64 k, .int .i64 p]
theorem got_heap {w w1 : World} {b : Nat} {o : Obj} {c : Array Value} (h : Kept b ((w.alloc o).alloc (.cells c 30)) w1) (hb : b < w.heap.size) : w1.heap[w.heap.size + 1]? = some (.cells c 30 (0, 0)) := by
  have hs : (w.alloc o).heap.size = w.heap.size + 1 := by simp
  have := h.heap (heap_alloc_new (w.alloc o) (.cells c 30)) (by omega)
  rwa [hs] at this
def MarkDone (w : World) (b : Nat) (ae : Sur) (ao : Addr) (x' : Lx) (vd vm : Value) (n : Int) (e : Ending) (w' : World) : Prop :=
  e = .returned (gotV n (.slice none 0 0) 0 0) ∧ NumDone w b ae ao x' vd vm w'
end
end Go.Proofs.YtaecbclonmhbcaaGreatDoor

namespace Go.Proofs.YtaecbclonmhbcaaGreatDoor
open Go.RowKit
theorem Sur.hold_old {s : Sur} {j k : Nat} (h : s.held k) : (s.hold j).held k := Or.inl h
section
variable {w w' : World} {b : Nat} {ae : Sur} {ao : Addr} {x : Lx} {vd vt ve vm : Value}
theorem LexAt.got4 (h : LexAt w b ae ao x vd vt ve vm) {k : Nat} (hk : ae.held k) (hb : b < k) (v0 v1 v2 v3 : Value) :
    LexAt ((((w.setCell ⟨k, 0, none⟩ v0).setCell ⟨k, 1, none⟩ v1).setCell ⟨k, 2, none⟩ v2).setCell ⟨k, 3, none⟩ v3) b ae ao x vd vt ve vm :=
  (((h.setHeld hk hb 0 v0).setHeld hk hb 1 v1).setHeld hk hb 2 v2).setHeld hk hb 3 v3
theorem kind_any {v : Value} {e : Er} (h : ErrAt w b ae ao v e) (he : Env w ae ao) (hn : e ≠ .other) :
    Calls Tryz.prog 35 #[v] w fun e' w' => e' = .returned (.int .i64 e.num) ∧ w = w' := by
  cases e with
  | nil => simp only [ErrAt] at h; subst h; exact kind_nil w
  | eof => simp only [ErrAt] at h; subst h; exact kind_eof w he
  | other => exact absurd rfl hn
  | lex n => obtain ⟨k, s, t, rfl, -, -⟩ := h; exact kind_lex w _ he
theorem got_heap3 {w w1 : World} {b : Nat} {o : Obj} {c c' : Array Value} (h : Kept b (((w.alloc o).alloc (.cells c 30)).alloc (.cells c' 30)) w1) (hb : b < w.heap.size) :
    w1.heap[w.heap.size + 1]? = some (.cells c 30 (0, 0)) ∧ w1.heap[w.heap.size + 1 + 1]? = some (.cells c' 30 (0, 0)) := by
  have hs : (w.alloc o).heap.size = w.heap.size + 1 := by simp
  have hs' : ((w.alloc o).alloc (.cells c 30)).heap.size = w.heap.size + 1 + 1 := by simp
  have h1 := h.heap (heap_alloc_new ((w.alloc o).alloc (.cells c 30)) (.cells c' 30)) (by omega)
  have h0 : (((w.alloc o).alloc (.cells c 30)).alloc (.cells c' 30)).heap[w.heap.size + 1]? = some (.cells c 30 (0, 0)) := by
    rw [heap_alloc_lt (by rw [hs']; omega), ← hs]
    exact heap_alloc_new (w.alloc o) (.cells c 30)
  rw [hs'] at h1
  exact ⟨h.heap h0 (by omega), h1⟩
theorem got_store {w1 w2 : World} {x' : Lx} {vt1 ve1 : Value} {o : Obj} {c : Array Value} {d0 d1 d2 d3 v0 v1 v2 v3 : Value} (g1 : LexAt w1 b ((ae.hold (w.heap.size + 1)).hold (w.heap.size + 1 + 1)) ao x' vd vt1 ve1 vm)
    (g2 : Kept b (((w.alloc o).alloc (.cells c 30)).alloc (.cells #[d0, d1, d2, d3] 30)) w1) (hb : b < w.heap.size)
    (h2 : (((w1.setCell ⟨w.heap.size + 1 + 1, 0, none⟩ v0).setCell ⟨w.heap.size + 1 + 1, 1, none⟩ v1).setCell ⟨w.heap.size + 1 + 1, 2, none⟩ v2).setCell ⟨w.heap.size + 1 + 1, 3, none⟩ v3 = w2) :
    w2.heap[w.heap.size + 1]? = some (.cells c 30 (0, 0)) ∧ w2.heap[w.heap.size + 1 + 1]? = some (.cells #[v0, v1, v2, v3] 30 (0, 0)) ∧ LexAt w2 b ((ae.hold (w.heap.size + 1)).hold (w.heap.size + 1 + 1)) ao x' vd vt1 ve1 vm ∧ Kept b w w2 := by
  obtain ⟨ha, hc⟩ := got_heap3 g2 hb
  subst h2
  refine ⟨?_, ?_, g1.got4 (Sur.hold_self _ _) (by omega) _ _ _ _, ?_⟩
  · rw [heap_setCell_other _ _ (by omega), heap_setCell_other _ _ (by omega), heap_setCell_other _ _ (by omega), heap_setCell_other _ _ (by omega)]
    exact ha
  · exact heap_setCell (heap_setCell (heap_setCell (heap_setCell hc 0 v0) 1 v1) 2 v2) 3 v3
  · repeat refine Kept.setNew ?_ (by omega) _ _
    exact Kept.of_alloc (Kept.of_alloc (Kept.of_alloc g2))
theorem MarkDone.split {x' : Lx} {n : Int} {e : Ending} (h : MarkDone w b ae ao x' vd vm n e w') : e = .returned (gotV n (.slice none 0 0) 0 0) ∧ ∃ vt' ve', LexAt w' b ae ao x' vd vt' ve' vm ∧ Kept b w w' := h
def CallDone (w : World) (b : Nat) (ae : Sur) (ao : Addr) (x' : Lx) (vd vm : Value) (n : Int) (e : Ending) (w' : World) : Prop :=
  e = .returned (gotV n (.slice none 0 0) x'.err.num x'.pos) ∧ NumDone w b ae ao x' vd vm w'
end
end Go.Proofs.YtaecbclonmhbcaaGreatDoor

namespace Go.Proofs.YtaecbclonmhbcaaGreatDoor
open Go.RowKit
theorem info30 : (Tryz.prog.info? 30).map (fun i => (i.zero, i.size, i.bytes)) = some (some (Value.agg #[.int .i64 0, .slice none 0 0, .int .i64 0, .int .i64 0]), 4, 48) := by kernel_rfl
theorem append_got {w : World} {base : Nat} {v : Value} {n : Nat} {xs : List Value} (hown : w.ownsRow base 30 4 v n xs) (ad : Addr) (c : Nat) (news : List Value) (hl : news.length = 4)
    (hnews : ∀ j u, news[j]? = some u → w.cell? (ad.add j) = some u) (h1 : ∀ u ∈ news, u.oneCell' = true) (hn : n ≤ 1000000) (hbase : base ≤ w.heap.size) :
    ∃ v' w', (Builtin.append_ #[24, 24] 24 #[v, .slice (some ad) 1 c]).run Tryz.prog w = .ok v' w' ∧ w'.ownsRow base 30 4 v' (n + 1) (xs ++ news) ∧ w.grownBy w' v.ownBlock ∧
      (v'.ownBlock = v.ownBlock ∨ ∃ k, w.heap.size ≤ k ∧ v'.ownBlock = some k) := by
  obtain ⟨i, hi, hz, hz1, hz2⟩ := info_parts info30
  obtain ⟨v', w', hr, h2, h3, h4⟩ := run_append_own (P := Tryz.prog) w base 24 24 30 i _ 4 48 Tryz.underlying24 hi hz hz1 hz2 rfl (by decide) v n xs hown ad 1 c news (by omega) hnews h1 (by unfold maxLen; omega) (by omega) hbase
  refine ⟨v', w', hr, h2, h3, ?_⟩
  rcases hown.2 with ⟨rfl, rfl⟩ | ⟨g, cap, cur, rfl, hbg, hg, hnc, hcm, hcs, htake⟩
  · have hr' := run_append_nil (P := Tryz.prog) w 24 24 30 i _ Tryz.underlying24 hi hz ad 1 c news (by omega) hnews (by omega) (by omega) (by omega)
    rw [hr] at hr'
    simp only [Result.ok.injEq] at hr'
    rw [hr'.1]
    exact .inr ⟨_, Nat.le_refl _, rfl⟩
  · by_cases hroom : n + 1 ≤ cap
    · obtain ⟨w2, hr', -⟩ := run_append_fits (P := Tryz.prog) w base 24 24 30 i 4 Tryz.underlying24 hi hz1 g n cap xs hown ad 1 c news (by omega) hnews h1 hroom
      rw [hr] at hr'
      simp only [Result.ok.injEq] at hr'
      rw [hr'.1]
      exact .inl rfl
    · have hr' := run_append_grow (P := Tryz.prog) w 24 24 30 i _ Tryz.underlying24 hi hz ⟨g, 0, none⟩ n cap xs (by rw [hown.1, hz1]) (hown.cells (g := g) rfl) ad 1 c news (by omega) hnews (by omega) (by omega) (growslice_fits (by omega) (by rw [hz2]; omega))
      rw [hr] at hr'
      simp only [Result.ok.injEq] at hr'
      rw [hr'.1]
      exact .inr ⟨_, Nat.le_refl _, rfl⟩
def CallsAt (w : World) (cb co : Nat) (cs : List (Int × Int)) : Prop :=
  ∀ k, k < cs.length → w.cell? ⟨cb, co + k * 3, none⟩ = some (.int .i64 (cs.getD k (0, 0)).1) ∧ w.cell? ⟨cb, co + k * 3 + 1, none⟩ = some (.int .i64 (cs.getD k (0, 0)).2) ∧ w.cell? ⟨cb, co + k * 3 + 2, none⟩ = some (.slice none 0 0)
def Sur.own (ae : Sur) (v : Value) : Sur := ⟨ae.addr, fun j => v.ownBlock = some j⟩
section
variable {w w1 w2 : World} {b : Nat} {ae : Sur} {ao : Addr} {x : Lx} {vd vt ve vm : Value}
theorem BytesAt.move {w w' : World} {A A' : Nat → Prop} {v : Value} {l : List Int} {r : Option Nat} (h : BytesAt w A v l) (hg : w.grownBy w' r) (hr : ∀ k, r = some k → A k) (hA : ∀ k, k < w.heap.size → A' k → A k) : BytesAt w' A' v l := by
  rcases h with h | ⟨b, o, cap, hv, hc, hn, hx⟩
  · exact .inl h
  · exact .inr ⟨b, o, cap, hv, hc, ⟨fun a => hn.1 (hA _ hn.2 a), Nat.lt_of_lt_of_le hn.2 hg.size⟩, fun i hi => hg.cell (hx i hi) fun e => hn.1 (hr _ e.symm)⟩
theorem LexAt.move {w' : World} {ae' : Sur} {r : Option Nat} (h : LexAt w b ae ao x vd vt ve vm) (hg : w.grownBy w' r) (hr : ∀ k, r = some k → ae.held k ∧ k ≠ b ∧ 1 < k)
    (ha : ae'.addr = ae.addr) (hA : ∀ k, k < w.heap.size → ae'.off b k → ae.off b k) (hh : ∀ k, ae'.held k → k < w'.heap.size) : LexAt w' b ae' ao x vd vt ve vm := by
  have hA' : ∀ k, r = some k → ae.off b k := fun k e => .inr (hr k e).1
  have g := h.grown hg hr
  refine ⟨g.heap, h.data.move hg hA' hA, h.tok.move hg hA' hA, ?_, ⟨by rw [ha]; exact g.env.eof, g.env.other, by rw [ha]; exact g.env.ne⟩, h.b2, hh⟩
  have he := h.err
  cases hx : x.err <;> rw [hx] at he <;> simp only [ErrAt] at he ⊢
  · exact he
  · rw [ha]; exact he
  · exact he
  · obtain ⟨k, s, t, hv, hn, hh⟩ := he
    exact ⟨k, s, t, hv, fun a => hn (hA k (lt_heap hh) a), by rw [hg.block k (lt_heap hh) (fun e => hn (hA' k e.symm))]; exact hh⟩
theorem grownBy_self {r : Option Nat} (w : World) : w.grownBy w r := ⟨rfl, rfl, rfl, Nat.le_refl _, fun _ _ _ => rfl⟩
theorem ownsRow_base {w : World} {base base' : Nat} {e : TypeId} {size : Nat} {v : Value} {n : Nat} {xs : List Value} (h : w.ownsRow base e size v n xs) (hb : base' ≤ base) : w.ownsRow base' e size v n xs := by
  refine ⟨h.1, ?_⟩
  rcases h.2 with h' | ⟨g, cap, cur, hv, hbg, rest⟩
  · exact .inl h'
  · exact .inr ⟨g, cap, cur, hv, by omega, rest⟩
theorem round_step {B k : Nat} {v : Value} {xs : List Value} {n q p : Int} {s : Value} (hs1 : s.oneCell' = true) (h0 : w.grownBy w1 none) (hk : Kept b w1 w2) (hown : w.ownsRow (b + 1) 30 4 v k xs) (hkn : k ≤ 1000000)
    (g : LexAt w2 b (ae.own v) ao x vd vt ve vm) (hB : B ≤ b) (hlt : b < w.heap.size) :
    ∃ v' w', (Builtin.append_ #[24, 24] 24 #[v, .slice (some ⟨w2.heap.size, 0, none⟩) 1 1]).run Tryz.prog (w2.alloc (.cells #[.int .i64 n, s, .int .i64 q, .int .i64 p] 30)) = .ok v' w' ∧
      w'.ownsRow (b + 1) 30 4 v' (k + 1) (xs ++ [.int .i64 n, s, .int .i64 q, .int .i64 p]) ∧ LexAt w' b (ae.own v') ao x vd vt ve vm ∧ Below B w w' ∧ (w2.alloc (.cells #[.int .i64 n, s, .int .i64 q, .int .i64 p] 30)).grownBy w' v.ownBlock := by
  have hg12 : w.grownBy w2 (some b) := ⟨hk.os.trans h0.os, hk.tape.trans h0.tape, hk.output.trans h0.output, Nat.le_trans h0.size hk.size, fun j hj hn =>
    (hk.block j (Nat.lt_of_lt_of_le hj h0.size) (fun e => hn (by rw [e]))).trans (h0.block j hj (by simp))⟩
  have hown2 := hown.kept hg12 (by
    cases hv : v.ownBlock with
    | none => exact .inl rfl
    | some g => exact .inr (fun e => by have := (hown.lt g hv).1; have := Option.some.inj e; omega))
  have hown3 := hown2.alloc (.cells #[.int .i64 n, s, .int .i64 q, .int .i64 p] 30)
  have hsz : (w2.alloc (.cells #[.int .i64 n, s, .int .i64 q, .int .i64 p] 30)).heap.size = w2.heap.size + 1 := by simp
  have hs2 := hg12.size
  obtain ⟨v', w', hr, ho, hg, hblk⟩ := append_got hown3 ⟨w2.heap.size, 0, none⟩ 1 [.int .i64 n, s, .int .i64 q, .int .i64 p] rfl
    (fun j u hj => by
      have hj4 := (List.getElem?_eq_some_iff.1 hj).1
      have hh := heap_alloc_new w2 (.cells #[.int .i64 n, s, .int .i64 q, .int .i64 p] 30)
      rw [show (⟨w2.heap.size, 0, none⟩ : Addr).add j = ⟨w2.heap.size, j, none⟩ by unfold Addr.add; split <;> simp_all]
      exact cell_of_heap hh j (by simpa using hj))
    (by intro u hu; simp only [List.mem_cons, List.not_mem_nil, or_false] at hu; rcases hu with rfl | rfl | rfl | rfl; rfl; exact hs1; rfl; rfl) hkn (by omega)
  have gA := LexAt.alloc g (.cells #[.int .i64 n, s, .int .i64 q, .int .i64 p] 30)
  refine ⟨v', w', hr, ho, gA.move hg (fun j e => ⟨e, by have := (hown.lt j e).1; omega, by have := (hown.lt j e).1; have := g.b2; omega⟩) rfl ?_ (fun j e => (ho.lt j e).2), ?_, hg⟩
  · rintro j hj (e | e)
    · exact .inl e
    · rcases hblk with e' | ⟨m, hm, e'⟩
      · exact .inr (by show v.ownBlock = some j; rw [← e']; exact e)
      · have e2 : v'.ownBlock = some j := e
        rw [e'] at e2
        have := Option.some.inj e2
        omega
  · have h1 : Below B w w2 := (Below.refl B w).trans ⟨hg12.os, hg12.tape, hg12.output, hg12.size, fun j hj => hg12.block j (by omega) (by simp; omega)⟩
    exact (h1.alloc (by omega) _).grown hg (by omega) (fun j e => by have := (hown.lt j e).1; omega)
end
theorem CallDone.split {w w' : World} {b : Nat} {ae : Sur} {ao : Addr} {x' : Lx} {vd vm : Value} {n : Int} {e : Ending} (h : CallDone w b ae ao x' vd vm n e w') :
    e = .returned (gotV n (.slice none 0 0) x'.err.num x'.pos) ∧ ∃ vt' ve', LexAt w' b ae ao x' vd vt' ve' vm ∧ Kept b w w' := h
end Go.Proofs.YtaecbclonmhbcaaGreatDoor

namespace Go.Proofs.YtaecbclonmhbcaaGreatDoor
open Go.RowKit
structure Lx.Inv (x : Lx) : Prop where
  wf : x.Wf
  multi : x.multi = false
  kind : x.kind ≤ 5
  tf : x.TF
  nf : x.NF
  len : x.d.length ≤ 100000
structure Step (op : Int) (x x' : Lx) (n : Int) (s : Value) : Prop where
  inv : x'.Inv
  sl : ∃ p k c, s = .slice p k c ∧ (x.ok = false → k = 0)
  shut : x.ok = false → x'.err = x.err ∧ n = 0
  add : op = 45 → x'.ok = false
abbrev Gt := Int × Value × Int × Int
inductive Chain (x0 : Lx) : List Int → List Gt → Lx → Prop
  | nil : Chain x0 [] [] x0
  | snoc {ops : List Int} {gs : List Gt} {x x' : Lx} {op n : Int} {s : Value} : Chain x0 ops gs x → Step op x x' n s → Chain x0 (ops ++ [op]) (gs ++ [(n, s, x'.err.num, (x'.pos : Int))]) x'
theorem Chain.inv {x0 x : Lx} {ops : List Int} {gs : List Gt} (h : Chain x0 ops gs x) (h0 : x0.Inv) : x.Inv := by
  cases h with
  | nil => exact h0
  | snoc _ hs => exact hs.inv
theorem Chain.length {x0 x : Lx} {ops : List Int} {gs : List Gt} (h : Chain x0 ops gs x) : gs.length = ops.length := by
  induction h with
  | nil => rfl
  | snoc _ _ ih => simp [ih]
theorem begin_inv {l : List Int} (hl : l.length ≤ 100000) (hby : Bytes l) : (Lx.begin l false).Inv :=
  ⟨⟨by show l.length ≤ _; omega, Nat.zero_le _, Nat.le_refl _, hby⟩, rfl, by show (0 : Nat) ≤ 5; decide, tf_kind (by show (0 : Nat) ≠ 2 ∧ (0 : Nat) ≠ 3; decide), nf_kind (by show (0 : Nat) ≠ 3; decide), hl⟩
end Go.Proofs.YtaecbclonmhbcaaGreatDoor

namespace Go.Proofs.YtaecbclonmhbcaaGreatDoor
open Go.RowKit
namespace Lx
def numS (x : Lx) : Lx := if !x.ok || x.kind != 3 then x.fail else x.consume
def numR (x : Lx) : ByteArray := if !x.ok || x.kind != 3 then ⟨#[]⟩ else strOfNums x.tok
def num (x : Lx) : Lx := x.peek.numS
def numV (x : Lx) : ByteArray := x.peek.numR
end Lx
theorem bytesToStr_any {w : World} {A : Nat → Prop} {v : Value} {l : List Int} (h : BytesAt w A v l) :
    Calls Tryz.prog 110 #[v] w fun e w' => e = .returned (.string (strOfNums l)) ∧ w = w' := by
  have hcv := run_bytes_str h 0 9 Tryz.underlying9
  have hcv' : (convert 22 9 v).run Tryz.prog w = .ok (.string (strOfNums l)) w := hcv
  clear hcv h
  go_enter Tryz.func110, Tryz.ntmps110
  go_wp2
  go_ret
  exact ⟨rfl, rfl⟩
section
variable {w : World} {b : Nat} {ae : Sur} {ao : Addr} {x : Lx} {vd vt ve vm : Value}
set_option maxHeartbeats 4000000 in
set_option maxRecDepth 100000 in
theorem number_any (h : LexAt w b ae ao x vd vt ve vm) (hw : x.Wf) (hm : x.multi = false) :
    Calls Tryz.prog 106 #[.pointer (some ⟨b, 0, none⟩)] w fun e w' => e = .returned (.string x.numV) ∧ NumDone w b ae ao x.num vd vm w' := by
  unfold Lx.num Lx.numV
  have H := Lib.hid h
  have HW := Lib.hid hw
  by_cases hk : x.kind = 0
  case neg =>
    rw [peek_kept (by simp [hk])]
    have n1 : ((x.kind : Int) == 0) = false := beq_eq_false_iff_ne.2 (by omega)
    have HM := Lib.hid hm
    have HKD : RowKit.Hid (x.kind ≠ 0) := hk
    have c3 := h.c3
    have c6 := h.c6
    clear h hw hk hm
    cases hok2 : x.ok with
    | false =>
      have HE : RowKit.Hid (x.numS = x.fail) := by show _ = _; unfold Lx.numS; rw [if_pos (by simp [hok2])]
      have HV : RowKit.Hid (x.numR = ⟨#[]⟩) := by show _ = _; unfold Lx.numR; rw [if_pos (by simp [hok2])]
      go_enter Tryz.func106, Tryz.ntmps106
      go_wp2_with (first | (go_at_call 47; refine (ok_any H.out).mono ?_; rintro e w' ⟨rfl, rfl⟩) | (go_at_call 103; refine (errInvalid_any H.out HM.out _ (by decide)).mono ?_; rintro e w4 ⟨rfl, ve4, g5, g6⟩))
      go_ret
      rw [HE.out, HV.out]
      exact ⟨rfl, _, ve4, g5, (Kept.refl b w).trans g6⟩
    | true =>
      by_cases hd : x.kind = 3
      · have HE : RowKit.Hid (x.numS = x.consume) := by show _ = _; unfold Lx.numS; rw [if_neg (by simp [hok2, hd])]
        have HV : RowKit.Hid (x.numR = strOfNums x.tok) := by show _ = _; unfold Lx.numR; rw [if_neg (by simp [hok2, hd])]
        have d1 : ((x.kind : Int) == 3) = true := by simp; omega
        have d2 : ((x.kind : Int) != 3) = false := by simp; omega
        clear hd
        go_enter Tryz.func106, Tryz.ntmps106
        go_wp2_with (first | (go_at_call 47; refine (ok_any H.out).mono ?_; rintro e w' ⟨rfl, rfl⟩) | (go_at_call 110; refine (bytesToStr_any H.out.tok).mono ?_; rintro e w5 ⟨rfl, rfl⟩) | (go_at_call 104; refine (consume_any H.out).mono ?_; rintro e w3 ⟨rfl, g3, g4⟩))
        go_ret
        rw [HE.out, HV.out]
        exact ⟨rfl, _, _, g3, (Kept.refl b w).trans g4⟩
      · have d1 : ((x.kind : Int) == 3) = false := beq_eq_false_iff_ne.2 (by omega)
        have d2 : ((x.kind : Int) != 3) = true := bne_iff_ne.2 (by omega)
        have HE : RowKit.Hid (x.numS = x.fail) := by show _ = _; unfold Lx.numS; rw [if_pos (by simp [hok2, hd])]
        have HV : RowKit.Hid (x.numR = ⟨#[]⟩) := by show _ = _; unfold Lx.numR; rw [if_pos (by simp [hok2, hd])]
        clear hd
        go_enter Tryz.func106, Tryz.ntmps106
        go_wp2_with (first | (go_at_call 47; refine (ok_any H.out).mono ?_; rintro e w' ⟨rfl, rfl⟩) | (go_at_call 103; refine (errInvalid_any H.out HM.out _ (by decide)).mono ?_; rintro e w4 ⟨rfl, ve4, g5, g6⟩))
        go_ret
        rw [HE.out, HV.out]
        exact ⟨rfl, _, ve4, g5, (Kept.refl b w).trans g6⟩
  case pos =>
    have c3 := h.c3
    rw [hk] at c3
    have c6 := h.c6
    have HM := Lib.hid hm
    cases hok : x.ok with
    | false =>
      rw [peek_kept (by simp [hok])]
      have HKD := Lib.hid hk
      clear h hw hm
      have HE : RowKit.Hid (x.numS = x.fail) := by show _ = _; unfold Lx.numS; rw [if_pos (by simp [hok])]
      have HV : RowKit.Hid (x.numR = ⟨#[]⟩) := by show _ = _; unfold Lx.numR; rw [if_pos (by simp [hok])]
      go_enter Tryz.func106, Tryz.ntmps106
      go_wp2_with (first | (go_at_call 47; refine (ok_any H.out).mono ?_; rintro e w' ⟨rfl, rfl⟩) | (go_at_call 103; refine (errInvalid_any H.out HM.out _ (by decide)).mono ?_; rintro e w4 ⟨rfl, ve4, g5, g6⟩))
      go_ret
      rw [HE.out, HV.out]
      exact ⟨rfl, _, ve4, g5, (Kept.refl b w).trans g6⟩
    | true =>
      rw [peek_new (by simp [hok, hk])]
      have HM2 : RowKit.Hid (x.fetch.multi = false) := fetch_same.multi.trans hm
      clear h hw hk hm c6
      cases hok2 : x.fetch.ok with
      | false =>
        have HE : RowKit.Hid (x.fetch.numS = x.fetch.fail) := by show _ = _; unfold Lx.numS; rw [if_pos (by simp [hok2])]
        have HV : RowKit.Hid (x.fetch.numR = ⟨#[]⟩) := by show _ = _; unfold Lx.numR; rw [if_pos (by simp [hok2])]
        go_enter Tryz.func106, Tryz.ntmps106
        go_wp2_with (first | (go_at_call 47; with_reducible refine (ok_any G1.out).mono ?_; rintro e w2 ⟨rfl, rfl⟩) | (go_at_call 47; refine (ok_any H.out).mono ?_; rintro e w' ⟨rfl, rfl⟩) | (go_at_call 86; refine (fetchToken_any H.out HW.out).mono ?_; rintro e w1 ⟨rfl, vt1, ve1, g1, g2⟩; have z3 := g1.c3; have z6 := g1.c6; have G1 := Lib.hid g1; have G2 := Lib.hid g2; clear g1 g2) | (go_at_call 103; refine (errInvalid_any G1.out HM2.out _ (by decide)).mono ?_; rintro e w4 ⟨rfl, ve4, g5, g6⟩))
        go_ret
        rw [HE.out, HV.out]
        exact ⟨rfl, _, ve4, g5, G2.out.trans g6⟩
      | true =>
        by_cases hd : x.fetch.kind = 3
        · have HE : RowKit.Hid (x.fetch.numS = x.fetch.consume) := by show _ = _; unfold Lx.numS; rw [if_neg (by simp [hok2, hd])]
          have HV : RowKit.Hid (x.fetch.numR = strOfNums x.fetch.tok) := by show _ = _; unfold Lx.numR; rw [if_neg (by simp [hok2, hd])]
          have d1 : ((x.fetch.kind : Int) == 3) = true := by simp; omega
          have d2 : ((x.fetch.kind : Int) != 3) = false := by simp; omega
          clear hd
          go_enter Tryz.func106, Tryz.ntmps106
          go_wp2_with (first | (go_at_call 47; with_reducible refine (ok_any G1.out).mono ?_; rintro e w2 ⟨rfl, rfl⟩) | (go_at_call 47; refine (ok_any H.out).mono ?_; rintro e w' ⟨rfl, rfl⟩) | (go_at_call 86; refine (fetchToken_any H.out HW.out).mono ?_; rintro e w1 ⟨rfl, vt1, ve1, g1, g2⟩; have z3 := g1.c3; have z6 := g1.c6; have G1 := Lib.hid g1; have G2 := Lib.hid g2; clear g1 g2) | (go_at_call 110; refine (bytesToStr_any G1.out.tok).mono ?_; rintro e w5 ⟨rfl, rfl⟩) | (go_at_call 104; refine (consume_any G1.out).mono ?_; rintro e w3 ⟨rfl, g3, g4⟩))
          go_ret
          rw [HE.out, HV.out]
          exact ⟨rfl, _, _, g3, G2.out.trans g4⟩
        · have d1 : ((x.fetch.kind : Int) == 3) = false := beq_eq_false_iff_ne.2 (by omega)
          have d2 : ((x.fetch.kind : Int) != 3) = true := bne_iff_ne.2 (by omega)
          have HE : RowKit.Hid (x.fetch.numS = x.fetch.fail) := by show _ = _; unfold Lx.numS; rw [if_pos (by simp [hok2, hd])]
          have HV : RowKit.Hid (x.fetch.numR = ⟨#[]⟩) := by show _ = _; unfold Lx.numR; rw [if_pos (by simp [hok2, hd])]
          clear hd
          go_enter Tryz.func106, Tryz.ntmps106
          go_wp2_with (first | (go_at_call 47; with_reducible refine (ok_any G1.out).mono ?_; rintro e w2 ⟨rfl, rfl⟩) | (go_at_call 47; refine (ok_any H.out).mono ?_; rintro e w' ⟨rfl, rfl⟩) | (go_at_call 86; refine (fetchToken_any H.out HW.out).mono ?_; rintro e w1 ⟨rfl, vt1, ve1, g1, g2⟩; have z3 := g1.c3; have z6 := g1.c6; have G1 := Lib.hid g1; have G2 := Lib.hid g2; clear g1 g2) | (go_at_call 103; refine (errInvalid_any G1.out HM2.out _ (by decide)).mono ?_; rintro e w4 ⟨rfl, ve4, g5, g6⟩))
          go_ret
          rw [HE.out, HV.out]
          exact ⟨rfl, _, ve4, g5, G2.out.trans g6⟩
end
end Go.Proofs.YtaecbclonmhbcaaGreatDoor

namespace Go.Proofs.YtaecbclonmhbcaaGreatDoor
open Go.RowKit
section
variable {x : Lx}
theorem fail_shut (h : x.ok = false) : x.fail = x := by unfold Lx.fail; rw [h]; rfl
theorem peek_shut (h : x.ok = false) : x.peek = x := peek_kept (by simp [h])
theorem Lx.Inv.fail (h : x.Inv) : x.fail.Inv :=
  ⟨h.wf.fail, fail_same.multi.trans h.multi, by unfold Lx.fail; split <;> exact h.kind, fail_tf, fail_nf, by rw [fail_same.d]; exact h.len⟩
theorem Lx.Inv.consume (h : x.Inv) : x.consume.Inv :=
  ⟨h.wf.consume, h.multi, by show (0 : Nat) ≤ 5; decide, tf_kind (by show (0 : Nat) ≠ 2 ∧ (0 : Nat) ≠ 3; decide), nf_kind (by show (0 : Nat) ≠ 3; decide), h.len⟩
theorem Lx.Inv.err (h : x.Inv) {e : Er} (he : e.isNil = false) : ({ x with err := e } : Lx).Inv := by
  have hn : ({ x with err := e } : Lx).ok = false := he
  exact ⟨h.wf.as rfl rfl rfl, h.multi, h.kind, fun ho => absurd (hn.symm.trans ho) (by decide), nf_notok hn, h.len⟩
theorem Lx.Inv.peek (h : x.Inv) : x.peek.Inv := by
  refine ⟨peek_wf h.wf, peek_same.multi.trans h.multi, ?_, peek_tf h.tf (fun i => h.wf.byte i), peek_nf h.nf, by rw [peek_same.d]; exact h.len⟩
  unfold Lx.peek
  split
  · rename_i hc
    simp only [Bool.and_eq_true] at hc
    exact (fetch_fine ⟨h.kind, by intro e; have := hc.2; rw [show x.ok = x.err.isNil from rfl, e] at this; cases this⟩).kind
  · exact h.kind
end
theorem below_kept {B b : Nat} {u v w : World} (h : Below B u v) (k : Kept b v w) (hB : B ≤ b) (hs : B ≤ u.heap.size) : Below B u w :=
  h.trans ⟨k.os, k.tape, k.output, k.size, fun j hj => k.block j (by have := h.size; omega) (by omega)⟩
def Gr (b : Nat) (w : World) : Prop := ∃ w0, Tabs w0 ∧ w0.heap.size ≤ b ∧ Below w0.heap.size w0 w
theorem Gr.kept {b : Nat} {w w' : World} (h : Gr b w) (k : Kept b w w') : Gr b w' := by
  obtain ⟨w0, h1, h2, h3⟩ := h
  exact ⟨w0, h1, h2, below_kept h3 k h2 (Nat.le_refl _)⟩
theorem Gr.below {b : Nat} {w w' : World} (h : Gr b w) (hl : b < w.heap.size) (k : Below w.heap.size w w') : Gr b w' := by
  obtain ⟨w0, h1, h2, h3⟩ := h
  exact ⟨w0, h1, h2, h3.trans ⟨k.os, k.tape, k.output, k.size, fun j hj => k.block j (by omega)⟩⟩
theorem Tabs.c3 {w : World} (h : Tabs w) : ∃ te pe, w.cell? ⟨3, 0, none⟩ = some (.iface te pe) := by obtain ⟨a, t, h1, -, -⟩ := h.e3; exact ⟨_, _, h1⟩
theorem Tabs.c4 {w : World} (h : Tabs w) : ∃ te pe, w.cell? ⟨4, 0, none⟩ = some (.iface te pe) := by obtain ⟨a, t, h1, -, -⟩ := h.e4; exact ⟨_, _, h1⟩
section
variable {w w' : World} {b : Nat} {ae : Sur} {ao : Addr} {x : Lx} {vd vt ve vm : Value}
theorem LexAt.belowNew (h : LexAt w b ae ao x vd vt ve vm) (k : Below w.heap.size w w') : LexAt w' b ae ao x vd vt ve vm :=
  h.grown (r := none) ⟨k.os, k.tape, k.output, k.size, fun j hj _ => k.block j hj⟩ (by simp)
theorem below_drewN (w : World) (n : Nat) : Below w.heap.size w (w.drewN n) := ⟨rfl, rfl, rfl, Nat.le_refl _, fun _ _ => rfl⟩
theorem kept_below (k : Below w.heap.size w w') (b : Nat) : Kept b w w' := ⟨k.os, k.tape, k.output, k.size, fun j hj _ => k.block j hj⟩
theorem below_of_kept (k : Kept w.heap.size w w') : Below w.heap.size w w' := ⟨k.os, k.tape, k.output, k.size, fun j hj => k.block j hj (Nat.ne_of_lt hj)⟩
end
end Go.Proofs.YtaecbclonmhbcaaGreatDoor

namespace Go.Proofs.YtaecbclonmhbcaaGreatDoor
open Go.RowKit
namespace Lx
def strS (x : Lx) : Lx := if !x.ok || x.kind != 2 then x.fail else match unesc (x.tok.length + 1) [] x.tok with | none => x.fail | some l => (x.unescS l).consume
def strR (x : Lx) : List Int := if !x.ok || x.kind != 2 then [] else match unesc (x.tok.length + 1) [] x.tok with | none => [] | some l => l
def str (x : Lx) : Lx := x.peek.strS
def strV (x : Lx) : List Int := x.peek.strR
end Lx
theorem strOf_nil : strOfNums [] = ⟨#[]⟩ := by decide
theorem fail_fail {x : Lx} : x.fail.fail = x.fail := by
  have h : x.fail.ok = false := fail_ok
  generalize x.fail = y at h
  unfold Lx.fail
  rw [h]; rfl
theorem unescS_tok {x : Lx} {l : List Int} (h : unesc (x.tok.length + 1) [] x.tok = some l) : (x.unescS l).tok = l := by
  unfold Lx.unescS
  split
  · rename_i hi
    have : unesc (x.tok.length + 1) [] x.tok = some x.tok := by simp [unesc, hi]
    rw [this] at h; exact Option.some.inj h
  · rfl
section
variable {w w' : World} {b : Nat} {ae : Sur} {ao : Addr} {x : Lx} {vd vt ve vm : Value}
def StrDone (w : World) (b : Nat) (ae : Sur) (ao : Addr) (x' : Lx) (vd vm : Value) (l : List Int) (e : Ending) (w' : World) : Prop := e = .returned (.string (strOfNums l)) ∧ NumDone w b ae ao x' vd vm w'
set_option maxHeartbeats 8000000 in
set_option maxRecDepth 100000 in
theorem string_any (h : LexAt w b ae ao x vd vt ve vm) (hw : x.Wf) (hm : x.multi = false) (htf : x.TF) (hlen : x.d.length ≤ 100000) :
    Calls Tryz.prog 53 #[.pointer (some ⟨b, 0, none⟩)] w fun e w' => StrDone w b ae ao x.str vd vm x.strV e w' := by
  unfold Lx.str Lx.strV
  have H := Lib.hid h
  have HW := Lib.hid hw
  by_cases hk : x.kind = 0
  case neg =>
    rw [peek_kept (by simp [hk])]
    have n1 : ((x.kind : Int) == 0) = false := beq_eq_false_iff_ne.2 (by omega)
    have HM2 := Lib.hid hm
    have HTF := Lib.hid htf
    have HWY := Lib.hid hw
    have HLD := Lib.hid hlen
    have HKD : RowKit.Hid (x.kind ≠ 0) := hk
    have c3 := h.c3
    have c6 := h.c6
    clear h hw hk hm htf hlen
    cases hok2 : (x).ok with
    | false =>
      have HE : RowKit.Hid ((x).strS = (x).fail) := by show _ = _; unfold Lx.strS; rw [if_pos (by simp [hok2])]
      have HV : RowKit.Hid ((x).strR = []) := by show _ = _; unfold Lx.strR; rw [if_pos (by simp [hok2])]
      go_enter Tryz.func53, Tryz.ntmps53
      go_wp2_with (first | (go_at_call 47; with_reducible refine (ok_any H.out).mono ?_; rintro e w2 ⟨rfl, rfl⟩) | (go_at_call 103; refine (errInvalid_any H.out HM2.out _ (by decide)).mono ?_; rintro e w4 ⟨rfl, ve4, g5, g6⟩))
      go_ret
      rw [HE.out, HV.out]
      unfold StrDone
      rw [strOf_nil]
      exact ⟨rfl, _, ve4, g5, (Kept.refl b w).trans g6⟩
    | true =>
      by_cases hd : (x).kind = 2
      case neg =>
        have d1 : (((x).kind : Int) == 2) = false := beq_eq_false_iff_ne.2 (by omega)
        have d2 : (((x).kind : Int) != 2) = true := bne_iff_ne.2 (by omega)
        have HE : RowKit.Hid ((x).strS = (x).fail) := by show _ = _; unfold Lx.strS; rw [if_pos (by simp [hok2, hd])]
        have HV : RowKit.Hid ((x).strR = []) := by show _ = _; unfold Lx.strR; rw [if_pos (by simp [hok2, hd])]
        clear hd
        go_enter Tryz.func53, Tryz.ntmps53
        go_wp2_with (first | (go_at_call 47; with_reducible refine (ok_any H.out).mono ?_; rintro e w2 ⟨rfl, rfl⟩) | (go_at_call 103; refine (errInvalid_any H.out HM2.out _ (by decide)).mono ?_; rintro e w4 ⟨rfl, ve4, g5, g6⟩))
        go_ret
        rw [HE.out, HV.out]
        unfold StrDone
        rw [strOf_nil]
        exact ⟨rfl, _, ve4, g5, (Kept.refl b w).trans g6⟩
      case pos =>
        have HTK := Lib.hid (HTF.out hok2 (.inl hd))
        have d1 : (((x).kind : Int) == 2) = true := by simp; omega
        have d2 : (((x).kind : Int) != 2) = false := by simp; omega
        cases hu : unesc ((x).tok.length + 1) [] (x).tok with
        | none =>
          have HE : RowKit.Hid ((x).strS = (x).fail) := by show _ = _; unfold Lx.strS; rw [if_neg (by simp [hok2, hd]), hu]
          have HV : RowKit.Hid ((x).strR = []) := by show _ = _; unfold Lx.strR; rw [if_neg (by simp [hok2, hd]), hu]
          have HU := Lib.hid hu
          have HM3 : RowKit.Hid ((x).fail.multi = false) := fail_multi.trans HM2.out
          clear hd hu
          go_enter Tryz.func53, Tryz.ntmps53
          go_wp2_with (first | (go_at_call 47; with_reducible refine (ok_any H.out).mono ?_; rintro e w2 ⟨rfl, rfl⟩) | (go_at_call 109; refine (unescape_any H.out HWY.out HTK.out.2 (Nat.le_trans HTK.out.1 HLD.out)).mono ?_; intro e w5 h5; unfold UnescDone at h5; rw [HU.out] at h5; obtain ⟨v5, he5, vt5, ve5, g5, g6⟩ := h5; subst he5; have G5 := Lib.hid g5; have G6 := Lib.hid g6; clear g5 g6) | (go_at_call 103; refine (errInvalid_any G5.out HM3.out _ (by decide)).mono ?_; rintro e w4 ⟨rfl, ve4, g7, g8⟩))
          go_ret
          rw [HE.out, HV.out]
          unfold StrDone
          rw [strOf_nil]
          rw [fail_fail] at g7
          exact ⟨rfl, _, ve4, g7, ((Kept.refl b w).trans G6.out).trans g8⟩
        | some l =>
          have HE : RowKit.Hid ((x).strS = ((x).unescS l).consume) := by show _ = _; unfold Lx.strS; rw [if_neg (by simp [hok2, hd]), hu]
          have HV : RowKit.Hid ((x).strR = l) := by show _ = _; unfold Lx.strR; rw [if_neg (by simp [hok2, hd]), hu]
          have HU := Lib.hid hu
          have HTL := Lib.hid (unescS_tok hu)
          clear hd hu
          obtain ⟨Z, hZ⟩ : ∃ Z, Z = (x).unescS l := ⟨_, rfl⟩
          rw [← hZ] at HE HTL
          have HZ := Lib.hid hZ
          clear hZ
          cases hcl : Z.cl
          all_goals
            go_enter Tryz.func53, Tryz.ntmps53
            go_wp2_with (first | (go_at_call 47; with_reducible refine (ok_any H.out).mono ?_; rintro e w2 ⟨rfl, rfl⟩) | (go_at_call 109; refine (unescape_any H.out HWY.out HTK.out.2 (Nat.le_trans HTK.out.1 HLD.out)).mono ?_; intro e w5 h5; unfold UnescDone at h5; rw [HU.out] at h5; obtain ⟨he5, vt5, ve5, g5, g6⟩ := h5; rw [← HZ.out] at g5; subst he5; have y5 := g5.c5; rw [hcl] at y5; have y6 := g5.c6; have hcv : (convert 22 9 vt5).run Tryz.prog w5 = .ok (.string (strOfNums l)) w5 := (by have := run_bytes_str g5.tok 0 9 Tryz.underlying9; rw [HTL.out] at this; exact this); have G5 := Lib.hid g5; have G6 := Lib.hid g6; clear g5 g6) | (go_at_call 110; refine (bytesToStr_any G5.out.tok).mono ?_; rintro e w7 ⟨he, rfl⟩; rw [HTL.out] at he; subst he) | (go_at_call 104; refine (consume_any G5.out).mono ?_; rintro e w3 ⟨rfl, g3, g4⟩))
            go_ret
            rw [HE.out, HV.out]
            exact ⟨rfl, _, _, g3, ((Kept.refl b w).trans G6.out).trans g4⟩
  case pos =>
    have c3 := h.c3
    rw [hk] at c3
    have c6 := h.c6
    cases hok : x.ok with
    | false =>
      rw [peek_kept (by simp [hok])]
      have HM2 := Lib.hid hm
      have HKD := Lib.hid hk
      have hok2 := hok
      clear h hw hm htf hlen
      have HE : RowKit.Hid ((x).strS = (x).fail) := by show _ = _; unfold Lx.strS; rw [if_pos (by simp [hok2])]
      have HV : RowKit.Hid ((x).strR = []) := by show _ = _; unfold Lx.strR; rw [if_pos (by simp [hok2])]
      go_enter Tryz.func53, Tryz.ntmps53
      go_wp2_with (first | (go_at_call 47; with_reducible refine (ok_any H.out).mono ?_; rintro e w2 ⟨rfl, rfl⟩) | (go_at_call 103; refine (errInvalid_any H.out HM2.out _ (by decide)).mono ?_; rintro e w4 ⟨rfl, ve4, g5, g6⟩))
      go_ret
      rw [HE.out, HV.out]
      unfold StrDone
      rw [strOf_nil]
      exact ⟨rfl, _, ve4, g5, (Kept.refl b w).trans g6⟩
    | true =>
      rw [peek_new (by simp [hok, hk])]
      have HM2 : RowKit.Hid (x.fetch.multi = false) := fetch_same.multi.trans hm
      have HTF : RowKit.Hid x.fetch.TF := fetch_tf (fun i => hw.byte i)
      have HWY : RowKit.Hid x.fetch.Wf := fetch_wf hw
      have HLD : RowKit.Hid (x.fetch.d.length ≤ 100000) := by show _ ≤ _; rw [fetch_same.d]; exact hlen
      clear h hw hk hm c6 htf hlen
      cases hok2 : (x.fetch).ok with
      | false =>
        have HE : RowKit.Hid ((x.fetch).strS = (x.fetch).fail) := by show _ = _; unfold Lx.strS; rw [if_pos (by simp [hok2])]
        have HV : RowKit.Hid ((x.fetch).strR = []) := by show _ = _; unfold Lx.strR; rw [if_pos (by simp [hok2])]
        go_enter Tryz.func53, Tryz.ntmps53
        go_wp2_with (first | (go_at_call 47; with_reducible refine (ok_any G1.out).mono ?_; rintro e w2 ⟨rfl, rfl⟩) | (go_at_call 47; refine (ok_any H.out).mono ?_; rintro e w' ⟨rfl, rfl⟩) | (go_at_call 86; refine (fetchToken_any H.out HW.out).mono ?_; rintro e w1 ⟨rfl, vt1, ve1, g1, g2⟩; have z3 := g1.c3; have z6 := g1.c6; have G1 := Lib.hid g1; have G2 := Lib.hid g2; clear g1 g2) | (go_at_call 47; with_reducible refine (ok_any G1.out).mono ?_; rintro e w2 ⟨rfl, rfl⟩) | (go_at_call 103; refine (errInvalid_any G1.out HM2.out _ (by decide)).mono ?_; rintro e w4 ⟨rfl, ve4, g5, g6⟩))
        go_ret
        rw [HE.out, HV.out]
        unfold StrDone
        rw [strOf_nil]
        exact ⟨rfl, _, ve4, g5, G2.out.trans g6⟩
      | true =>
        by_cases hd : (x.fetch).kind = 2
        case neg =>
          have d1 : (((x.fetch).kind : Int) == 2) = false := beq_eq_false_iff_ne.2 (by omega)
          have d2 : (((x.fetch).kind : Int) != 2) = true := bne_iff_ne.2 (by omega)
          have HE : RowKit.Hid ((x.fetch).strS = (x.fetch).fail) := by show _ = _; unfold Lx.strS; rw [if_pos (by simp [hok2, hd])]
          have HV : RowKit.Hid ((x.fetch).strR = []) := by show _ = _; unfold Lx.strR; rw [if_pos (by simp [hok2, hd])]
          clear hd
          go_enter Tryz.func53, Tryz.ntmps53
          go_wp2_with (first | (go_at_call 47; with_reducible refine (ok_any G1.out).mono ?_; rintro e w2 ⟨rfl, rfl⟩) | (go_at_call 47; refine (ok_any H.out).mono ?_; rintro e w' ⟨rfl, rfl⟩) | (go_at_call 86; refine (fetchToken_any H.out HW.out).mono ?_; rintro e w1 ⟨rfl, vt1, ve1, g1, g2⟩; have z3 := g1.c3; have z6 := g1.c6; have G1 := Lib.hid g1; have G2 := Lib.hid g2; clear g1 g2) | (go_at_call 47; with_reducible refine (ok_any G1.out).mono ?_; rintro e w2 ⟨rfl, rfl⟩) | (go_at_call 103; refine (errInvalid_any G1.out HM2.out _ (by decide)).mono ?_; rintro e w4 ⟨rfl, ve4, g5, g6⟩))
          go_ret
          rw [HE.out, HV.out]
          unfold StrDone
          rw [strOf_nil]
          exact ⟨rfl, _, ve4, g5, G2.out.trans g6⟩
        case pos =>
          have HTK := Lib.hid (HTF.out hok2 (.inl hd))
          have d1 : (((x.fetch).kind : Int) == 2) = true := by simp; omega
          have d2 : (((x.fetch).kind : Int) != 2) = false := by simp; omega
          cases hu : unesc ((x.fetch).tok.length + 1) [] (x.fetch).tok with
          | none =>
            have HE : RowKit.Hid ((x.fetch).strS = (x.fetch).fail) := by show _ = _; unfold Lx.strS; rw [if_neg (by simp [hok2, hd]), hu]
            have HV : RowKit.Hid ((x.fetch).strR = []) := by show _ = _; unfold Lx.strR; rw [if_neg (by simp [hok2, hd]), hu]
            have HU := Lib.hid hu
            have HM3 : RowKit.Hid ((x.fetch).fail.multi = false) := fail_multi.trans HM2.out
            clear hd hu
            go_enter Tryz.func53, Tryz.ntmps53
            go_wp2_with (first | (go_at_call 47; with_reducible refine (ok_any G1.out).mono ?_; rintro e w2 ⟨rfl, rfl⟩) | (go_at_call 47; refine (ok_any H.out).mono ?_; rintro e w' ⟨rfl, rfl⟩) | (go_at_call 86; refine (fetchToken_any H.out HW.out).mono ?_; rintro e w1 ⟨rfl, vt1, ve1, g1, g2⟩; have z3 := g1.c3; have z6 := g1.c6; have G1 := Lib.hid g1; have G2 := Lib.hid g2; clear g1 g2) | (go_at_call 47; with_reducible refine (ok_any G1.out).mono ?_; rintro e w2 ⟨rfl, rfl⟩) | (go_at_call 109; refine (unescape_any G1.out HWY.out HTK.out.2 (Nat.le_trans HTK.out.1 HLD.out)).mono ?_; intro e w5 h5; unfold UnescDone at h5; rw [HU.out] at h5; obtain ⟨v5, he5, vt5, ve5, g5, g6⟩ := h5; subst he5; have G5 := Lib.hid g5; have G6 := Lib.hid g6; clear g5 g6) | (go_at_call 103; refine (errInvalid_any G5.out HM3.out _ (by decide)).mono ?_; rintro e w4 ⟨rfl, ve4, g7, g8⟩))
            go_ret
            rw [HE.out, HV.out]
            unfold StrDone
            rw [strOf_nil]
            rw [fail_fail] at g7
            exact ⟨rfl, _, ve4, g7, (G2.out.trans G6.out).trans g8⟩
          | some l =>
            have HE : RowKit.Hid ((x.fetch).strS = ((x.fetch).unescS l).consume) := by show _ = _; unfold Lx.strS; rw [if_neg (by simp [hok2, hd]), hu]
            have HV : RowKit.Hid ((x.fetch).strR = l) := by show _ = _; unfold Lx.strR; rw [if_neg (by simp [hok2, hd]), hu]
            have HU := Lib.hid hu
            have HTL := Lib.hid (unescS_tok hu)
            clear hd hu
            obtain ⟨Z, hZ⟩ : ∃ Z, Z = (x.fetch).unescS l := ⟨_, rfl⟩
            rw [← hZ] at HE HTL
            have HZ := Lib.hid hZ
            clear hZ
            cases hcl : Z.cl
            all_goals
              go_enter Tryz.func53, Tryz.ntmps53
              go_wp2_with (first | (go_at_call 47; with_reducible refine (ok_any G1.out).mono ?_; rintro e w2 ⟨rfl, rfl⟩) | (go_at_call 47; refine (ok_any H.out).mono ?_; rintro e w' ⟨rfl, rfl⟩) | (go_at_call 86; refine (fetchToken_any H.out HW.out).mono ?_; rintro e w1 ⟨rfl, vt1, ve1, g1, g2⟩; have z3 := g1.c3; have z6 := g1.c6; have G1 := Lib.hid g1; have G2 := Lib.hid g2; clear g1 g2) | (go_at_call 47; with_reducible refine (ok_any G1.out).mono ?_; rintro e w2 ⟨rfl, rfl⟩) | (go_at_call 109; refine (unescape_any G1.out HWY.out HTK.out.2 (Nat.le_trans HTK.out.1 HLD.out)).mono ?_; intro e w5 h5; unfold UnescDone at h5; rw [HU.out] at h5; obtain ⟨he5, vt5, ve5, g5, g6⟩ := h5; rw [← HZ.out] at g5; subst he5; have y5 := g5.c5; rw [hcl] at y5; have y6 := g5.c6; have hcv : (convert 22 9 vt5).run Tryz.prog w5 = .ok (.string (strOfNums l)) w5 := (by have := run_bytes_str g5.tok 0 9 Tryz.underlying9; rw [HTL.out] at this; exact this); have G5 := Lib.hid g5; have G6 := Lib.hid g6; clear g5 g6) | (go_at_call 110; refine (bytesToStr_any G5.out.tok).mono ?_; rintro e w7 ⟨he, rfl⟩; rw [HTL.out] at he; subst he) | (go_at_call 104; refine (consume_any G5.out).mono ?_; rintro e w3 ⟨rfl, g3, g4⟩))
              go_ret
              rw [HE.out, HV.out]
              exact ⟨rfl, _, _, g3, (G2.out.trans G6.out).trans g4⟩
end
end Go.Proofs.YtaecbclonmhbcaaGreatDoor

namespace Go.Proofs.YtaecbclonmhbcaaGreatDoor
open Go.RowKit
namespace Lx
def added (x : Lx) : Lx := if x.ok then { x with err := .other } else x
end Lx
section
variable {w w' : World} {b : Nat} {ae : Sur} {ao : Addr} {x : Lx} {vd vt ve vm : Value}
set_option maxHeartbeats 1000000 in
theorem addError_any (h : LexAt w b ae ao x vd vt ve vm) : Calls Tryz.prog 48 #[.pointer (some ⟨b, 0, none⟩), .iface 191 (.pointer (some ao))] w fun e w' => e = .returned (.tuple #[]) ∧ NumDone w b ae ao x.added vd vm w' := by
  have H := Lib.hid h
  have c11 := h.c11
  have f11 := h.free 11
  have he := h.err
  have hx : x.ok = x.err.isNil := rfl
  have hkp := Kept.refl b w
  have HK := Lib.hid hkp
  unfold Lx.added
  rw [hx]
  clear h hx hkp
  cases hxe : x.err <;> rw [hxe] at he <;> simp only [ErrAt] at he
  case nil =>
    subst he
    clear hxe
    simp only [Er.isNil, if_true]
    go_enter Tryz.func48, Tryz.ntmps48
    go_wp2
    refine bodyPost_end (results_none rfl _ _ _) rfl ⟨rfl, vt, .iface 191 (.pointer (some ao)), ?_, HK.out.setCell _ _⟩
    exact H.out.setErr _ .other rfl
  case lex n =>
    obtain ⟨k, s, t, rfl, -, -⟩ := he
    clear hxe
    simp only [Er.isNil, Bool.false_eq_true, if_false]
    go_enter Tryz.func48, Tryz.ntmps48
    go_wp2
    exact bodyPost_end (results_none rfl _ _ _) rfl ⟨rfl, vt, _, H.out, HK.out⟩
  all_goals
    subst he
    clear hxe
    simp only [Er.isNil, Bool.false_eq_true, if_false]
    go_enter Tryz.func48, Tryz.ntmps48
    go_wp2
    exact bodyPost_end (results_none rfl _ _ _) rfl ⟨rfl, vt, _, H.out, HK.out⟩
theorem delimP_inv (h : x.Inv) (c : Int) : (x.delimP c).Inv := by
  unfold Lx.delimP Lx.delimS
  split
  · exact h.peek.consume.fail
  · exact h.peek.consume
theorem delimP_shut (h : x.ok = false) (c : Int) : (x.delimP c).err = x.err := by
  unfold Lx.delimP Lx.delimS
  rw [peek_shut h, if_pos (by simp [h]), fail_shut (x := x.consume) h]
  rfl
theorem consume_inv (hw : x.Wf) (hm : x.multi = false) (hl : x.d.length ≤ 100000) : x.consume.Inv :=
  ⟨hw.consume, hm, by show (0 : Nat) ≤ 5; decide, tf_kind (by show (0 : Nat) ≠ 2 ∧ (0 : Nat) ≠ 3; decide), nf_kind (by show (0 : Nat) ≠ 3; decide), hl⟩
theorem unescS_inv (h : x.Inv) (l : List Int) : (x.unescS l).consume.Inv := by
  unfold Lx.unescS
  split
  · exact h.consume
  · exact consume_inv (h.wf.as rfl rfl rfl) h.multi h.len
theorem str_inv (h : x.Inv) : x.str.Inv := by
  unfold Lx.str Lx.strS
  split
  · exact h.peek.fail
  · split
    · exact h.peek.fail
    · exact unescS_inv h.peek _
end
end Go.Proofs.YtaecbclonmhbcaaGreatDoor

namespace Go.Proofs.YtaecbclonmhbcaaGreatDoor
open Go.RowKit
def ErrB (b : Nat) (ae ao : Addr) (w : World) : Prop := ∃ (ca cb : Array Value) (ta tb : TypeId), w.heap[ao.block]? = some (.cells ca ta (0, 0)) ∧ w.heap[ae.block]? = some (.cells cb tb (0, 0)) ∧ ao.block ≠ b ∧ ae.block ≠ b
theorem ErrB.kept {b : Nat} {ae ao : Addr} {w w' : World} (h : ErrB b ae ao w) (k : Kept b w w') : ErrB b ae ao w' := by
  obtain ⟨ca, cb, ta, tb, h1, h2, h3, h4⟩ := h
  exact ⟨ca, cb, ta, tb, k.heap h1 h3, k.heap h2 h4, h3, h4⟩
section
variable {w w' : World} {b : Nat} {ae : Sur} {ao : Addr} {x : Lx} {vd vt ve vm : Value}
theorem kind_all {v : Value} {e : Er} (h : ErrAt w b ae ao v e) (he : Env w ae ao) (hB : ErrB b ae.addr ao w) :
    Calls Tryz.prog 35 #[v] w fun e' w' => e' = .returned (.int .i64 e.num) ∧ w = w' := by
  by_cases ho : e = .other
  · subst ho
    simp only [ErrAt] at h
    subst h
    obtain ⟨ca, cb, ta, tb, h1, h2, -, -⟩ := hB
    exact kind_other w he h1 h2
  · exact kind_any h he ho
end
end Go.Proofs.YtaecbclonmhbcaaGreatDoor
