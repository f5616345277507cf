/- FetchToken, at every state. The methods over tokens, of a lexer with one error: IsDelim, Delim, IsNull, Null, Bool, CurrentToken. Printed by gen_tok.py. impl.mark and impl.text, the calls that the claims make. impl.call, the calls that the claims make. Printed by gen_call.py. impl.Lex over a row of calls. impl.Lex over a row of calls, each told by what it may do. addNonfatalError of a lexer with one error: the error is set. -/
import Derived.Test.YtaecbclonmhbcaaGreatDoorP13
import Derived.Test.YtaecbclonmhbcaaGreatDoorP27
import Derived.Test.YtaecbclonmhbcaaGreatDoorP28
import Derived.Test.YtaecbclonmhbcaaGreatDoorP29
import Derived.WalkMore
set_option linter.unusedVariables false
set_option linter.unusedSimpArgs false
namespace Go.Proofs.YtaecbclonmhbcaaGreatDoor
open Go.RowKit
section
variable {w : World} {b : Nat} {ae : Sur} {ao : Addr} {x : Lx} {vd vt ve vm : Value}
theorem fetchToken_any (h : LexAt w b ae ao x vd vt ve vm) (hw : x.Wf) :
    Calls Tryz.prog 86 #[.pointer (some ⟨b, 0, none⟩)] w fun e w' => e = .returned (.tuple #[]) ∧ NumDone w b ae ao x.fetch vd vm w' := by
  have hp := hw.pos
  rcases h.data with ⟨h0, rfl⟩ | ⟨bd, o, cap, rfl, hc, hne, hx⟩
  · have hl : x.d.length = 0 := by rw [h0]; rfl
    exact fetchToken_none h (by omega) hl
  · by_cases hcp : cap = x.pos
    · obtain rfl : cap = x.d.length := by omega
      exact fetchToken_cap bd o h hw hcp.symm
    · exact fetchToken_more bd o cap h hw hc (fun e => hne.1 (.inl e)) hcp
end
end Go.Proofs.YtaecbclonmhbcaaGreatDoor

namespace Go.Proofs.YtaecbclonmhbcaaGreatDoor
open Go.RowKit
namespace Lx
def boolS (x : Lx) : Lx := if !x.ok || x.kind != 4 then x.fail else x.consume
def bool (x : Lx) : Lx := x.peek.boolS
end Lx
section
variable {w : World} {b : Nat} {ae : Sur} {ao : Addr} {x : Lx} {vd vt ve vm : Value}
theorem peek_kept (h : (x.kind == 0 && x.ok) = false) : x.peek = x := by unfold Lx.peek; rw [h]; rfl
theorem peek_new (h : (x.kind == 0 && x.ok) = true) : x.peek = x.fetch := by unfold Lx.peek; rw [h]; rfl
theorem one_byte_str {c : Int} (W : World) : ∀ dst, Tryz.prog.underlying dst = some .string →
    (convert 22 dst (.slice (some ⟨W.heap.size, 0, none⟩) 1 1)).run Tryz.prog (W.alloc (.cells #[.int .u8 c] 5)) = .ok (.string (strOfNums [c])) (W.alloc (.cells #[.int .u8 c] 5)) :=
  run_convert_bytes_arg (W.alloc (.cells #[.int .u8 c] 5)) 22 5 Tryz.underlying22 Tryz.underlying5 W.heap.size 0 1 1 [c] rfl (fun i hi => by
    obtain rfl : i = 0 := by omega
    simp)
theorem Lx.Wf.consume (h : x.Wf) : x.consume.Wf := h.as rfl rfl rfl
end
end Go.Proofs.YtaecbclonmhbcaaGreatDoor

namespace Go.Proofs.YtaecbclonmhbcaaGreatDoor
open Go.RowKit
def Sur.hold (s : Sur) (j : Nat) : Sur := { s with held := fun k => s.held k ∨ k = j }
theorem Sur.hold_self (s : Sur) (j : Nat) : (s.hold j).held j := Or.inr rfl
section
variable {w w' : World} {b : Nat} {ae : Sur} {ao : Addr} {x : Lx} {vd vt ve vm : Value}
theorem grownBy_setCell (w : World) (k i : Nat) (v : Value) : w.grownBy (w.setCell ⟨k, i, none⟩ v) (some k) :=
  ⟨rfl, rfl, rfl, by simp, fun j _ hj => heap_setCell_other i v fun e => hj (by rw [e])⟩
theorem LexAt.setHeld (h : LexAt w b ae ao x vd vt ve vm) {k : Nat} (hk : ae.held k) (hb : b < k) (i : Nat) (v : Value) : LexAt (w.setCell ⟨k, i, none⟩ v) b ae ao x vd vt ve vm := by
  have h2 := h.b2
  refine h.grown (grownBy_setCell w k i v) ?_
  rintro j e
  obtain rfl := Option.some.inj e
  exact ⟨hk, by omega, by omega⟩
theorem LexAt.hold (h : LexAt w b ae ao x vd vt ve vm) (o : Obj) : LexAt (w.alloc o) b (ae.hold w.heap.size) ao x vd vt ve vm := by
  have hg := World.grownBy_alloc w o none
  have hA : ∀ k, k < w.heap.size → (ae.hold w.heap.size).off b k → ae.off b k := by
    rintro k hk (e | e | e)
    · exact .inl e
    · exact .inr e
    · omega
  refine ⟨?_, (h.data.other hA).grown hg (by simp), (h.tok.other hA).grown hg (by simp), ?_, ⟨(h.env.grown hg (by simp) (by simp)).eof, (h.env.grown hg (by simp) (by simp)).other, h.env.ne⟩, h.b2, ?_⟩
  · rw [hg.block b h.lt (by simp)]; exact h.heap
  · have he := h.err
    cases hx : x.err <;> rw [hx] at he <;> simp only [ErrAt] at he ⊢ <;> try exact he
    obtain ⟨k, s, t, hv, hn, hh⟩ := he
    exact ⟨k, s, t, hv, fun a => hn (hA k (lt_heap hh) a), by rw [hg.block k (lt_heap hh) (by simp)]; exact hh⟩
  · rintro k (a | rfl)
    · have := h.held k a; have := hg.size; omega
    · simp
theorem LexAt.less {j : Nat} (h : LexAt w b (ae.hold j) ao x vd vt ve vm) : LexAt w b ae ao x vd vt ve vm := by
  have hA : ∀ k, ae.off b k → (ae.hold j).off b k := by
    rintro k (e | e)
    · exact .inl e
    · exact .inr (.inl e)
  refine ⟨h.heap, h.data.other fun k _ => hA k, h.tok.other fun k _ => hA k, ?_, ⟨h.env.eof, h.env.other, h.env.ne⟩, h.b2, fun k a => h.held k (.inl a)⟩
  have he := h.err
  cases hx : x.err <;> rw [hx] at he <;> simp only [ErrAt] at he ⊢ <;> try exact he
  obtain ⟨k, s, t, hv, hn, hh⟩ := he
  exact ⟨k, s, t, hv, fun a => hn (hA k a), hh⟩
theorem Kept.setNew {b : Nat} {u v : World} (h : Kept b u v) {k : Nat} (hk : u.heap.size ≤ k) (i : Nat) (x : Value) : Kept b u (v.setCell ⟨k, i, none⟩ x) :=
  ⟨h.os, h.tape, h.output, Nat.le_trans h.size (by simp), fun j hj hn => (heap_setCell_other i x (by omega)).trans (h.block j hj hn)⟩
theorem Kept.of_alloc {b : Nat} {u v : World} {o : Obj} (h : Kept b (u.alloc o) v) : Kept b u v := ((Kept.refl b u).alloc o).trans h
def callV (op n : Int) (s : Value) : Value := .agg #[.int .i64 op, .int .i64 n, s]
def gotV (n : Int) (s : Value) (k p : Int) : Value := .agg #[.int .i64 n, s, .int .i64 k, .int .i64 p]
theorem got_heap {w w1 : World} {b : Nat} {o : Obj} {c : Array Value} (h : Kept b ((w.alloc o).alloc (.cells c 30)) w1) (hb : b < w.heap.size) : w1.heap[w.heap.size + 1]? = some (.cells c 30 (0, 0)) := by
  have hs : (w.alloc o).heap.size = w.heap.size + 1 := by simp
  have := h.heap (heap_alloc_new (w.alloc o) (.cells c 30)) (by omega)
  rwa [hs] at this
def MarkDone (w : World) (b : Nat) (ae : Sur) (ao : Addr) (x' : Lx) (vd vm : Value) (n : Int) (e : Ending) (w' : World) : Prop :=
  e = .returned (gotV n (.slice none 0 0) 0 0) ∧ NumDone w b ae ao x' vd vm w'
end
end Go.Proofs.YtaecbclonmhbcaaGreatDoor

namespace Go.Proofs.YtaecbclonmhbcaaGreatDoor
open Go.RowKit
theorem Sur.hold_old {s : Sur} {j k : Nat} (h : s.held k) : (s.hold j).held k := Or.inl h
section
variable {w w' : World} {b : Nat} {ae : Sur} {ao : Addr} {x : Lx} {vd vt ve vm : Value}
theorem LexAt.got4 (h : LexAt w b ae ao x vd vt ve vm) {k : Nat} (hk : ae.held k) (hb : b < k) (v0 v1 v2 v3 : Value) :
    LexAt ((((w.setCell ⟨k, 0, none⟩ v0).setCell ⟨k, 1, none⟩ v1).setCell ⟨k, 2, none⟩ v2).setCell ⟨k, 3, none⟩ v3) b ae ao x vd vt ve vm :=
  (((h.setHeld hk hb 0 v0).setHeld hk hb 1 v1).setHeld hk hb 2 v2).setHeld hk hb 3 v3
theorem kind_any {v : Value} {e : Er} (h : ErrAt w b ae ao v e) (he : Env w ae ao) (hn : e ≠ .other) :
    Calls Tryz.prog 35 #[v] w fun e' w' => e' = .returned (.int .i64 e.num) ∧ w = w' := by
  cases e with
  | nil => simp only [ErrAt] at h; subst h; exact kind_nil w
  | eof => simp only [ErrAt] at h; subst h; exact kind_eof w he
  | other => exact absurd rfl hn
  | lex n => obtain ⟨k, s, t, rfl, -, -⟩ := h; exact kind_lex w _ he
theorem got_heap3 {w w1 : World} {b : Nat} {o : Obj} {c c' : Array Value} (h : Kept b (((w.alloc o).alloc (.cells c 30)).alloc (.cells c' 30)) w1) (hb : b < w.heap.size) :
    w1.heap[w.heap.size + 1]? = some (.cells c 30 (0, 0)) ∧ w1.heap[w.heap.size + 1 + 1]? = some (.cells c' 30 (0, 0)) := by
  have hs : (w.alloc o).heap.size = w.heap.size + 1 := by simp
  have hs' : ((w.alloc o).alloc (.cells c 30)).heap.size = w.heap.size + 1 + 1 := by simp
  have h1 := h.heap (heap_alloc_new ((w.alloc o).alloc (.cells c 30)) (.cells c' 30)) (by omega)
  have h0 : (((w.alloc o).alloc (.cells c 30)).alloc (.cells c' 30)).heap[w.heap.size + 1]? = some (.cells c 30 (0, 0)) := by
    rw [heap_alloc_lt (by rw [hs']; omega), ← hs]
    exact heap_alloc_new (w.alloc o) (.cells c 30)
  rw [hs'] at h1
  exact ⟨h.heap h0 (by omega), h1⟩
theorem got_store {w1 w2 : World} {x' : Lx} {vt1 ve1 : Value} {o : Obj} {c : Array Value} {d0 d1 d2 d3 v0 v1 v2 v3 : Value} (g1 : LexAt w1 b ((ae.hold (w.heap.size + 1)).hold (w.heap.size + 1 + 1)) ao x' vd vt1 ve1 vm)
    (g2 : Kept b (((w.alloc o).alloc (.cells c 30)).alloc (.cells #[d0, d1, d2, d3] 30)) w1) (hb : b < w.heap.size)
    (h2 : (((w1.setCell ⟨w.heap.size + 1 + 1, 0, none⟩ v0).setCell ⟨w.heap.size + 1 + 1, 1, none⟩ v1).setCell ⟨w.heap.size + 1 + 1, 2, none⟩ v2).setCell ⟨w.heap.size + 1 + 1, 3, none⟩ v3 = w2) :
    w2.heap[w.heap.size + 1]? = some (.cells c 30 (0, 0)) ∧ w2.heap[w.heap.size + 1 + 1]? = some (.cells #[v0, v1, v2, v3] 30 (0, 0)) ∧ LexAt w2 b ((ae.hold (w.heap.size + 1)).hold (w.heap.size + 1 + 1)) ao x' vd vt1 ve1 vm ∧ Kept b w w2 := by
  obtain ⟨ha, hc⟩ := got_heap3 g2 hb
  subst h2
  refine ⟨?_, ?_, g1.got4 (Sur.hold_self _ _) (by omega) _ _ _ _, ?_⟩
  · rw [heap_setCell_other _ _ (by omega), heap_setCell_other _ _ (by omega), heap_setCell_other _ _ (by omega), heap_setCell_other _ _ (by omega)]
    exact ha
  · exact heap_setCell (heap_setCell (heap_setCell (heap_setCell hc 0 v0) 1 v1) 2 v2) 3 v3
  · repeat refine Kept.setNew ?_ (by omega) _ _
    exact Kept.of_alloc (Kept.of_alloc (Kept.of_alloc g2))
theorem MarkDone.split {x' : Lx} {n : Int} {e : Ending} (h : MarkDone w b ae ao x' vd vm n e w') : e = .returned (gotV n (.slice none 0 0) 0 0) ∧ ∃ vt' ve', LexAt w' b ae ao x' vd vt' ve' vm ∧ Kept b w w' := h
def CallDone (w : World) (b : Nat) (ae : Sur) (ao : Addr) (x' : Lx) (vd vm : Value) (n : Int) (e : Ending) (w' : World) : Prop :=
  e = .returned (gotV n (.slice none 0 0) x'.err.num x'.pos) ∧ NumDone w b ae ao x' vd vm w'
end
end Go.Proofs.YtaecbclonmhbcaaGreatDoor

namespace Go.Proofs.YtaecbclonmhbcaaGreatDoor
open Go.RowKit
theorem info30 : (Tryz.prog.info? 30).map (fun i => (i.zero, i.size, i.bytes)) = some (some (Value.agg #[.int .i64 0, .slice none 0 0, .int .i64 0, .int .i64 0]), 4, 48) := by kernel_rfl
theorem append_got {w : World} {base : Nat} {v : Value} {n : Nat} {xs : List Value} (hown : w.ownsRow base 30 4 v n xs) (ad : Addr) (c : Nat) (news : List Value) (hl : news.length = 4)
    (hnews : ∀ j u, news[j]? = some u → w.cell? (ad.add j) = some u) (h1 : ∀ u ∈ news, u.oneCell' = true) (hn : n ≤ 1000000) (hbase : base ≤ w.heap.size) :
    ∃ v' w', (Builtin.append_ #[24, 24] 24 #[v, .slice (some ad) 1 c]).run Tryz.prog w = .ok v' w' ∧ w'.ownsRow base 30 4 v' (n + 1) (xs ++ news) ∧ w.grownBy w' v.ownBlock ∧
      (v'.ownBlock = v.ownBlock ∨ ∃ k, w.heap.size ≤ k ∧ v'.ownBlock = some k) := by
  obtain ⟨i, hi, hz, hz1, hz2⟩ := info_parts info30
  obtain ⟨v', w', hr, h2, h3, h4⟩ := run_append_own (P := Tryz.prog) w base 24 24 30 i _ 4 48 Tryz.underlying24 hi hz hz1 hz2 rfl (by decide) v n xs hown ad 1 c news (by omega) hnews h1 (by unfold maxLen; omega) (by omega) hbase
  refine ⟨v', w', hr, h2, h3, ?_⟩
  rcases hown.2 with ⟨rfl, rfl⟩ | ⟨g, cap, cur, rfl, hbg, hg, hnc, hcm, hcs, htake⟩
  · have hr' := run_append_nil (P := Tryz.prog) w 24 24 30 i _ Tryz.underlying24 hi hz ad 1 c news (by omega) hnews (by omega) (by omega) (by omega)
    rw [hr] at hr'
    simp only [Result.ok.injEq] at hr'
    rw [hr'.1]
    exact .inr ⟨_, Nat.le_refl _, rfl⟩
  · by_cases hroom : n + 1 ≤ cap
    · obtain ⟨w2, hr', -⟩ := run_append_fits (P := Tryz.prog) w base 24 24 30 i 4 Tryz.underlying24 hi hz1 g n cap xs hown ad 1 c news (by omega) hnews h1 hroom
      rw [hr] at hr'
      simp only [Result.ok.injEq] at hr'
      rw [hr'.1]
      exact .inl rfl
    · have hr' := run_append_grow (P := Tryz.prog) w 24 24 30 i _ Tryz.underlying24 hi hz ⟨g, 0, none⟩ n cap xs (by rw [hown.1, hz1]) (hown.cells (g := g) rfl) ad 1 c news (by omega) hnews (by omega) (by omega) (growslice_fits (by omega) (by rw [hz2]; omega))
      rw [hr] at hr'
      simp only [Result.ok.injEq] at hr'
      rw [hr'.1]
      exact .inr ⟨_, Nat.le_refl _, rfl⟩
def CallsAt (w : World) (cb co : Nat) (cs : List (Int × Int)) : Prop :=
  ∀ k, k < cs.length → w.cell? ⟨cb, co + k * 3, none⟩ = some (.int .i64 (cs.getD k (0, 0)).1) ∧ w.cell? ⟨cb, co + k * 3 + 1, none⟩ = some (.int .i64 (cs.getD k (0, 0)).2) ∧ w.cell? ⟨cb, co + k * 3 + 2, none⟩ = some (.slice none 0 0)
def Sur.own (ae : Sur) (v : Value) : Sur := ⟨ae.addr, fun j => v.ownBlock = some j⟩
section
variable {w w1 w2 : World} {b : Nat} {ae : Sur} {ao : Addr} {x : Lx} {vd vt ve vm : Value}
theorem BytesAt.move {w w' : World} {A A' : Nat → Prop} {v : Value} {l : List Int} {r : Option Nat} (h : BytesAt w A v l) (hg : w.grownBy w' r) (hr : ∀ k, r = some k → A k) (hA : ∀ k, k < w.heap.size → A' k → A k) : BytesAt w' A' v l := by
  rcases h with h | ⟨b, o, cap, hv, hc, hn, hx⟩
  · exact .inl h
  · exact .inr ⟨b, o, cap, hv, hc, ⟨fun a => hn.1 (hA _ hn.2 a), Nat.lt_of_lt_of_le hn.2 hg.size⟩, fun i hi => hg.cell (hx i hi) fun e => hn.1 (hr _ e.symm)⟩
theorem LexAt.move {w' : World} {ae' : Sur} {r : Option Nat} (h : LexAt w b ae ao x vd vt ve vm) (hg : w.grownBy w' r) (hr : ∀ k, r = some k → ae.held k ∧ k ≠ b ∧ 1 < k)
    (ha : ae'.addr = ae.addr) (hA : ∀ k, k < w.heap.size → ae'.off b k → ae.off b k) (hh : ∀ k, ae'.held k → k < w'.heap.size) : LexAt w' b ae' ao x vd vt ve vm := by
  have hA' : ∀ k, r = some k → ae.off b k := fun k e => .inr (hr k e).1
  have g := h.grown hg hr
  refine ⟨g.heap, h.data.move hg hA' hA, h.tok.move hg hA' hA, ?_, ⟨by rw [ha]; exact g.env.eof, g.env.other, by rw [ha]; exact g.env.ne⟩, h.b2, hh⟩
  have he := h.err
  cases hx : x.err <;> rw [hx] at he <;> simp only [ErrAt] at he ⊢
  · exact he
  · rw [ha]; exact he
  · exact he
  · obtain ⟨k, s, t, hv, hn, hh⟩ := he
    exact ⟨k, s, t, hv, fun a => hn (hA k (lt_heap hh) a), by rw [hg.block k (lt_heap hh) (fun e => hn (hA' k e.symm))]; exact hh⟩
theorem grownBy_self {r : Option Nat} (w : World) : w.grownBy w r := ⟨rfl, rfl, rfl, Nat.le_refl _, fun _ _ _ => rfl⟩
theorem ownsRow_base {w : World} {base base' : Nat} {e : TypeId} {size : Nat} {v : Value} {n : Nat} {xs : List Value} (h : w.ownsRow base e size v n xs) (hb : base' ≤ base) : w.ownsRow base' e size v n xs := by
  refine ⟨h.1, ?_⟩
  rcases h.2 with h' | ⟨g, cap, cur, hv, hbg, rest⟩
  · exact .inl h'
  · exact .inr ⟨g, cap, cur, hv, by omega, rest⟩
theorem round_step {B k : Nat} {v : Value} {xs : List Value} {n q p : Int} {s : Value} (hs1 : s.oneCell' = true) (h0 : w.grownBy w1 none) (hk : Kept b w1 w2) (hown : w.ownsRow (b + 1) 30 4 v k xs) (hkn : k ≤ 1000000)
    (g : LexAt w2 b (ae.own v) ao x vd vt ve vm) (hB : B ≤ b) (hlt : b < w.heap.size) :
    ∃ v' w', (Builtin.append_ #[24, 24] 24 #[v, .slice (some ⟨w2.heap.size, 0, none⟩) 1 1]).run Tryz.prog (w2.alloc (.cells #[.int .i64 n, s, .int .i64 q, .int .i64 p] 30)) = .ok v' w' ∧
      w'.ownsRow (b + 1) 30 4 v' (k + 1) (xs ++ [.int .i64 n, s, .int .i64 q, .int .i64 p]) ∧ LexAt w' b (ae.own v') ao x vd vt ve vm ∧ Below B w w' ∧ (w2.alloc (.cells #[.int .i64 n, s, .int .i64 q, .int .i64 p] 30)).grownBy w' v.ownBlock := by
  have hg12 : w.grownBy w2 (some b) := ⟨hk.os.trans h0.os, hk.tape.trans h0.tape, hk.output.trans h0.output, Nat.le_trans h0.size hk.size, fun j hj hn =>
    (hk.block j (Nat.lt_of_lt_of_le hj h0.size) (fun e => hn (by rw [e]))).trans (h0.block j hj (by simp))⟩
  have hown2 := hown.kept hg12 (by
    cases hv : v.ownBlock with
    | none => exact .inl rfl
    | some g => exact .inr (fun e => by have := (hown.lt g hv).1; have := Option.some.inj e; omega))
  have hown3 := hown2.alloc (.cells #[.int .i64 n, s, .int .i64 q, .int .i64 p] 30)
  have hsz : (w2.alloc (.cells #[.int .i64 n, s, .int .i64 q, .int .i64 p] 30)).heap.size = w2.heap.size + 1 := by simp
  have hs2 := hg12.size
  obtain ⟨v', w', hr, ho, hg, hblk⟩ := append_got hown3 ⟨w2.heap.size, 0, none⟩ 1 [.int .i64 n, s, .int .i64 q, .int .i64 p] rfl
    (fun j u hj => by
      have hj4 := (List.getElem?_eq_some_iff.1 hj).1
      have hh := heap_alloc_new w2 (.cells #[.int .i64 n, s, .int .i64 q, .int .i64 p] 30)
      rw [show (⟨w2.heap.size, 0, none⟩ : Addr).add j = ⟨w2.heap.size, j, none⟩ by unfold Addr.add; split <;> simp_all]
      exact cell_of_heap hh j (by simpa using hj))
    (by intro u hu; simp only [List.mem_cons, List.not_mem_nil, or_false] at hu; rcases hu with rfl | rfl | rfl | rfl; rfl; exact hs1; rfl; rfl) hkn (by omega)
  have gA := LexAt.alloc g (.cells #[.int .i64 n, s, .int .i64 q, .int .i64 p] 30)
  refine ⟨v', w', hr, ho, gA.move hg (fun j e => ⟨e, by have := (hown.lt j e).1; omega, by have := (hown.lt j e).1; have := g.b2; omega⟩) rfl ?_ (fun j e => (ho.lt j e).2), ?_, hg⟩
  · rintro j hj (e | e)
    · exact .inl e
    · rcases hblk with e' | ⟨m, hm, e'⟩
      · exact .inr (by show v.ownBlock = some j; rw [← e']; exact e)
      · have e2 : v'.ownBlock = some j := e
        rw [e'] at e2
        have := Option.some.inj e2
        omega
  · have h1 : Below B w w2 := (Below.refl B w).trans ⟨hg12.os, hg12.tape, hg12.output, hg12.size, fun j hj => hg12.block j (by omega) (by simp; omega)⟩
    exact (h1.alloc (by omega) _).grown hg (by omega) (fun j e => by have := (hown.lt j e).1; omega)
end
theorem CallDone.split {w w' : World} {b : Nat} {ae : Sur} {ao : Addr} {x' : Lx} {vd vm : Value} {n : Int} {e : Ending} (h : CallDone w b ae ao x' vd vm n e w') :
    e = .returned (gotV n (.slice none 0 0) x'.err.num x'.pos) ∧ ∃ vt' ve', LexAt w' b ae ao x' vd vt' ve' vm ∧ Kept b w w' := h
end Go.Proofs.YtaecbclonmhbcaaGreatDoor

namespace Go.Proofs.YtaecbclonmhbcaaGreatDoor
open Go.RowKit
structure Lx.Inv (x : Lx) : Prop where
  wf : x.Wf
  multi : x.multi = false
  kind : x.kind ≤ 5
  tf : x.TF
  nf : x.NF
  len : x.d.length ≤ 100000
structure Step (op : Int) (x x' : Lx) (n : Int) (s : Value) : Prop where
  inv : x'.Inv
  sl : ∃ p k c, s = .slice p k c ∧ (x.ok = false → k = 0)
  shut : x.ok = false → x'.err = x.err ∧ n = 0
  add : op = 45 → x'.ok = false
abbrev Gt := Int × Value × Int × Int
inductive Chain (x0 : Lx) : List Int → List Gt → Lx → Prop
  | nil : Chain x0 [] [] x0
  | snoc {ops : List Int} {gs : List Gt} {x x' : Lx} {op n : Int} {s : Value} : Chain x0 ops gs x → Step op x x' n s → Chain x0 (ops ++ [op]) (gs ++ [(n, s, x'.err.num, (x'.pos : Int))]) x'
theorem Chain.inv {x0 x : Lx} {ops : List Int} {gs : List Gt} (h : Chain x0 ops gs x) (h0 : x0.Inv) : x.Inv := by
  cases h with
  | nil => exact h0
  | snoc _ hs => exact hs.inv
theorem Chain.length {x0 x : Lx} {ops : List Int} {gs : List Gt} (h : Chain x0 ops gs x) : gs.length = ops.length := by
  induction h with
  | nil => rfl
  | snoc _ _ ih => simp [ih]
def gotCs (l : List Gt) : List Value := l.flatMap fun g => [.int .i64 g.1, g.2.1, .int .i64 g.2.2.1, .int .i64 g.2.2.2]
theorem gotCs_snoc (l : List Gt) (g : Gt) : gotCs (l ++ [g]) = gotCs l ++ [.int .i64 g.1, g.2.1, .int .i64 g.2.2.1, .int .i64 g.2.2.2] := by simp [gotCs]
def CallsIn (w : World) (cb co : Nat) (cs : List (Int × Int × Value)) : Prop :=
  ∀ k, k < cs.length → ∃ (p : Option Addr) (sn sc : Nat), (cs.getD k (0, 0, .nilIface)).2.2 = .slice p sn sc ∧ w.cell? ⟨cb, co + k * 3, none⟩ = some (.int .i64 (cs.getD k (0, 0, .nilIface)).1) ∧ w.cell? ⟨cb, co + k * 3 + 1, none⟩ = some (.int .i64 (cs.getD k (0, 0, .nilIface)).2.1) ∧
    w.cell? ⟨cb, co + k * 3 + 2, none⟩ = some (.slice p sn sc)
end Go.Proofs.YtaecbclonmhbcaaGreatDoor

namespace Go.Proofs.YtaecbclonmhbcaaGreatDoor
open Go.RowKit
set_option maxHeartbeats 2000000 in
set_option maxRecDepth 100000 in
theorem addNonfatal_one {w : World} {b : Nat} {ae : Sur} {ao : Addr} {x : Lx} {vd vt ve vm : Value} (h : LexAt w b ae ao x vd vt ve vm) (hm : x.multi = false) (p : Option Addr) :
    Calls Tryz.prog 108 #[.pointer (some ⟨b, 0, none⟩), .pointer p] w fun e w' => e = .returned (.tuple #[]) ∧ w' = w.setCell ⟨b, 11, none⟩ (.iface 60 (.pointer p)) := by
  have c10 := h.c10
  rw [hm] at c10
  have c11 := h.c11
  have z := h.free 11
  clear h
  go_enter Tryz.func108, Tryz.ntmps108
  go_wp2
  first
    | exact bodyPost_end (results_none rfl _ _ _) rfl ⟨rfl, rfl⟩
    | exact bodyPost_ret (results_none rfl _ _ _) rfl ⟨rfl, rfl⟩
end Go.Proofs.YtaecbclonmhbcaaGreatDoor
