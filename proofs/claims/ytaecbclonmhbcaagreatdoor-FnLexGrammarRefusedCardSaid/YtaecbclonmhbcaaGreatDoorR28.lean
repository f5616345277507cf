/- What the walk over a value stands on: the lexer, the cell of the walk's own error, rows that it gathers. -/
import Derived.Test.YtaecbclonmhbcaaGreatDoorR26
import Derived.Test.YtaecbclonmhbcaaGreatDoorR17
import Derived.Test.YtaecbclonmhbcaaGreatDoorR24
import Derived.Test.YtaecbclonmhbcaaGreatDoorR27
import Derived.Deep.LoopGhost
import Derived.Deep.RegionLaw
import Derived.Deep.CutBlock
import Derived.Deep.DeepCutAuto
set_option linter.unusedVariables false
set_option linter.unusedSimpArgs false
namespace Go.Proofs.YtaecbclonmhbcaaGreatDoor
open Go.RowKit
theorem step_append_run {P : Program} {ops : Array Oper} {o : Oper} {a : Act} {w : World} {K : Act → World → Prop} {Q : Exit → Act → World → Prop} {E : Prop} (hg : o.guard = none) (s x : Operand) (t : TypeId)
    (ho : o.op = .call { callee := .builtin .append, args := #[s, x], argTypes := #[t, t] }) (v u : Value) (hs : a.eval s = v) (hx : a.eval x = u) {v' : Value} {w' : World}
    (hr : (Builtin.append_ #[t, t] o.type #[v, u]).run P w = .ok v' w') (hK : K (a.put o.dst v') w') : if Region.wanted o (yielded ops a.tmps) = true then Oper.wp P o a w K Q else E := by
  rw [if_pos (by simp [Region.wanted, hg])]
  exact Lib.wp_append_run_sl w s x t ho v u hs hx hr hK
structure Kept2 (b k : Nat) (w w' : World) : Prop where
  os : w'.os = w.os
  tape : w'.tape = w.tape
  output : w'.output = w.output
  size : w.heap.size ≤ w'.heap.size
  block : ∀ j, j < w.heap.size → j ≠ b → j ≠ k → w'.heap[j]? = w.heap[j]?
theorem Kept2.refl (b k : Nat) (w : World) : Kept2 b k w w := ⟨rfl, rfl, rfl, Nat.le_refl _, fun _ _ _ _ => rfl⟩
theorem Kept2.trans {b k : Nat} {u v w : World} (h : Kept2 b k u v) (g : Kept2 b k v w) : Kept2 b k u w :=
  ⟨g.os.trans h.os, g.tape.trans h.tape, g.output.trans h.output, Nat.le_trans h.size g.size, fun i hi hn hm => (g.block i (Nat.lt_of_lt_of_le hi h.size) hn hm).trans (h.block i hi hn hm)⟩
theorem Kept.two {b : Nat} {w w' : World} (h : Kept b w w') (k : Nat) : Kept2 b k w w' := ⟨h.os, h.tape, h.output, h.size, fun j hj hn _ => h.block j hj hn⟩
theorem Kept2.below {b k : Nat} {u w w' : World} (h : Kept2 b k u w) (g : Below w.heap.size w w') : Kept2 b k u w' := h.trans ((kept_below g b).two k)
theorem Kept2.heap {b k : Nat} {u v : World} (h : Kept2 b k u v) {j : Nat} {o : Obj} (hc : u.heap[j]? = some o) (hb : j ≠ b) (hk : j ≠ k) : v.heap[j]? = some o := (h.block j (lt_heap hc) hb hk).trans hc
theorem Kept2.setNew {b k : Nat} {u v : World} (h : Kept2 b k u v) {j : Nat} (hj : u.heap.size ≤ j) (i : Nat) (x : Value) : Kept2 b k u (v.setCell ⟨j, i, none⟩ x) :=
  ⟨h.os, h.tape, h.output, Nat.le_trans h.size (by simp), fun m hm hn hk => (heap_setCell_other i x (by omega)).trans (h.block m hm hn hk)⟩
theorem Kept2.setK {b k : Nat} {u v : World} (h : Kept2 b k u v) (i : Nat) (x : Value) : Kept2 b k u (v.setCell ⟨k, i, none⟩ x) :=
  ⟨h.os, h.tape, h.output, Nat.le_trans h.size (by simp), fun m hm hn hk => (heap_setCell_other i x hk).trans (h.block m hm hn hk)⟩
def Sur.wk (ae : Sur) (B : Nat) (v u : Value) : Sur := ⟨ae.addr, fun j => ae.held j ∨ j = B ∨ j = B + 1 ∨ v.ownBlock = some j ∨ u.ownBlock = some j⟩
structure Wk (w : World) (b : Nat) (ae : Sur) (ao : Addr) (k : Nat) (o : Int) (x : Lx) (vd vt ve : Value) : Prop where
  lx : LexAt w b ae ao x vd vt ve (.slice none 0 0)
  inv : x.Inv
  own : w.heap[k]? = some (.cells #[.int .i64 o] 3 (0, 0))
  held : ae.held k
  bk : b < k
  bad : o ≠ 0 → x.ok = false
section
variable {w w' : World} {b k : Nat} {ae : Sur} {ao : Addr} {o : Int} {x x' : Lx} {vd vt ve : Value}
theorem Wk.num (h : Wk w b ae ao k o x vd vt ve) (hd : NumDone w b ae ao x' vd (.slice none 0 0) w') (hi : x'.Inv) (hb : x.ok = false → x'.ok = false) : (∃ vt' ve', Wk w' b ae ao k o x' vd vt' ve') ∧ Kept2 b k w w' := by
  obtain ⟨vt', ve', h1, h2⟩ := hd
  exact ⟨⟨vt', ve', h1, hi, h2.heap h.own (Nat.ne_of_gt h.bk), h.held, h.bk, fun e => hb (h.bad e)⟩, h2.two k⟩
theorem Wk.below (h : Wk w b ae ao k o x vd vt ve) (g : Below w.heap.size w w') : Wk w' b ae ao k o x vd vt ve :=
  ⟨h.lx.belowNew g, h.inv, (g.block k (lt_heap h.own)).trans h.own, h.held, h.bk, h.bad⟩
end
def ValRow (kd : Int) (vn vl : Value) : Array Value := #[.int .i64 kd, .bool false, .int .u64 0, .slice none 0 0, vn, vl]
structure Gath (w : World) (B : Nat) (kd : Int) (vn vl : Value) (cn cl : Nat) : Prop where
  res : ∃ c0 c1 c2 c3 c4 c5, w.heap[B]? = some (.cells #[c0, c1, c2, c3, c4, c5] 52 (0, 0))
  row : w.heap[B + 1]? = some (.cells (ValRow kd vn vl) 52 (0, 0))
  names : ∃ xs, w.ownsRow (B + 2) 22 1 vn cn xs
  list : ∃ xs, w.ownsRow (B + 2) 52 6 vl cl xs
  apart : ∀ j, vn.ownBlock = some j → vl.ownBlock ≠ some j
theorem info52 : (Tryz.prog.info? 52).map (fun i => (i.zero, i.size, i.bytes)) = some (some (Value.agg #[.int .i64 0, .bool false, .int .u64 0, .slice none 0 0, .slice none 0 0, .slice none 0 0]), 6, 96) := by kernel_rfl
theorem info22 : (Tryz.prog.info? 22).map (fun i => (i.zero, i.size, i.bytes)) = some (some (Value.slice none 0 0), 1, 24) := by kernel_rfl
theorem ownsRow_lt {w : World} {base : Nat} {e : TypeId} {size n : Nat} {v : Value} {xs : List Value} (h : w.ownsRow base e size v n xs) {j : Nat} (hj : v.ownBlock = some j) : base ≤ j ∧ j < w.heap.size := by
  rcases h.2 with ⟨rfl, -⟩ | ⟨g, cap, cur, rfl, hb, hg, -⟩
  · cases hj
  · obtain rfl := Option.some.inj hj
    exact ⟨hb, lt_heap hg⟩
theorem ownsRow_heap {w w' : World} {base : Nat} {e : TypeId} {size n : Nat} {v : Value} {xs : List Value} (h : w.ownsRow base e size v n xs) (hg : ∀ j, v.ownBlock = some j → w'.heap[j]? = w.heap[j]?) : w'.ownsRow base e size v n xs := by
  refine ⟨h.1, ?_⟩
  rcases h.2 with hn | ⟨g, cap, cur, rfl, hb, hgg, rest⟩
  · exact .inl hn
  · exact .inr ⟨g, cap, cur, rfl, hb, (hg g rfl).trans hgg, rest⟩
theorem ownsRow_form {w : World} {base : Nat} {e : TypeId} {size n : Nat} {v : Value} {xs : List Value} (h : w.ownsRow base e size v n xs) : ∃ p c, v = .slice p n c := by
  rcases h.2 with ⟨rfl, rfl⟩ | ⟨g, cap, cur, rfl, -⟩
  · exact ⟨none, 0, rfl⟩
  · exact ⟨_, cap, rfl⟩
section
variable {w w2 w' : World} {b k B cn cl : Nat} {ae : Sur} {ao : Addr} {o kd : Int} {x x' : Lx} {vd vt ve vn vl : Value}
theorem Gath.kept (h : Gath w B kd vn vl cn cl) (hk : Kept2 b k w w') (hb : b < B) (hkB : k < B) : Gath w' B kd vn vl cn cl := by
  have blk : ∀ j, B ≤ j → j < w.heap.size → w'.heap[j]? = w.heap[j]? := fun j hj hs => hk.block j hs (by omega) (by omega)
  obtain ⟨c0, c1, c2, c3, c4, c5, hr⟩ := h.res
  obtain ⟨xs, hx⟩ := h.names
  obtain ⟨ys, hy⟩ := h.list
  exact ⟨⟨c0, c1, c2, c3, c4, c5, (blk _ (Nat.le_refl _) (lt_heap hr)).trans hr⟩, (blk _ (by omega) (lt_heap h.row)).trans h.row,
    ⟨xs, ownsRow_heap hx fun j hj => blk j (by have := (ownsRow_lt hx hj).1; omega) (ownsRow_lt hx hj).2⟩, ⟨ys, ownsRow_heap hy fun j hj => blk j (by have := (ownsRow_lt hy hj).1; omega) (ownsRow_lt hy hj).2⟩, h.apart⟩
theorem Gath.formL (h : Gath w B kd vn vl cn cl) : ∃ p c, vl = .slice p cl c := ownsRow_form h.list.choose_spec
theorem Gath.formN (h : Gath w B kd vn vl cn cl) : ∃ p c, vn = .slice p cn c := ownsRow_form h.names.choose_spec
theorem Gath.c4 (h : Gath w B kd vn vl cn cl) : w.cell? ⟨B + 1, 4, none⟩ = some vn := cell_of_heap h.row 4 rfl
theorem Gath.c5 (h : Gath w B kd vn vl cn cl) : w.cell? ⟨B + 1, 5, none⟩ = some vl := cell_of_heap h.row 5 rfl
theorem Gath.free (h : Gath w B kd vn vl cn cl) (i : Nat) : w.frozen? ⟨B + 1, i, none⟩ = false := free_of_heap h.row i
theorem Gath.size (h : Gath w B kd vn vl cn cl) : B + 2 ≤ w.heap.size := lt_heap h.row
theorem Wk.moved {ae ae' : Sur} (h : Wk w b ae ao k o x vd vt ve) {W : World} (hsz : w.heap.size ≤ W.heap.size)
    (hbl : ∀ j, j < w.heap.size → ¬ ae.held j ∨ j = b ∨ j = k ∨ j ≤ 1 → W.heap[j]? = w.heap[j]?) (ha : ae'.addr = ae.addr) (hA : ∀ j, j < w.heap.size → ae'.off b j → ae.off b j) (hh : ∀ j, ae'.held j → j < W.heap.size) (hk : ae'.held k)
    : Wk W b ae' ao k o x vd vt ve := by
  have by1 : ∀ {v : Value} {l : List Int}, BytesAt w (ae.off b) v l → BytesAt W (ae'.off b) v l := by
    rintro v l (h1 | ⟨bd, o', cap, hv, hc, hn, hx⟩)
    · exact .inl h1
    · refine .inr ⟨bd, o', cap, hv, hc, ⟨fun a => hn.1 (hA _ hn.2 a), Nat.lt_of_lt_of_le hn.2 hsz⟩, fun i hi => ?_⟩
      have := hbl bd hn.2 (.inl fun a => hn.1 (.inr a))
      rw [← hx i hi]; simp [World.cell?, this]
  have cl1 : ∀ {a : Addr} {v : Value}, a.block ≤ 1 → w.cell? a = some v → W.cell? a = some v := fun {a v} ha hc => by
    have := hbl a.block (World.block_lt_of_cell? w a hc) (.inr (.inr (.inr ha)))
    rw [← hc]; simp [World.cell?, this]
  refine ⟨⟨(hbl b h.lx.lt (.inr (.inl rfl))).trans h.lx.heap, by1 h.lx.data, by1 h.lx.tok, ?_, ⟨by rw [ha]; exact cl1 (Nat.le_refl _) h.lx.env.eof, cl1 (Nat.zero_le _) h.lx.env.other, by rw [ha]; exact h.lx.env.ne⟩, h.lx.b2, hh⟩, h.inv, (hbl k (lt_heap h.own) (.inr (.inr (.inl rfl)))).trans h.own, hk, h.bk, h.bad⟩
  have he := h.lx.err
  cases hx : x.err <;> rw [hx] at he <;> simp only [ErrAt] at he ⊢
  · exact he
  · rw [ha]; exact he
  · exact he
  · obtain ⟨kk, s, t, hv, hn, hh2⟩ := he
    exact ⟨kk, s, t, hv, fun a => hn (hA kk (lt_heap hh2) a), (hbl kk (lt_heap hh2) (.inl fun a => hn (.inr a))).trans hh2⟩
end
section
variable {w w2 : World} {b k B cn cl : Nat} {ae : Sur} {ao : Addr} {o kd : Int} {x : Lx} {vd vt ve vn vl : Value}
theorem Wk.gathered {vn' vl' : Value} {W : World} {c : Array Value} {ty : TypeId} (h : Wk w b (ae.wk B vn vl) ao k o x vd vt ve) (hk : ae.held k) (hG : Gath w B kd vn vl cn cl) (hae : ∀ j, ae.held j → j < B)
    (hbB : b < B) (h1B : 1 < B) {W1 : World} {r : Option Nat} (hg : (w.alloc (.cells c ty)).grownBy W1 r) (hr : ∀ j, r = some j → vn.ownBlock = some j ∨ vl.ownBlock = some j) (i : Nat) (u : Value) (hW : W = W1.setCell ⟨B + 1, i, none⟩ u)
    (hn : ∀ j, vn'.ownBlock = some j → vn.ownBlock = some j ∨ w.heap.size < j ∧ j < W1.heap.size) (hl : ∀ j, vl'.ownBlock = some j → vl.ownBlock = some j ∨ w.heap.size < j ∧ j < W1.heap.size) :
    Wk W b (ae.wk B vn' vl') ao k o x vd vt ve ∧ (∀ j, j < w.heap.size → j < B → W.heap[j]? = w.heap[j]?) ∧ w.heap.size ≤ W.heap.size := by
  subst hW
  obtain ⟨xs, hx⟩ := hG.names
  obtain ⟨ys, hy⟩ := hG.list
  have hsz := hG.size
  have hs1 : (w.alloc (.cells c ty)).heap.size = w.heap.size + 1 := by simp
  have hgs := hg.size
  have hss : (W1.setCell ⟨B + 1, i, none⟩ u).heap.size = W1.heap.size := by simp
  have hkk := lt_heap h.own
  have hr' : ∀ j, r = some j → B + 2 ≤ j := fun j e => by
    rcases hr j e with e | e
    · exact (ownsRow_lt hx e).1
    · exact (ownsRow_lt hy e).1
  have blk : ∀ j, j < w.heap.size → r ≠ some j → j ≠ B + 1 → (W1.setCell ⟨B + 1, i, none⟩ u).heap[j]? = w.heap[j]? := fun j hj hne hne2 => by
    rw [heap_setCell_other _ _ hne2, hg.block j (by omega) (fun e => hne e.symm), heap_alloc_lt hj]
  refine ⟨h.moved (by omega) (fun j hj hc => blk j hj (fun e => ?_) (fun e => ?_)) rfl ?_ ?_ (.inl hk), fun j hj hjB => blk j hj (fun e => by have := hr' j e; omega) (by omega), by omega⟩
  · have hjr := hr' j e
    have hkB := hae k hk
    rcases hc with hc | hc | hc | hc
    · rcases hr j e with e | e
      · exact hc (.inr (.inr (.inr (.inl e))))
      · exact hc (.inr (.inr (.inr (.inr e))))
    · omega
    · omega
    · omega
  · have hkB := hae k hk
    rcases hc with hc | hc | hc | hc
    · exact hc (.inr (.inr (.inl e)))
    · omega
    · omega
    · omega
  · rintro j hj (e | e | e | e | e | e)
    · exact .inl e
    · exact .inr (.inl e)
    · exact .inr (.inr (.inl e))
    · exact .inr (.inr (.inr (.inl e)))
    · rcases hn j e with e | e
      · exact .inr (.inr (.inr (.inr (.inl e))))
      · omega
    · rcases hl j e with e | e
      · exact .inr (.inr (.inr (.inr (.inr e))))
      · omega
  · rintro j (e | e | e | e | e)
    · have := hae j e; omega
    · omega
    · omega
    · rcases hn j e with e | e
      · have := (ownsRow_lt hx e).2; omega
      · omega
    · rcases hl j e with e | e
      · have := (ownsRow_lt hy e).2; omega
      · omega
theorem gath_list (h : Wk w b (ae.wk B vn vl) ao k o x vd vt ve) (hk : ae.held k) (hG : Gath w B kd vn vl cn cl) (hae : ∀ j, ae.held j → j < B) (hbB : b < B) (h1B : 1 < B) (hcl : cl ≤ 200000) {a0 a1 a2 a3 a4 a5 : Value}
    (h1 : ∀ u ∈ [a0, a1, a2, a3, a4, a5], u.oneCell' = true) :
    ∃ v' W1, (Builtin.append_ #[50, 50] 50 #[vl, .slice (some ⟨w.heap.size, 0, none⟩) 1 1]).run Tryz.prog (w.alloc (.cells #[a0, a1, a2, a3, a4, a5] 52)) = .ok v' W1 ∧ W1.cell? ⟨B + 1, 5, none⟩ = some vl ∧ W1.frozen? ⟨B + 1, 5, none⟩ = false ∧
      Gath (W1.setCell ⟨B + 1, 5, none⟩ v') B kd vn v' cn (cl + 1) ∧ Wk (W1.setCell ⟨B + 1, 5, none⟩ v') b (ae.wk B vn v') ao k o x vd vt ve  ∧
      (∀ {u : World}, u.heap.size = B → Kept2 b k u w → Kept2 b k u (W1.setCell ⟨B + 1, 5, none⟩ v')) := by
  obtain ⟨i, hi, hz, hz1, hz2⟩ := info_parts info52
  obtain ⟨xs, hx⟩ := hG.names
  obtain ⟨ys, hy⟩ := hG.list
  have hsz := hG.size
  have hs1 : (w.alloc (.cells #[a0, a1, a2, a3, a4, a5] 52)).heap.size = w.heap.size + 1 := by simp
  obtain ⟨v', W1, hr, ho, hg, hb⟩ := append_any (P := Tryz.prog) (t := 50) Tryz.underlying50 hi hz hz1 hz2 rfl (by decide) (by decide) (hy.alloc (.cells #[a0, a1, a2, a3, a4, a5] 52)) ⟨w.heap.size, 0, none⟩ 1 1 [a0, a1, a2, a3, a4, a5] rfl
    (fun j u hj => by
      rw [addr_add0]
      exact cell_of_heap (heap_alloc_new w _) j (by simpa using hj)) h1 (by omega) (by omega)
  have hne : ∀ j, vl.ownBlock = some j → B + 2 ≤ j := fun j e => (ownsRow_lt hy e).1
  have hrow : W1.heap[B + 1]? = some (.cells (ValRow kd vn vl) 52 (0, 0)) := by
    rw [hg.block (B + 1) (by omega) (fun e => by have := hne _ e.symm; omega), heap_alloc_lt (by omega)]; exact hG.row
  have hnew : ∀ j, v'.ownBlock = some j → vl.ownBlock = some j ∨ w.heap.size < j ∧ j < W1.heap.size := fun j e => by
    rcases hb with e' | ⟨m, hm, e'⟩
    · exact .inl (by rw [← e']; exact e)
    · rw [e'] at e
      obtain rfl := Option.some.inj e
      exact .inr ⟨by omega, (ownsRow_lt ho e').2⟩
  obtain ⟨hw, hbl, hse⟩ := h.gathered (vn' := vn) (vl' := v') hk hG hae hbB h1B hg (fun j e => .inr e) 5 v' rfl (fun j e => .inl e) hnew
  refine ⟨v', W1, hr, cell_of_heap hrow 5 rfl, free_of_heap hrow 5, ⟨?_, ?_, ⟨xs, ?_⟩, ⟨ys ++ [a0, a1, a2, a3, a4, a5], ?_⟩, ?_⟩, hw, fun {u} hu hk2 => ?_⟩
  · obtain ⟨c0, c1, c2, c3, c4, c5, hc⟩ := hG.res
    refine ⟨c0, c1, c2, c3, c4, c5, ?_⟩
    rw [heap_setCell_other _ _ (by omega), hg.block B (by omega) (fun e => by have := hne _ e.symm; omega), heap_alloc_lt (by omega)]; exact hc
  · rw [heap_setCell hrow 5 v']; rfl
  · refine ownsRow_heap hx fun j hj => ?_
    have hjl := ownsRow_lt hx hj
    rw [heap_setCell_other _ _ (by omega), hg.block j (by omega) (fun e => hG.apart j hj e.symm), heap_alloc_lt hjl.2]
  · refine ownsRow_heap ho fun j hj => ?_
    rw [heap_setCell_other _ _ (fun e => by have := (ownsRow_lt ho hj).1; omega)]
  · intro j hj e
    rcases hnew j e with e | e
    · exact hG.apart j hj e
    · have := (ownsRow_lt hx hj).2; omega
  · refine ⟨(hg.os.trans rfl).trans hk2.os, (hg.tape.trans rfl).trans hk2.tape, (hg.output.trans rfl).trans hk2.output, Nat.le_trans hk2.size hse, fun j hj hn hm => (hbl j (Nat.lt_of_lt_of_le hj hk2.size) (by omega)).trans (hk2.block j hj hn hm)⟩
theorem gath_name (h : Wk w b (ae.wk B vn vl) ao k o x vd vt ve) (hk : ae.held k) (hG : Gath w B kd vn vl cn cl) (hae : ∀ j, ae.held j → j < B) (hbB : b < B) (h1B : 1 < B) (hcl : cn ≤ 200000) {a0 : Value}
    (h1 : a0.oneCell' = true) :
    ∃ v' W1, (Builtin.append_ #[42, 42] 42 #[vn, .slice (some ⟨w.heap.size, 0, none⟩) 1 1]).run Tryz.prog (w.alloc (.cells #[a0] 22)) = .ok v' W1 ∧ W1.cell? ⟨B + 1, 4, none⟩ = some vn ∧ W1.frozen? ⟨B + 1, 4, none⟩ = false ∧
      Gath (W1.setCell ⟨B + 1, 4, none⟩ v') B kd v' vl (cn + 1) cl ∧ Wk (W1.setCell ⟨B + 1, 4, none⟩ v') b (ae.wk B v' vl) ao k o x vd vt ve ∧
      (∀ {u : World}, u.heap.size = B → Kept2 b k u w → Kept2 b k u (W1.setCell ⟨B + 1, 4, none⟩ v')) := by
  obtain ⟨i, hi, hz, hz1, hz2⟩ := info_parts info22
  obtain ⟨xs, hx⟩ := hG.names
  obtain ⟨ys, hy⟩ := hG.list
  have hsz := hG.size
  have hs1 : (w.alloc (.cells #[a0] 22)).heap.size = w.heap.size + 1 := by simp
  obtain ⟨v', W1, hr, ho, hg, hb⟩ := append_any (P := Tryz.prog) (t := 42) Tryz.underlying42 hi hz hz1 hz2 rfl (by decide) (by decide) (hx.alloc (.cells #[a0] 22)) ⟨w.heap.size, 0, none⟩ 1 1 [a0] rfl
    (fun j u hj => by
      rw [addr_add0]
      exact cell_of_heap (heap_alloc_new w _) j (by simpa using hj)) (by intro u hu; rw [List.mem_singleton] at hu; subst hu; exact h1) (by omega) (by omega)
  have hne : ∀ j, vn.ownBlock = some j → B + 2 ≤ j := fun j e => (ownsRow_lt hx e).1
  have hrow : W1.heap[B + 1]? = some (.cells (ValRow kd vn vl) 52 (0, 0)) := by
    rw [hg.block (B + 1) (by omega) (fun e => by have := hne _ e.symm; omega), heap_alloc_lt (by omega)]; exact hG.row
  have hnew : ∀ j, v'.ownBlock = some j → vn.ownBlock = some j ∨ w.heap.size < j ∧ j < W1.heap.size := fun j e => by
    rcases hb with e' | ⟨m, hm, e'⟩
    · exact .inl (by rw [← e']; exact e)
    · rw [e'] at e
      obtain rfl := Option.some.inj e
      exact .inr ⟨by omega, (ownsRow_lt ho e').2⟩
  obtain ⟨hw, hbl, hse⟩ := h.gathered (vn' := v') (vl' := vl) hk hG hae hbB h1B hg (fun j e => .inl e) 4 v' rfl hnew (fun j e => .inl e)
  refine ⟨v', W1, hr, cell_of_heap hrow 4 rfl, free_of_heap hrow 4, ⟨?_, ?_, ⟨xs ++ [a0], ?_⟩, ⟨ys, ?_⟩, ?_⟩, hw, fun {u} hu hk2 => ?_⟩
  · obtain ⟨c0, c1, c2, c3, c4, c5, hc⟩ := hG.res
    refine ⟨c0, c1, c2, c3, c4, c5, ?_⟩
    rw [heap_setCell_other _ _ (by omega), hg.block B (by omega) (fun e => by have := hne _ e.symm; omega), heap_alloc_lt (by omega)]; exact hc
  · rw [heap_setCell hrow 4 v']; rfl
  · refine ownsRow_heap ho fun j hj => ?_
    rw [heap_setCell_other _ _ (fun e => by have := (ownsRow_lt ho hj).1; omega)]
  · refine ownsRow_heap hy fun j hj => ?_
    have hjl := ownsRow_lt hy hj
    rw [heap_setCell_other _ _ (by omega), hg.block j (by omega) (fun e => hG.apart j e.symm hj), heap_alloc_lt hjl.2]
  · intro j hj e
    rcases hnew j hj with h1 | h1
    · exact hG.apart j h1 e
    · have := (ownsRow_lt hy e).2; omega
  · refine ⟨(hg.os.trans rfl).trans hk2.os, (hg.tape.trans rfl).trans hk2.tape, (hg.output.trans rfl).trans hk2.output, Nat.le_trans hk2.size hse, fun j hj hn hm => (hbl j (Nat.lt_of_lt_of_le hj hk2.size) (by omega)).trans (hk2.block j hj hn hm)⟩
end
end Go.Proofs.YtaecbclonmhbcaaGreatDoor
