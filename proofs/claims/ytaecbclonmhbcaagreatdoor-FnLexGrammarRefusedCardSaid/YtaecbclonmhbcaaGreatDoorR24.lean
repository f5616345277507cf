/- impl.text at String, by what it may do. impl.number: the calls that read numbers, by their numbers. Printed by gen_imn.py. Lexer.Bytes over every state with one error: it returns. What a row of calls tells behind an error. Plain. impl.Lex over a row of calls, at whatever slice of bytes comes in. Lexer.String over the token a\n. impl.number and impl.text at knownLexer's two calls. impl.call at knownLexer's two calls. Printed by gen_two.py. impl.Lex as knownLexer calls it. -/
import Derived.Test.YtaecbclonmhbcaaGreatDoorR23
import Derived.Test.YtaecbclonmhbcaaGreatDoorR15
import Derived.Test.YtaecbclonmhbcaaGreatDoorR18
import Derived.Lib.ItoaLen
import Derived.Lib.AppendIntMem
import Derived.Test.YtaecbclonmhbcaaGreatDoorR16
import Derived.Test.YtaecbclonmhbcaaGreatDoorR01
import Derived.Deep.CutBlock
import Derived.Laws.MakeOwn
import Derived.Laws.OwnMore
import Derived.Test.YtaecbclonmhbcaaGreatDoorR22
import Derived.LoopN
import Derived.OwnWalk
set_option linter.unusedVariables false
set_option linter.unusedSimpArgs false
namespace Go.Proofs.YtaecbclonmhbcaaGreatDoor
open Go.RowKit
theorem conv_str (s : ByteArray) (W : World) : ∃ cp W', (convert 9 22 (.string s)).run Tryz.prog W = .ok (.slice (some ⟨W.heap.size, 0, none⟩) s.size cp) W' ∧ W.grownBy W' none := by
  have hcv := run_bytes_of_string (P := Tryz.prog) W 9 22 5 s Tryz.underlying9 Tryz.underlying22 Tryz.underlying5
  exact ⟨_, _, hcv, ⟨rfl, rfl, rfl, by simp, fun k hk _ => heap_alloc_lt (w := W.drew) hk⟩⟩
theorem StrDone.split {w w' : World} {b : Nat} {ae : Sur} {ao : Addr} {x' : Lx} {vd vm : Value} {l : List Int} {e : Ending} (h : StrDone w b ae ao x' vd vm l e w') :
    e = .returned (.string (strOfNums l)) ∧ ∃ vt' ve', LexAt w' b ae ao x' vd vt' ve' vm ∧ Kept b w w' := h
end Go.Proofs.YtaecbclonmhbcaaGreatDoor

namespace Go.Proofs.YtaecbclonmhbcaaGreatDoor
open Go.RowKit
theorem NumDone.drewN {w w' : World} {b : Nat} {ae : Sur} {ao : Addr} {x : Lx} {vd vm : Value} (h : NumDone w b ae ao x vd vm w') (n : Nat) : NumDone w b ae ao x vd vm (w'.drewN n) := by
  obtain ⟨vt, ve, h1, h2⟩ := h
  exact ⟨vt, ve, h1.drewN n, h2.drewN n⟩
end Go.Proofs.YtaecbclonmhbcaaGreatDoor

namespace Go.Proofs.YtaecbclonmhbcaaGreatDoor
open Go.RowKit
theorem DstAt.keep {w w' : World} {d D : Nat} (h : DstAt w d D) (hk : w'.heap[d]? = w.heap[d]?) : DstAt w' d D :=
  ⟨fun i hi => by obtain ⟨v, hv⟩ := h.cell i hi; exact ⟨v, by simp only [World.cell?, hk] at hv ⊢; exact hv⟩, fun i => by have h2 := h.free i; simp only [World.frozen?, hk] at h2 ⊢; exact h2⟩
theorem DstAt.bytes {w : World} {d D n : Nat} (h : DstAt w d D) (hn : n ≤ D) (hl : d < w.heap.size) {A : Nat → Prop} (hA : ¬ A d) : ∃ l : List Int, l.length = n ∧ BytesAt w A (.slice (some ⟨d, 0, none⟩) n D) l := by
  refine ⟨(List.range n).map fun i => match w.cell? ⟨d, i, none⟩ with | some (.int _ v) => v | _ => 0, by simp, .inr ⟨d, 0, D, by simp, by simp; exact hn, ⟨hA, hl⟩, fun i hi => ?_⟩⟩
  have hi' : i < n := by simpa using hi
  obtain ⟨v, hv⟩ := h.cell i (by omega)
  rw [Nat.zero_add, hv]
  simp [List.getD, hi', hv]
end Go.Proofs.YtaecbclonmhbcaaGreatDoor

namespace Go.Proofs.YtaecbclonmhbcaaGreatDoor
def dG : Gt := (0, .nilIface, 0, 0)
theorem num_nil {e : Er} : e.num = 0 ↔ e.isNil = true := by cases e <;> simp [Er.num, Er.isNil]
theorem num_of_ok {x : Lx} (h : x.ok = false) : x.err.num ≠ 0 := fun e => by
  have := num_nil.1 e
  rw [show x.ok = x.err.isNil from rfl] at h
  rw [h] at this; cases this
theorem Chain.last {x0 x : Lx} {ops : List Int} {gs : List Gt} (h : Chain x0 ops gs x) (hn : 0 < gs.length) : (gs.getD (gs.length - 1) dG).2.2.1 = x.err.num := by
  cases h with
  | nil => cases hn
  | snoc _ hs => simp [List.getD]
theorem Chain.inv_snoc {x0 x : Lx} {ops : List Int} {op : Int} {gs : List Gt} (h : Chain x0 (ops ++ [op]) gs x) :
    ∃ gs' y n s, gs = gs' ++ [(n, s, x.err.num, (x.pos : Int))] ∧ Chain x0 ops gs' y ∧ Step op y x n s := by
  generalize ho : ops ++ [op] = o at h
  cases h with
  | nil => simp at ho
  | @snoc ops' gs' y _ op' n s hc hs =>
    obtain ⟨rfl, e⟩ := List.append_inj' ho rfl
    obtain rfl : op = op' := by simpa using e
    exact ⟨gs', y, n, s, rfl, hc, hs⟩
theorem Chain.inv_nil {x0 x : Lx} {gs : List Gt} (h : Chain x0 [] gs x) : gs = [] ∧ x = x0 := by
  generalize ho : ([] : List Int) = o at h
  cases h with
  | nil => exact ⟨rfl, rfl⟩
  | snoc hc hs => simp at ho
theorem Chain.added {x0 x : Lx} {a b : Int} {gs : List Gt} (h : Chain x0 [a, 45, b, 43] gs x) :
    ∃ g0 g1 g2 g3, gs = [g0, g1, g2, g3] ∧ g1.2.2.1 ≠ 0 ∧ g2.2.2.1 = g1.2.2.1 ∧ g2.1 = 0 ∧ (∃ p c, g2.2.1 = .slice p 0 c) ∧ g3.1 = 0 ∧ (∃ p k c, g0.2.1 = .slice p k c) ∧ (∃ p k c, g1.2.1 = .slice p k c) ∧ (∃ p k c, g3.2.1 = .slice p k c) := by
  have h' : Chain x0 ([a, 45, b] ++ [43]) gs x := h
  obtain ⟨gs3, y3, n3, s3, rfl, h3, t3⟩ := h'.inv_snoc
  have h3' : Chain x0 ([a, 45] ++ [b]) gs3 y3 := h3
  obtain ⟨gs2, y2, n2, s2, rfl, h2, t2⟩ := h3'.inv_snoc
  have h2' : Chain x0 ([a] ++ [45]) gs2 y2 := h2
  obtain ⟨gs1, y1, n1, s1, rfl, h1, t1⟩ := h2'.inv_snoc
  have h1' : Chain x0 ([] ++ [a]) gs1 y1 := h1
  obtain ⟨gs0, y0, n0, s0, rfl, h0, t0⟩ := h1'.inv_snoc
  obtain ⟨rfl, rfl⟩ := h0.inv_nil
  have o2 := t1.add rfl
  obtain ⟨e1, e2⟩ := t2.shut o2
  have o3 : y3.ok = false := by rw [show y3.ok = y3.err.isNil from rfl, e1]; exact o2
  obtain ⟨e3, e4⟩ := t3.shut o3
  obtain ⟨p2, k2, c2, q1, q2⟩ := t2.sl
  obtain rfl := q2 o2
  obtain ⟨pa, ka, ca, qa, _⟩ := t0.sl
  obtain ⟨pb, kb, cb, qb, _⟩ := t1.sl
  obtain ⟨pc, kc, cc, qc, _⟩ := t3.sl
  exact ⟨_, _, _, _, rfl, num_of_ok o2, by show y3.err.num = y2.err.num; rw [e1], e2, ⟨p2, c2, q1⟩, e4, ⟨pa, ka, ca, qa⟩, ⟨pb, kb, cb, qb⟩, ⟨pc, kc, cc, qc⟩⟩
end Go.Proofs.YtaecbclonmhbcaaGreatDoor

namespace Go.Proofs.YtaecbclonmhbcaaGreatDoor
open Go.RowKit
set_option maxHeartbeats 1000000 in
theorem owned_arg {w : World} {v : Value} {l : List Int} (h : BytesArg w v l) (hl : l.length ≤ 140737488355328) :
    Calls Tryz.prog 36 #[v] w fun e w' => ∃ v', e = .returned v' ∧ FreshAt w w' v' l := by
  rcases h with ⟨rfl, a, c, rfl⟩ | h
  · obtain ⟨i, hi, hzz⟩ := Option.map_eq_some_iff.1 info5
    have hr : (Builtin.append_ #[22, 22] 22 #[.slice none 0 0, .slice (some a) 0 c]).run Tryz.prog w = .ok (.slice none 0 0) w := by
      simp [Builtin.append_, run_underlying Tryz.underlying22, sizeOf, typeInfo, hi, Builtin.lenOf, Builtin.firstCells, loadCells, loadCellsFrom]
    go_enter Tryz.func36, Tryz.ntmps36
    go_wp2_with (at_builtin; refine Lib.wpList_append_run_sl _ rfl _ _ 22 rfl _ _ rfl rfl hr ?_)
    go_ret
    exact ⟨_, rfl, ⟨rfl, rfl, rfl, Nat.le_refl _, fun _ _ _ => rfl⟩, fun _ _ => .inl ⟨rfl, rfl⟩⟩
  · exact owned_any h hl
set_option maxHeartbeats 400000 in
theorem lexer_arg {w : World} {v : Value} {l : List Int} {ae : Sur} {ao : Addr} (h : BytesArg w v l) (hl : l.length ≤ 140737488355328) (he : Env w ae ao) (hh : ∀ k, ae.held k → k < w.heap.size) (h2 : 1 < w.heap.size) (m : Bool) :
    Calls Tryz.prog 25 #[v, .bool m] w fun e w' => ∃ b vd, e = .returned (.pointer (some ⟨b, 0, none⟩)) ∧ w.heap.size ≤ b ∧ w.grownBy w' none ∧ LexAt w' b ae ao (Lx.begin l m) vd (.slice none 0 0) .nilIface (.slice none 0 0) := by
  go_enter Tryz.func25, Tryz.ntmps25
  go_wp2_with (go_at_call 36; refine (owned_arg h hl).mono ?_; rintro e w1 ⟨v1, rfl, hgb⟩; obtain ⟨p1, c1, rfl⟩ := hgb.isSlice; obtain ⟨hg, hb⟩ := hgb)
  go_ret
  refine ⟨_, .slice p1 l.length c1, rfl, hg.size, ⟨hg.os, hg.tape, hg.output, Nat.le_trans hg.size (by simp), fun k hk hn => (heap_alloc_lt (Nat.lt_of_lt_of_le hk hg.size)).trans (hg.block k hk hn)⟩, ?_⟩
  have hga : w1.grownBy (w1.alloc (.cells (lxCells (.slice p1 l.length c1) (Lx.begin l m) (.slice none 0 0) .nilIface (.slice none 0 0)) 83)) none := World.grownBy_alloc w1 _ none
  have hs := hg.size
  refine ⟨heap_alloc_new w1 _, ?_, .inl ⟨rfl, rfl⟩, rfl, (he.grown hg (by simp) (by simp)).grown hga (by simp) (by simp), by omega, fun k hk => ?_⟩
  · refine BytesAt.grown (BytesAt.other (hb (fun k => ae.held k ∧ k < w.heap.size) fun k a => a.2) ?_) hga (by simp)
    rintro k hk (rfl | a)
    · omega
    · exact ⟨a, hh k a⟩
  · have := hh k hk; have := hga.size; exact Nat.lt_of_lt_of_le (by omega) this
end Go.Proofs.YtaecbclonmhbcaaGreatDoor

namespace Go.Proofs.YtaecbclonmhbcaaGreatDoor
open Go.RowKit
theorem Kept.of_grownS {b : Nat} {u v : World} {r : Option Nat} (h : u.grownBy v r) (hr : ∀ k, r = some k → k = b) : Kept b u v :=
  ⟨h.os, h.tape, h.output, h.size, fun k hk hn => h.block k hk fun e => hn (hr k e.symm)⟩
section
variable {w w' : World} {b : Nat} {ae : Sur} {ao : Addr} {x : Lx} {vd vt ve vm : Value}
set_option maxHeartbeats 4000000 in
set_option maxRecDepth 100000 in
theorem decode_n (w : World) (bt o cp : Nat) (h1 : w.cell? ⟨bt, o + 1, none⟩ = some (.int .u8 110)) :
    Calls Tryz.prog 133 #[.slice (some ⟨bt, o, none⟩) 2 cp] w fun e w' => e = .returned (.tuple #[.int .i32 10, .int .i64 2, .nilIface]) ∧ w = w' := by
  go_enter Tryz.func133, Tryz.ntmps133
  go_wp2
  go_ret3
  exact ⟨rfl, rfl⟩
set_option maxHeartbeats 4000000 in
set_option maxRecDepth 100000 in
theorem encode_10 (w : World) (k : Nat) (v : Value) (h0 : w.cell? ⟨k, 0, none⟩ = some v) (hf : w.frozen? ⟨k, 0, none⟩ = false) :
    Calls Tryz.prog 134 #[.slice (some ⟨k, 0, none⟩) 4 4, .int .i32 10] w fun e w' => e = .returned (.int .i64 1) ∧ w.setCell ⟨k, 0, none⟩ (.int .u8 10) = w' := by
  go_enter Tryz.func134, Tryz.ntmps134
  go_wp2
  go_ret
  exact ⟨rfl, rfl⟩
theorem index_none (bt o c : Nat) (w : World) :
    Calls Tryz.prog 132 #[.slice (some ⟨bt, o, none⟩) 0 c, .int .u8 92] w fun e w' => e = .returned (.int .i64 (-1)) ∧ w = w' :=
  indexByte_at bt o 0 c [] 92 w rfl (by intro i; simp) (by decide) (fun i hi => absurd hi (Nat.not_lt_zero i))
theorem unesc_world {w3 : World} {bt o cap : Nat} (_hc : 3 ≤ cap) (x0 : w.cell? ⟨bt, o, none⟩ = some (.int .u8 97))
    (h3 : ((w.alloc (.cells #[.int .u8 0, .int .u8 0, .int .u8 0] 5)).alloc (.cells #[.int .u8 0, .int .u8 0, .int .u8 0, .int .u8 0] 146)).setCell ⟨w.heap.size + 1, 0, none⟩ (.int .u8 10) = w3) :
    ∃ w4 w5 w6, (Builtin.append_ #[22, 22] 22 #[.slice (some ⟨w.heap.size, 0, none⟩) 0 3, .slice (some ⟨bt, o, none⟩) 1 cap]).run Tryz.prog w3 = .ok (.slice (some ⟨w.heap.size, 0, none⟩) 1 3) w4 ∧
      (Builtin.append_ #[22, 22] 22 #[.slice (some ⟨w.heap.size, 0, none⟩) 1 3, .slice (some ⟨w.heap.size + 1, 0, none⟩) 1 4]).run Tryz.prog w4 = .ok (.slice (some ⟨w.heap.size, 0, none⟩) 2 3) w5 ∧
      (∀ ad c, (Builtin.append_ #[22, 22] 22 #[.slice (some ⟨w.heap.size, 0, none⟩) 2 3, .slice (some ad) 0 c]).run Tryz.prog w5 = .ok (.slice (some ⟨w.heap.size, 0, none⟩) 2 3) w6) ∧
      w.grownBy w6 none ∧ w6.heap[w.heap.size]? = some (.cells #[.int .u8 97, .int .u8 10, .int .u8 0] 5 (0, 0)) := by
  obtain ⟨i0, hi, hz0, hz1, hz2⟩ := info_parts info5
  have hs1 : (w.alloc (.cells #[.int .u8 0, .int .u8 0, .int .u8 0] 5)).heap.size = w.heap.size + 1 := by simp
  have hA : w3.heap[w.heap.size]? = some (.cells #[.int .u8 0, .int .u8 0, .int .u8 0] 5 (0, 0)) := by
    rw [← h3, heap_setCell_other _ _ (by omega), heap_alloc_lt (by omega)]
    exact heap_alloc_new w _
  have hB : w3.heap[w.heap.size + 1]? = some (.cells #[.int .u8 10, .int .u8 0, .int .u8 0, .int .u8 0] 146 (0, 0)) := by
    rw [← h3]
    have := heap_alloc_new (w.alloc (.cells #[.int .u8 0, .int .u8 0, .int .u8 0] 5)) (.cells #[.int .u8 0, .int .u8 0, .int .u8 0, .int .u8 0] 146)
    rw [hs1] at this
    exact heap_setCell this 0 _
  have hg3 : w.grownBy w3 none := by
    rw [← h3]
    refine ⟨rfl, rfl, rfl, by simp; omega, fun k hk _ => ?_⟩
    rw [heap_setCell_other _ _ (by omega), heap_alloc_lt (by omega), heap_alloc_lt hk]
  have hx0 := hg3.cell x0 (by simp)
  have e1 := run_append_room (P := Tryz.prog) w3 22 22 5 i0 Tryz.underlying22 hi w.heap.size 0 3 _ hA ⟨bt, o, none⟩ 1 cap [.int .u8 97] (by rw [hz1]; rfl)
    (fun j u hj => by
      match j, hj with
      | 0, hj => simp at hj; subst hj; simpa [Addr.add] using hx0) (by simp [Value.oneCell']) (by omega) (by rw [hz1]; decide)
  rw [hz1] at e1
  have hA4 : (w3.setRow w.heap.size #[.int .u8 97, .int .u8 0, .int .u8 0]).heap[w.heap.size]? = _ := setRow_heap w3 _ _ _ _ _ hA
  have hB4 : (w3.setRow w.heap.size #[.int .u8 97, .int .u8 0, .int .u8 0]).heap[w.heap.size + 1]? = _ := (setRow_other w3 w.heap.size (w.heap.size + 1) #[.int .u8 97, .int .u8 0, .int .u8 0] (by omega)).trans hB
  have e2 := run_append_room (P := Tryz.prog) (w3.setRow w.heap.size #[.int .u8 97, .int .u8 0, .int .u8 0]) 22 22 5 i0 Tryz.underlying22 hi w.heap.size 1 3 _ hA4 ⟨w.heap.size + 1, 0, none⟩ 1 4 [.int .u8 10] (by rw [hz1]; rfl)
    (fun j u hj => by
      match j, hj with
      | 0, hj => simp at hj; subst hj; exact cell_of_heap hB4 0 rfl) (by simp [Value.oneCell']) (by omega) (by rw [hz1]; decide)
  rw [hz1] at e2
  have hA5 : ((w3.setRow w.heap.size #[.int .u8 97, .int .u8 0, .int .u8 0]).setRow w.heap.size #[.int .u8 97, .int .u8 10, .int .u8 0]).heap[w.heap.size]? = _ := setRow_heap _ _ _ _ _ _ hA4
  have e3 : ∀ ad c, _ := fun ad c => run_append_room (P := Tryz.prog) ((w3.setRow w.heap.size #[.int .u8 97, .int .u8 0, .int .u8 0]).setRow w.heap.size #[.int .u8 97, .int .u8 10, .int .u8 0]) 22 22 5 i0 Tryz.underlying22 hi w.heap.size 2 3 _ hA5 ad 0 c [] (by rw [hz1]; rfl)
    (fun j u hj => by simp at hj) (by simp) (by omega) (by rw [hz1]; decide)
  rw [hz1] at e3
  refine ⟨_, _, ((w3.setRow w.heap.size #[.int .u8 97, .int .u8 0, .int .u8 0]).setRow w.heap.size #[.int .u8 97, .int .u8 10, .int .u8 0]).setRow w.heap.size #[.int .u8 97, .int .u8 10, .int .u8 0], e1, e2, fun ad c => e3 ad c, ?_, setRow_heap _ _ _ _ _ _ hA5⟩
  refine ⟨hg3.os, hg3.tape, hg3.output, by have := hg3.size; simp [World.setRow]; exact this, fun k hk _ => ?_⟩
  rw [setRow_other _ _ _ _ (by omega), setRow_other _ _ _ _ (by omega), setRow_other _ _ _ _ (by omega)]
  exact hg3.block k hk (by simp)
set_option maxHeartbeats 4000000 in
set_option maxRecDepth 100000 in
theorem unescape_an (h : LexAt w b ae ao x vd vt ve vm) (ht : x.tok = [97, 92, 110]) :
    Calls Tryz.prog 109 #[.pointer (some ⟨b, 0, none⟩)] w fun e w' => e = .returned .nilIface ∧ NumDone w b ae ao { x with tok := [97, 10], cl := true } vd vm w' := by
  have htok := h.tok
  rw [ht] at htok
  rcases htok with ⟨h0, -⟩ | ⟨bt, o, cap, rfl, hc, hnb, hx⟩
  · cases h0
  have c6 := h.c6
  have f6 := h.free 6
  have f5 := h.free 5
  have hc3 : 3 ≤ cap := hc
  have x0 : w.cell? ⟨bt, o, none⟩ = some (.int .u8 97) := hx 0 (by decide)
  have x1 : w.cell? ⟨bt, o + 1, none⟩ = some (.int .u8 92) := hx 1 (by decide)
  have x2 : w.cell? ⟨bt, o + 1 + 1, none⟩ = some (.int .u8 110) := hx 2 (by decide)
  have HX := Lib.hid hx
  have H := Lib.hid h
  have HN := Lib.hid hnb
  have hbl := h.lt
  have I1 : RowKit.Hid (idxI 92 [97, 92, 110] = 1) := by show _ = _; decide
  obtain ⟨i0, hi, hz0, hz1, hz2⟩ := info_parts info5
  have hmk := run_make (P := Tryz.prog) w 22 5 i0 (.int .u8 0) Tryz.underlying22 hi hz0 .i64 .i64 0 3 (by decide) (by decide) (by rw [hz2]; decide) (by decide)
  rw [hz1] at hmk
  have hmc : madeCells (Value.int IntKind.u8 0).cells (Int.toNat 3 * 1) = #[.int .u8 0, .int .u8 0, .int .u8 0] := by
    apply Array.ext (by simp [madeCells])
    intro i h1 h2
    rcases i with _ | _ | _ | i
    · simp [madeCells, Value.cells]
    · simp [madeCells, Value.cells, Nat.mod_one]
    · simp [madeCells, Value.cells, Nat.mod_one]
    · simp at h2; omega
  rw [hmc] at hmk
  clear hmc hi hz0 hz1 hz2
  have sn := run_eql_nil_slice (P := Tryz.prog) w 22 5 none 0 0 0 0 Tryz.underlying22
  clear h hx ht hnb
  by_cases hcap : cap = 3
  case pos =>
    have hci1 : cap ≤ 3 := by omega
    clear hcap
    go_enter Tryz.func109, Tryz.ntmps109
    go_wp2
    refine wp_loop_rounds 2 ?_
    rw [rounds_succ]
    go_wp2_with (first
      | (go_at_call 132; refine (indexByte_at bt o 3 cap [97, 92, 110] 92 _ rfl (by intro i; rcases i with _ | _ | _ | _ <;> simp) (by decide) HX.out).mono ?_; rintro e w1 ⟨he, rfl⟩; rw [I1.out] at he; subst he)
      | (go_at_call 133; refine (decode_n _ bt (o + 1) (cap - 1) x2).mono ?_; rintro e w2 ⟨rfl, rfl⟩)
      | (go_at_call 134; refine (encode_10 _ (w.heap.size + 1) (.int .u8 0) (cell_of_heap (heap_alloc2_new w _ _) 0 rfl) (free_of_heap (heap_alloc2_new w _ _) 0)).mono ?_; intro e w3 h30; obtain ⟨he, h3⟩ := h30; subst he; obtain ⟨w4, w5, w6, a1, a2, a3, hg, hh⟩ := unesc_world hc3 x0 h3; have A1 := Lib.hid a1; have A2 := Lib.hid a2; have A3 := Lib.hid a3; have HG := Lib.hid hg; have HH := Lib.hid hh; have hb6 := (hg.block b hbl (by simp)).trans H.out.heap; have y6 := cell_of_heap hb6 6 rfl; have y5 := cell_of_heap hb6 5 rfl; have z6 := free_of_heap hb6 6; have z5 := free_of_heap hb6 5; clear a1 a2 a3 hg hh hb6 h3)
      | (at_builtin; refine Lib.wpList_append_run_sl _ rfl (.tmp 47) (.tmp 50) 22 rfl _ _ rfl rfl A1.out ?_)
      | (at_builtin; refine Lib.wpList_append_run_sl _ rfl (.tmp 52) (.tmp 54) 22 rfl _ _ rfl rfl A2.out ?_))
    rw [rounds_succ]
    go_wp2_with (first
      | (go_at_call 132; refine (index_none bt o _ _).mono ?_; rintro e w1 ⟨rfl, rfl⟩)
      | (at_builtin; refine Lib.wpList_append_run_sl _ rfl (.tmp 64) (.tmp 65) 22 rfl _ _ rfl rfl (A3.out _ _) ?_))
    go_ret
    have hbs : ¬ ae.off b w.heap.size := H.out.fresh
    have G := H.out.grown HG.out (by simp)
    refine ⟨rfl, .slice (some ⟨w.heap.size, 0, none⟩) 2 3, ve, (G.setTok _ [97, 10] (.inr ⟨w.heap.size, 0, 3, rfl, by decide, ⟨hbs, ?_⟩, fun i hi => ?_⟩)).setCl true, ((Kept.of_grownS HG.out (by simp)).setCell 6 _).setCell 5 _⟩
    · exact Nat.lt_of_lt_of_le (lt_heap HH.out) (by simp)
    · have hne : w.heap.size ≠ b := by omega
      have hh := (heap_setCell_other (w := w6) (b := b) 6 (.slice (some ⟨w.heap.size, 0, none⟩) 2 3) hne).trans HH.out
      match i, hi with
      | 0, _ => exact cell_of_heap hh 0 rfl
      | 1, _ => exact cell_of_heap hh 1 rfl
  case neg =>
    have hcap' : 3 ≠ cap := Ne.symm hcap
    go_enter Tryz.func109, Tryz.ntmps109
    go_wp2
    refine wp_loop_rounds 2 ?_
    rw [rounds_succ]
    go_wp2_with (first
      | (go_at_call 132; refine (indexByte_at bt o 3 cap [97, 92, 110] 92 _ rfl (by intro i; rcases i with _ | _ | _ | _ <;> simp) (by decide) HX.out).mono ?_; rintro e w1 ⟨he, rfl⟩; rw [I1.out] at he; subst he)
      | (go_at_call 133; refine (decode_n _ bt (o + 1) (cap - 1) x2).mono ?_; rintro e w2 ⟨rfl, rfl⟩)
      | (go_at_call 134; refine (encode_10 _ (w.heap.size + 1) (.int .u8 0) (cell_of_heap (heap_alloc2_new w _ _) 0 rfl) (free_of_heap (heap_alloc2_new w _ _) 0)).mono ?_; intro e w3 h30; obtain ⟨he, h3⟩ := h30; subst he; obtain ⟨w4, w5, w6, a1, a2, a3, hg, hh⟩ := unesc_world hc3 x0 h3; have A1 := Lib.hid a1; have A2 := Lib.hid a2; have A3 := Lib.hid a3; have HG := Lib.hid hg; have HH := Lib.hid hh; have hb6 := (hg.block b hbl (by simp)).trans H.out.heap; have y6 := cell_of_heap hb6 6 rfl; have y5 := cell_of_heap hb6 5 rfl; have z6 := free_of_heap hb6 6; have z5 := free_of_heap hb6 5; clear a1 a2 a3 hg hh hb6 h3)
      | (at_builtin; refine Lib.wpList_append_run_sl _ rfl (.tmp 47) (.tmp 50) 22 rfl _ _ rfl rfl A1.out ?_)
      | (at_builtin; refine Lib.wpList_append_run_sl _ rfl (.tmp 52) (.tmp 54) 22 rfl _ _ rfl rfl A2.out ?_))
    rw [rounds_succ]
    go_wp2_with (first
      | (go_at_call 132; refine (index_none bt (o + 3) (cap - 3) _).mono ?_; rintro e w1 ⟨rfl, rfl⟩)
      | (at_builtin; refine Lib.wpList_append_run_sl _ rfl (.tmp 64) (.tmp 65) 22 rfl _ _ rfl rfl (A3.out _ _) ?_))
    go_ret
    have hbs : ¬ ae.off b w.heap.size := H.out.fresh
    have G := H.out.grown HG.out (by simp)
    refine ⟨rfl, .slice (some ⟨w.heap.size, 0, none⟩) 2 3, ve, (G.setTok _ [97, 10] (.inr ⟨w.heap.size, 0, 3, rfl, by decide, ⟨hbs, ?_⟩, fun i hi => ?_⟩)).setCl true, ((Kept.of_grownS HG.out (by simp)).setCell 6 _).setCell 5 _⟩
    · exact Nat.lt_of_lt_of_le (lt_heap HH.out) (by simp)
    · have hne : w.heap.size ≠ b := by omega
      have hh := (heap_setCell_other (w := w6) (b := b) 6 (.slice (some ⟨w.heap.size, 0, none⟩) 2 3) hne).trans HH.out
      match i, hi with
      | 0, _ => exact cell_of_heap hh 0 rfl
      | 1, _ => exact cell_of_heap hh 1 rfl
end
end Go.Proofs.YtaecbclonmhbcaaGreatDoor

namespace Go.Proofs.YtaecbclonmhbcaaGreatDoor
open Go.RowKit
section
variable {w w' : World} {b : Nat} {ae : Sur} {ao : Addr} {x : Lx} {vd vt ve vm : Value}
set_option maxHeartbeats 4000000 in
set_option maxRecDepth 100000 in
theorem int64_12 (h : LexAt w b ae ao x vd vt ve vm) (hw : x.Wf) (hm : x.multi = false) (ho : x.num.ok = true) (hv : x.numV = ⟨#[49, 50]⟩) :
    Calls Tryz.prog 71 #[.pointer (some ⟨b, 0, none⟩)] w fun e w' => e = .returned (.int .i64 12) ∧ NumDone w b ae ao x.num vd vm w' := by
  have H := Lib.hid h
  have HV := Lib.hid hv
  have HO := Lib.hid ho
  clear h hv ho
  go_enter Tryz.func71, Tryz.ntmps71
  go_wp2_with (first
    | (go_at_call 106; refine (number_any H.out hw hm).mono ?_; rintro e w1 ⟨rfl, vt1, ve1, g1, g2⟩; rw [HV.out]; have G1 := Lib.hid g1; have G2 := Lib.hid g2; clear g1 g2)
    | (go_at_call 47; refine (ok_any G1.out).mono ?_; rintro e w2 ⟨he, rfl⟩; rw [HO.out] at he; subst he)
    | (go_at_call 116; refine (parseInt_12 _).mono ?_; rintro e w3 ⟨rfl, hg⟩; have HG := Lib.hid hg; clear hg))
  go_ret
  exact ⟨rfl, vt1, ve1, G1.out.grown HG.out (by simp), G2.out.trans (Kept.of_grownS HG.out (by simp))⟩
end
section
variable {w w' : World} {b : Nat} {ae : Sur} {ao : Addr} {x : Lx} {vd vt ve vm : Value}
set_option maxHeartbeats 4000000 in
set_option maxRecDepth 100000 in
theorem string_an (h : LexAt w b ae ao x vd vt ve vm) (hw : x.Wf) (hk : x.kind = 0) (hok : x.ok = true) (hok2 : x.fetch.ok = true) (hk2 : x.fetch.kind = 2) (ht : x.fetch.tok = [97, 92, 110]) :
    Calls Tryz.prog 53 #[.pointer (some ⟨b, 0, none⟩)] w fun e w' => e = .returned (.string (strOfNums [97, 10])) ∧ NumDone w b ae ao { x.fetch with tok := [97, 10], cl := true }.consume vd vm w' := by
  have H := Lib.hid h
  have HW := Lib.hid hw
  have c3 := h.c3
  rw [hk] at c3
  have HT := Lib.hid ht
  have HK := Lib.hid hk
  have d1 : ((x.fetch.kind : Int) == 2) = true := by simp; omega
  have d2 : ((x.fetch.kind : Int) != 2) = false := by simp; omega
  clear h hw hk ht hk2
  go_enter Tryz.func53, Tryz.ntmps53
  go_wp2_with (first
    | (go_at_call 47; with_reducible refine (ok_any G1.out).mono ?_; rintro e w2 ⟨rfl, rfl⟩)
    | (go_at_call 47; refine (ok_any H.out).mono ?_; rintro e w' ⟨rfl, rfl⟩)
    | (go_at_call 86; refine (fetchToken_any H.out HW.out).mono ?_; rintro e w1 ⟨rfl, vt1, ve1, g1, g2⟩; have z3 := g1.c3; have z6 := g1.c6; have G1 := Lib.hid g1; have G2 := Lib.hid g2; clear g1 g2)
    | (go_at_call 109; refine (unescape_an G1.out HT.out).mono ?_; rintro e w5 ⟨rfl, vt5, ve5, g5, g6⟩; have y5 := g5.c5; have y6 := g5.c6; have G5 := Lib.hid g5; have G6 := Lib.hid g6; clear g5 g6)
    | (go_at_call 110; refine (bytesToStr_any G5.out.tok).mono ?_; rintro e w7 ⟨rfl, rfl⟩)
    | (go_at_call 104; refine (consume_any G5.out).mono ?_; rintro e w3 ⟨rfl, g3, g4⟩))
  go_ret
  exact ⟨rfl, vt5, ve5, g3, (G2.out.trans G6.out).trans g4⟩
end
section
variable {w w' : World} {b : Nat} {ae : Sur} {ao : Addr} {x : Lx} {vd vt ve vm : Value}
set_option maxHeartbeats 4000000 in
set_option maxRecDepth 100000 in
theorem number_24 (h : LexAt w b ae ao x vd vt ve vm) (hw : x.Wf) (hm : x.multi = false) (ho : x.num.ok = true) (hv : x.numV = ⟨#[49, 50]⟩) :
    Calls Tryz.prog 38 #[.pointer (some ⟨b, 0, none⟩), .int .i64 24] w fun e w' => e = .returned (.int .i64 12) ∧ NumDone w b ae ao x.num vd vm w' := by
  have H := Lib.hid h
  have HW := Lib.hid hw
  have HM := Lib.hid hm
  have HV := Lib.hid hv
  have HO := Lib.hid ho
  clear h hw hm hv ho
  go_enter Tryz.func38, Tryz.ntmps38
  go_wp2_with (go_at_call 71; refine (int64_12 H.out HW.out HM.out HO.out HV.out).mono ?_; rintro e w1 ⟨rfl, vt1, ve1, g1, g2⟩)
  go_ret
  exact ⟨rfl, vt1, ve1, g1, g2⟩
theorem conv_an (W : World) : ∃ cp W', (convert 9 22 (.string (strOfNums [97, 10]))).run Tryz.prog W = .ok (.slice (some ⟨W.heap.size, 0, none⟩) 2 cp) W' ∧ FreshAt W W' (.slice (some ⟨W.heap.size, 0, none⟩) 2 cp) [97, 10] := by
  have he : strOfNums [97, 10] = ⟨#[97, 10]⟩ := by decide
  rw [he]
  have hcv := run_bytes_of_string (P := Tryz.prog) W 9 22 5 ⟨#[97, 10]⟩ Tryz.underlying9 Tryz.underlying22 Tryz.underlying5
  have hge := grownCap_ge W (ByteArray.mk #[97, 10]).size 0 5
  refine ⟨_, _, hcv, ⟨rfl, rfl, rfl, by simp, fun k hk _ => heap_alloc_lt (w := W.drew) hk⟩, fun A hA => .inr ⟨W.heap.size, 0, _, rfl, hge, ⟨fun a => by have := hA _ a; omega, by simp⟩, fun i hi => ?_⟩⟩
  match i, hi with
  | 0, _ => exact cell_of_heap (heap_alloc_new W.drew _) 0 (bytesRow_at _ _ 0 (by decide))
  | 1, _ => exact cell_of_heap (heap_alloc_new W.drew _) 1 (bytesRow_at _ _ 1 (by decide))
def TextDone (w : World) (b : Nat) (ae : Sur) (ao : Addr) (x' : Lx) (vd vm : Value) (q p : Int) (e : Ending) (w' : World) : Prop :=
  ∃ v, e = .returned (gotV 0 v q p) ∧ (∀ A : Nat → Prop, (∀ k, A k → k < w.heap.size) → BytesAt w' A v [97, 10]) ∧ NumDone w b ae ao x' vd vm w'
set_option maxHeartbeats 4000000 in
set_option maxRecDepth 100000 in
theorem text_13 (h : LexAt w b ae ao x vd vt ve vm) (hw : x.Wf) (hk : x.kind = 0) (hok : x.ok = true) (hok2 : x.fetch.ok = true) (hk2 : x.fetch.kind = 2) (ht : x.fetch.tok = [97, 92, 110]) (n : Int) (p : Option Addr) (sn sc : Nat) :
    Calls Tryz.prog 37 #[.pointer (some ⟨b, 0, none⟩), callV 13 n (.slice p sn sc)] w fun e w' => TextDone w b ae ao { x.fetch with tok := [97, 10], cl := true }.consume vd vm 0 0 e w' := by
  have H := Lib.hid h
  have hbl := h.lt
  clear h
  unfold callV
  go_enter Tryz.func37, Tryz.ntmps37
  go_wp2_with (go_at_call 53; refine (string_an ((H.out.alloc _).hold _) hw hk hok hok2 hk2 ht).mono ?_; rintro e w1 ⟨rfl, vt1, ve1, g1, g2⟩; have hG := got_heap g2 hbl; obtain ⟨cp, w2, hcv, hfr⟩ := conv_an w1; have hG2 := (hfr.1.block _ (lt_heap hG) (by simp)).trans hG; have y0 := cell_of_heap hG2 0 rfl; have y1 := cell_of_heap hG2 1 rfl; have y2 := cell_of_heap hG2 2 rfl; have y3 := cell_of_heap hG2 3 rfl; have z := free_of_heap hG2; have z0 := z 0; have z1 := z 1; have z2 := z 2; have z3 := z 3; have G1 := Lib.hid g1; have G2 := Lib.hid g2; have GH := Lib.hid hG2; have FR := Lib.hid hfr; have hlt1 := lt_heap hG; clear g1 g2 z hG hG2 hfr)
  (try simp only [Exit.inBlock, Exit.then])
  have hs : ∀ o : Obj, (w.alloc o).heap.size = w.heap.size + 1 := fun o => by simp
  refine bodyPost_ret (v := gotV 0 (.slice (some ⟨w1.heap.size, 0, none⟩) 2 cp) 0 0) ?_ rfl ⟨_, rfl, ?_, vt1, ve1, ?_, ?_⟩
  · exact results_cell_row rfl _ _ (w.heap.size + 1) 30 _ (0, 0) _ rfl (heap_setCell (heap_setCell (heap_setCell (heap_setCell (heap_setCell GH.out 1 _) 0 _) 1 _) 2 _) 3 _) Tryz.underlying30 rfl (by kernel_rfl)
  · intro A hA
    have hsz : w.heap.size + 1 < w1.heap.size := hlt1
    have h0 := FR.out.2 (fun k => A k ∨ k = w.heap.size + 1) (by
      rintro k (a | rfl)
      · have := hA k a; omega
      · exact hsz)
    refine BytesAt.other (A := fun k => A k ∨ k = w.heap.size + 1) ?_ (fun k _ a => .inl a)
    iterate 5 refine BytesAt.grown ?_ (grownBy_setCell _ _ _ _) (fun k e => .inr (Option.some.inj e).symm)
    exact h0
  · refine LexAt.less (j := w.heap.size + 1) ?_
    have G := G1.out
    rw [hs] at G
    have G' := G.grown FR.out.1 (by simp)
    iterate 5 refine LexAt.setHeld ?_ (Sur.hold_self _ _) (by omega) _ _
    exact G'
  · iterate 5 refine Kept.setNew ?_ (by omega) _ _
    exact (Kept.of_alloc (Kept.of_alloc G2.out)).trans (Kept.of_grownS FR.out.1 (by simp))
end
end Go.Proofs.YtaecbclonmhbcaaGreatDoor

namespace Go.Proofs.YtaecbclonmhbcaaGreatDoor
open Go.RowKit
section
variable {w w' : World} {b : Nat} {ae : Sur} {ao : Addr} {x : Lx} {vd vt ve vm : Value}
theorem TextDone.split {x' : Lx} {q p : Int} {e : Ending} (h : TextDone w b ae ao x' vd vm q p e w') :
    ∃ v, e = .returned (gotV 0 v q p) ∧ (∀ A : Nat → Prop, (∀ k, A k → k < w.heap.size) → BytesAt w' A v [97, 10]) ∧ ∃ vt' ve', LexAt w' b ae ao x' vd vt' ve' vm ∧ Kept b w w' := h
theorem got_store1 {w1 w2 : World} {x' : Lx} {vt1 ve1 : Value} {o : Obj} {c : Array Value} {d0 d1 d2 d3 v0 : Value} (g1 : LexAt w1 b ((ae.hold (w.heap.size + 1)).hold (w.heap.size + 1 + 1)) ao x' vd vt1 ve1 vm)
    (g2 : Kept b (((w.alloc o).alloc (.cells c 30)).alloc (.cells #[d0, d1, d2, d3] 30)) w1) (hb : b < w.heap.size)
    (h2 : w1.setCell ⟨w.heap.size + 1 + 1, 0, none⟩ v0 = w2) :
    w2.heap[w.heap.size + 1]? = some (.cells c 30 (0, 0)) ∧ w2.heap[w.heap.size + 1 + 1]? = some (.cells #[v0, d1, d2, d3] 30 (0, 0)) ∧ LexAt w2 b ((ae.hold (w.heap.size + 1)).hold (w.heap.size + 1 + 1)) ao x' vd vt1 ve1 vm ∧ Kept b w w2 := by
  obtain ⟨ha, hc⟩ := got_heap3 g2 hb
  subst h2
  refine ⟨?_, ?_, g1.setHeld (Sur.hold_self _ _) (by omega) _ _, ?_⟩
  · rw [heap_setCell_other _ _ (by omega)]
    exact ha
  · exact heap_setCell hc 0 v0
  · refine Kept.setNew ?_ (by omega) _ _
    exact Kept.of_alloc (Kept.of_alloc (Kept.of_alloc g2))
set_option maxHeartbeats 4000000 in
set_option maxRecDepth 100000 in
theorem call_24 (h : LexAt w b ae ao x vd vt ve vm) (hw : x.Wf) (hm : x.multi = false) (ho : x.num.ok = true) (hv : x.numV = ⟨#[49, 50]⟩) (n : Int) (p : Option Addr) (sn sc : Nat) (hno : x.num.err ≠ .other) :
    Calls Tryz.prog 26 #[.pointer (some ⟨b, 0, none⟩), callV 24 n (.slice p sn sc)] w fun e w' => CallDone w b ae ao x.num vd vm 12 e w' := by
  have H := Lib.hid h
  have hbl := h.lt
  clear h
  unfold callV
  have hs1 : ∀ o : Obj, (w.alloc o).heap.size = w.heap.size + 1 := fun o => by simp
  have hs2 : ∀ o o' : Obj, ((w.alloc o).alloc o').heap.size = w.heap.size + 1 + 1 := fun o o' => by simp
  have HS1 := Lib.hid hs1
  have HS2 := Lib.hid hs2
  clear hs1 hs2
  have ne1 : w.heap.size + 1 ≠ w.heap.size + 1 + 1 := by omega
  have ne2 : w.heap.size + 1 + 1 ≠ w.heap.size + 1 := by omega
  go_enter Tryz.func26, Tryz.ntmps26
  go_wp2_with (first
    | (go_at_call 38; refine (number_24 (((H.out.alloc _).hold _).hold _) hw hm ho hv).mono ?_; rintro e w1 ⟨rfl, vt1, ve1, g1, g2⟩; have hG := got_heap3 g2 hbl; have u0 := cell_of_heap hG.2 0 rfl; have v0 := free_of_heap hG.2 0; have u1 := cell_of_heap hG.2 1 rfl; have v1 := free_of_heap hG.2 1; have u2 := cell_of_heap hG.2 2 rfl; have v2 := free_of_heap hG.2 2; have u3 := cell_of_heap hG.2 3 rfl; have v3 := free_of_heap hG.2 3; rw [HS1.out, HS2.out] at g1; have G1 := Lib.hid g1; have G2 := Lib.hid g2; have GH := Lib.hid hG; clear g1 g2 hG)
    | (go_at_call 28; refine (error_any (got_store1 G1.out G2.out hbl rfl).2.2.1).mono ?_; intro e w2 h28; obtain ⟨he, hw2⟩ := h28; subst he; have hst := got_store1 G1.out G2.out hbl hw2; clear G1 G2 GH; clear u0 v0; clear u1 v1; clear u2 v2; clear u3 v3; obtain ⟨hA, hB, hC, hD⟩ := hst; have y0 := cell_of_heap hA 0 rfl; have z0 := free_of_heap hA 0; have u0 := cell_of_heap hB 0 rfl; have v0 := free_of_heap hB 0; have y1 := cell_of_heap hA 1 rfl; have z1 := free_of_heap hA 1; have u1 := cell_of_heap hB 1 rfl; have v1 := free_of_heap hB 1; have y2 := cell_of_heap hA 2 rfl; have z2 := free_of_heap hA 2; have u2 := cell_of_heap hB 2 rfl; have v2 := free_of_heap hB 2; have y3 := cell_of_heap hA 3 rfl; have z3 := free_of_heap hA 3; have u3 := cell_of_heap hB 3 rfl; have v3 := free_of_heap hB 3; have HA := Lib.hid hA; have HB := Lib.hid hB; have GA := Lib.hid hC; have GK := Lib.hid hD; have HW2 := Lib.hid hw2; clear hA hB hC hD hw2)
    | (go_at_call 35; refine (kind_any GA.out.err GA.out.env hno).mono ?_; rintro e w3 ⟨h3, rfl⟩; obtain ⟨q, hq⟩ : ∃ q : Int, q = (x.num).err.num := ⟨_, rfl⟩; rw [← hq] at h3; subst h3; have HQ := Lib.hid hq; clear hq)
    | (go_at_call 34; refine (getPos_any GA.out).mono ?_; rintro e w4 ⟨h4, rfl⟩; obtain ⟨r, hr⟩ : ∃ r : Int, r = (x.num).pos := ⟨_, rfl⟩; rw [← hr] at h4; subst h4; have HR := Lib.hid hr; clear hr))
  (try simp only [Exit.inBlock, Exit.then])
  refine bodyPost_ret (v := gotV 12 (.slice none 0 0) q r) ?_ rfl ⟨by rw [HQ.out, HR.out], vt1, ve1, ?_, ?_⟩
  · exact results_cell_row rfl _ _ (w.heap.size + 1) 30 _ (0, 0) _ rfl (heap_setCell (heap_setCell (heap_setCell (heap_setCell ((heap_setCell_other 3 _ ne1).trans ((heap_setCell_other 2 _ ne1).trans HA.out)) 0 _) 1 _) 2 _) 3 _) Tryz.underlying30 rfl (by kernel_rfl)
  · refine LexAt.less (j := w.heap.size + 1) (LexAt.less (j := w.heap.size + 1 + 1) ?_)
    iterate 4 refine LexAt.setHeld ?_ (Sur.hold_old (Sur.hold_self _ _)) (by omega) _ _
    iterate 2 refine LexAt.setHeld ?_ (Sur.hold_self _ _) (by omega) _ _
    exact GA.out
  · iterate 6 refine Kept.setNew ?_ (by omega) _ _
    exact GK.out
set_option maxHeartbeats 4000000 in
set_option maxRecDepth 100000 in
theorem call_13 (h : LexAt w b ae ao x vd vt ve vm) (hw : x.Wf) (hk : x.kind = 0) (hok : x.ok = true) (hok2 : x.fetch.ok = true) (hk2 : x.fetch.kind = 2) (ht : x.fetch.tok = [97, 92, 110]) (n : Int) (p : Option Addr) (sn sc : Nat) (hno : ({ x.fetch with tok := [97, 10], cl := true }.consume : Lx).err ≠ .other) :
    Calls Tryz.prog 26 #[.pointer (some ⟨b, 0, none⟩), callV 13 n (.slice p sn sc)] w fun e w' => TextDone w b ae ao { x.fetch with tok := [97, 10], cl := true }.consume vd vm ({ x.fetch with tok := [97, 10], cl := true }.consume : Lx).err.num ({ x.fetch with tok := [97, 10], cl := true }.consume : Lx).pos e w' := by
  have H := Lib.hid h
  have hbl := h.lt
  clear h
  unfold callV
  have hs1 : ∀ o : Obj, (w.alloc o).heap.size = w.heap.size + 1 := fun o => by simp
  have hs2 : ∀ o o' : Obj, ((w.alloc o).alloc o').heap.size = w.heap.size + 1 + 1 := fun o o' => by simp
  have HS1 := Lib.hid hs1
  have HS2 := Lib.hid hs2
  clear hs1 hs2
  have ne1 : w.heap.size + 1 ≠ w.heap.size + 1 + 1 := by omega
  have ne2 : w.heap.size + 1 + 1 ≠ w.heap.size + 1 := by omega
  go_enter Tryz.func26, Tryz.ntmps26
  go_wp2_with (first
    | (go_at_call 37; refine (text_13 (((H.out.alloc _).hold _).hold _) hw hk hok hok2 hk2 ht n p sn sc).mono ?_; intro e w1 h10; obtain ⟨tv, he1, hbt, vt1, ve1, g1, g2⟩ := TextDone.split h10; clear h10; subst he1; unfold gotV; obtain ⟨tp, tc, rfl⟩ := (hbt (fun _ => False) (fun _ a => a.elim)).isSlice; have HBT := Lib.hid hbt; have hG := got_heap3 g2 hbl; have u0 := cell_of_heap hG.2 0 rfl; have v0 := free_of_heap hG.2 0; have u1 := cell_of_heap hG.2 1 rfl; have v1 := free_of_heap hG.2 1; have u2 := cell_of_heap hG.2 2 rfl; have v2 := free_of_heap hG.2 2; have u3 := cell_of_heap hG.2 3 rfl; have v3 := free_of_heap hG.2 3; rw [HS1.out, HS2.out] at g1; have G1 := Lib.hid g1; have G2 := Lib.hid g2; have GH := Lib.hid hG; clear g1 g2 hG hbt)
    | (go_at_call 28; refine (error_any (got_store G1.out G2.out hbl rfl).2.2.1).mono ?_; intro e w2 h28; obtain ⟨he, hw2⟩ := h28; subst he; have hst := got_store G1.out G2.out hbl hw2; clear G1 G2 GH; clear u0 v0; clear u1 v1; clear u2 v2; clear u3 v3; obtain ⟨hA, hB, hC, hD⟩ := hst; have y0 := cell_of_heap hA 0 rfl; have z0 := free_of_heap hA 0; have u0 := cell_of_heap hB 0 rfl; have v0 := free_of_heap hB 0; have y1 := cell_of_heap hA 1 rfl; have z1 := free_of_heap hA 1; have u1 := cell_of_heap hB 1 rfl; have v1 := free_of_heap hB 1; have y2 := cell_of_heap hA 2 rfl; have z2 := free_of_heap hA 2; have u2 := cell_of_heap hB 2 rfl; have v2 := free_of_heap hB 2; have y3 := cell_of_heap hA 3 rfl; have z3 := free_of_heap hA 3; have u3 := cell_of_heap hB 3 rfl; have v3 := free_of_heap hB 3; have HA := Lib.hid hA; have HB := Lib.hid hB; have GA := Lib.hid hC; have GK := Lib.hid hD; have HW2 := Lib.hid hw2; clear hA hB hC hD hw2)
    | (go_at_call 35; refine (kind_any GA.out.err GA.out.env hno).mono ?_; rintro e w3 ⟨h3, rfl⟩; obtain ⟨q, hq⟩ : ∃ q : Int, q = ({ x.fetch with tok := [97, 10], cl := true }.consume : Lx).err.num := ⟨_, rfl⟩; rw [← hq] at h3; subst h3; have HQ := Lib.hid hq; clear hq)
    | (go_at_call 34; refine (getPos_any GA.out).mono ?_; rintro e w4 ⟨h4, rfl⟩; obtain ⟨r, hr⟩ : ∃ r : Int, r = ({ x.fetch with tok := [97, 10], cl := true }.consume : Lx).pos := ⟨_, rfl⟩; rw [← hr] at h4; subst h4; have HR := Lib.hid hr; clear hr))
  (try simp only [Exit.inBlock, Exit.then])
  refine bodyPost_ret (v := gotV 0 (.slice tp 2 tc) q r) ?_ rfl ⟨_, by rw [HQ.out, HR.out], ?_, vt1, ve1, ?_, ?_⟩
  · exact results_cell_row rfl _ _ (w.heap.size + 1) 30 _ (0, 0) _ rfl (heap_setCell (heap_setCell (heap_setCell (heap_setCell ((heap_setCell_other 3 _ ne1).trans ((heap_setCell_other 2 _ ne1).trans HA.out)) 0 _) 1 _) 2 _) 3 _) Tryz.underlying30 rfl (by kernel_rfl)
  · intro A hA
    rw [← HW2.out]
    have h0 := HBT.out (fun k => A k ∨ k = w.heap.size + 1 ∨ k = w.heap.size + 1 + 1) (by
      rintro k (a | rfl | rfl)
      · have := hA k a; simp; omega
      · simp
      · simp)
    refine BytesAt.other (A := fun k => A k ∨ k = w.heap.size + 1 ∨ k = w.heap.size + 1 + 1) ?_ (fun k _ a => .inl a)
    iterate 10 refine BytesAt.grown ?_ (grownBy_setCell _ _ _ _) (fun k e => .inr (by have := Option.some.inj e; omega))
    exact h0
  · refine LexAt.less (j := w.heap.size + 1) (LexAt.less (j := w.heap.size + 1 + 1) ?_)
    iterate 4 refine LexAt.setHeld ?_ (Sur.hold_old (Sur.hold_self _ _)) (by omega) _ _
    iterate 2 refine LexAt.setHeld ?_ (Sur.hold_self _ _) (by omega) _ _
    exact GA.out
  · iterate 6 refine Kept.setNew ?_ (by omega) _ _
    exact GK.out
end
end Go.Proofs.YtaecbclonmhbcaaGreatDoor

namespace Go.Proofs.YtaecbclonmhbcaaGreatDoor
open Go.RowKit
def knownD : List Int := [32, 49, 50, 32, 34, 97, 92, 110, 34]
def kx0 : Lx := Lx.begin knownD false
def kx1 : Lx := kx0.num
def kx2 : Lx := { kx1.fetch with tok := [97, 10], cl := true }.consume
theorem kx0_ok : kx0.num.ok = true := by decide
theorem kx0_v : kx0.numV = ⟨#[49, 50]⟩ := by decide
theorem kx1_kind : kx1.kind = 0 := by decide
theorem kx1_ok : kx1.ok = true := by decide
theorem kx1_ok2 : kx1.fetch.ok = true := by decide
theorem kx1_kind2 : kx1.fetch.kind = 2 := by decide
theorem kx1_tok : kx1.fetch.tok = [97, 92, 110] := by decide
theorem kx1_err : kx1.err = .nil := by rfl
theorem kx2_err : kx2.err = .nil := by rfl
theorem kx0_wf : kx0.Wf := ⟨by decide, by decide, by decide, fun i => by
  rcases i with _ | _ | _ | _ | _ | _ | _ | _ | _ | i <;> first | decide | (show 0 ≤ (knownD.getD _ 0) ∧ (knownD.getD _ 0) ≤ 255; simp [knownD])⟩
theorem kx1_wf : kx1.Wf := by
  have h := peek_wf kx0_wf
  exact (show kx0.peek.numS.Wf from by unfold Lx.numS; split; exact h.fail; exact h.consume)
set_option maxHeartbeats 4000000 in
set_option maxRecDepth 100000 in
theorem lex_known {w : World} {A : Nat → Prop} {v : Value} {ae : Sur} {ao : Addr} (hv : BytesAt w A v knownD) (he : Env w ae ao) (h2 : 1 < w.heap.size)
    (cb co cc : Nat) (hcs : CallsAt w cb co [(24, 0), (13, 0)]) (hcb : cb < w.heap.size) :
    Calls Tryz.prog 13 #[v, .bool false, .slice (some ⟨cb, co, none⟩) 2 cc] w fun e w' =>
      ∃ v' s, e = .returned v' ∧ w'.ownsRow w.heap.size 30 4 v' 2 [.int .i64 12, .slice none 0 0, .int .i64 0, .int .i64 kx1.pos, .int .i64 0, s, .int .i64 0, .int .i64 kx2.pos] ∧
        (∀ A : Nat → Prop, (∀ k, A k → k < w.heap.size) → BytesAt w' A s [97, 10]) ∧ Below w.heap.size w w' := by
  have HCS := Lib.hid hcs
  have HCB := Lib.hid hcb
  clear hcs hcb
  go_enter Tryz.func13, Tryz.ntmps13
  go_wp2_with (go_at_call 25; refine (lexer_any (ae := ⟨ae.addr, fun _ => False⟩) hv (by decide) ⟨he.eof, he.other, he.ne⟩ (fun _ a => a.elim) h2 false).mono ?_; rintro e w1 ⟨b, vd, rfl, hb, hg, hlx⟩)
  have hB0 := (Below.refl w.heap.size w).grown hg (Nat.le_refl _) (by simp)
  have hblt := hlx.lt
  have hL0 : LexAt w1 b (ae.own (.slice none 0 0)) ao kx0 vd (.slice none 0 0) .nilIface (.slice none 0 0) := hlx.move (grownBy_self (r := none) _) (by simp) rfl (by
    rintro j hj (e | e)
    · exact .inl e
    · cases e) (fun j e => by cases e)
  have q0 := (hB0.cell (p := ⟨cb, co + 0 * 3, none⟩) HCB.out).trans (HCS.out 0 (by decide)).1
  have q1 := (hB0.cell (p := ⟨cb, co + 0 * 3 + 1, none⟩) HCB.out).trans (HCS.out 0 (by decide)).2.1
  have q2 := (hB0.cell (p := ⟨cb, co + 0 * 3 + 2, none⟩) HCB.out).trans (HCS.out 0 (by decide)).2.2
  have HB0 := Lib.hid hB0
  have HL0 := Lib.hid hL0
  clear hB0 hL0 hlx hg hv he
  simp only [Nat.zero_mul, Nat.add_zero] at q0 q1 q2
  refine wp_loop_rounds 3 ?_
  rw [rounds_succ]
  go_wp2_with (first
    | (go_at_call 26; refine (call_24 (HL0.out.alloc _) kx0_wf rfl kx0_ok kx0_v 0 none 0 0 (by show kx1.err ≠ .other; rw [kx1_err]; simp)).mono ?_; intro e w2 hD0; obtain ⟨he, hD⟩ := CallDone.split hD0; clear hD0; subst he; obtain ⟨vt1, ve1, g1, g2⟩ := hD; unfold gotV; obtain ⟨v', w3, hr, ho, hl', hb', -⟩ := round_step (s := .slice none 0 0) rfl (n := 12) (q := kx0.num.err.num) (p := (kx0.num.pos : Int)) (World.grownBy_alloc _ _ none) g2 (World.ownsRow_nil w1 (b + 1) 30 4) (by omega) g1 hb hblt; have HR := Lib.hid hr; have HN := Lib.hid ho; have HL3 := Lib.hid hl'; have HB3 := Lib.hid (HB0.out.trans hb'); clear hr ho hl' hb' g1 g2)
    | (at_builtin; refine Lib.wpList_append_run_sl _ rfl _ _ 24 rfl _ _ rfl rfl HR.out ?_))
  have q3 := (HB3.out.cell (p := ⟨cb, co + 1 * 3, none⟩) HCB.out).trans (HCS.out 1 (by decide)).1
  have q4 := (HB3.out.cell (p := ⟨cb, co + 1 * 3 + 1, none⟩) HCB.out).trans (HCS.out 1 (by decide)).2.1
  have q5 := (HB3.out.cell (p := ⟨cb, co + 1 * 3 + 2, none⟩) HCB.out).trans (HCS.out 1 (by decide)).2.2
  simp only [Nat.one_mul, Nat.add_assoc] at q3 q4 q5
  have hblt3 := HL3.out.lt
  rw [rounds_succ]
  go_wp2_with (first
    | (go_at_call 26; refine (call_13 (HL3.out.alloc _) kx1_wf kx1_kind kx1_ok kx1_ok2 kx1_kind2 kx1_tok 0 none 0 0 (by show kx2.err ≠ .other; rw [kx2_err]; simp)).mono ?_; intro e w4 h10; obtain ⟨tv, he1, hbt, vt2, ve2, g3, g4⟩ := TextDone.split h10; clear h10; subst he1; unfold gotV; obtain ⟨tp, tc, rfl⟩ := (hbt (fun _ => False) (fun _ a => a.elim)).isSlice; obtain ⟨v2, w5, hr, ho, hl', hb', hgr⟩ := round_step (s := .slice tp 2 tc) rfl (n := 0) (q := kx2.err.num) (p := (kx2.pos : Int)) (World.grownBy_alloc _ _ none) g4 HN.out (by omega) g3 hb hblt3; have HR2 := Lib.hid hr; have HN2 := Lib.hid ho; have HB4 := Lib.hid (HB3.out.trans hb'); have HGR := Lib.hid hgr; have HBT := Lib.hid hbt; clear hr ho hl' hb' hgr hbt g3 g4)
    | (at_builtin; refine Lib.wpList_append_run_sl _ rfl _ _ 24 rfl _ _ rfl rfl HR2.out ?_))
  rw [rounds_succ]
  go_wp2
  go_ret
  refine ⟨_, .slice tp 2 tc, rfl, ownsRow_base HN2.out (by omega), fun A hA => ?_, HB4.out⟩
  have h0 := HBT.out (fun k => A k ∨ v'.ownBlock = some k) (by
    rintro k (a | e)
    · have := hA k a; have := HB3.out.size; simp; omega
    · have := (HN.out.lt k e).2; simp; omega)
  exact (((h0.grown (World.grownBy_alloc w4 _ none) (by simp)).grown HGR.out (fun k e => .inr e))).other (fun k _ a => .inl a)
set_option maxHeartbeats 4000000 in
set_option maxRecDepth 100000 in
theorem equal_an {w : World} {A B : Nat → Prop} {v u : Value} (hv : BytesAt w A v [97, 10]) (hu : BytesAt w B u [97, 10]) :
    Calls Tryz.prog 24 #[v, u] w fun e w' => e = .returned (.bool true) ∧ ∃ n, w' = w.drewN n := by
  rcases hv with ⟨h0, -⟩ | ⟨b1, o1, c1, rfl, hc1, -, hx1⟩
  · cases h0
  rcases hu with ⟨h0, -⟩ | ⟨b2, o2, c2, rfl, hc2, -, hx2⟩
  · cases h0
  have x0 : w.cell? ⟨b1, o1, none⟩ = some (.int .u8 97) := hx1 0 (by decide)
  have x1 : w.cell? ⟨b1, o1 + 1, none⟩ = some (.int .u8 10) := hx1 1 (by decide)
  have y0 : w.cell? ⟨b2, o2, none⟩ = some (.int .u8 97) := hx2 0 (by decide)
  have y1 : w.cell? ⟨b2, o2 + 1, none⟩ = some (.int .u8 10) := hx2 1 (by decide)
  clear hx1 hx2
  go_enter Tryz.func24, Tryz.ntmps24
  go_wp2
  refine wp_loop_rounds 3 ?_
  rw [rounds_succ]
  go_wp2
  go_quiet (fail)
  go_wp2
  rw [rounds_succ]
  go_wp2
  go_quiet (fail)
  go_wp2
  rw [rounds_succ]
  go_wp2
  go_ret
  exact ⟨rfl, _, rfl⟩
end Go.Proofs.YtaecbclonmhbcaaGreatDoor
