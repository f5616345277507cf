/- internal/strconv.readFloat over bytes of numbers. internal/strconv.decimal's set over bytes of numbers. Printed by gen_set.py. internal/strconv.decimal's floatBits. internal/strconv.special over bytes of numbers. internal/strconv.atof64 over bytes of numbers. base64.NewEncoding over the standard alphabet. base64's small functions: the encoding, its lengths, the digits put together, the bytes put down. base64's decodeQuantum: how far it reads, how much it writes. base64's Decode: it returns, and tells no more bytes than there is room for. Printed by gen_b6e.py. -/
import Derived.Test.YtaecbclonmhbcaaGreatDoorR14
import Derived.Deep.DeepCutAuto
import Derived.Deep.CutBlock
import Derived.Deep.LoopGhost
import Derived.WalkMore
import Derived.ScopeJumps
import Derived.Test.YtaecbclonmhbcaaGreatDoorProg
import Derived.Test.YtaecbclonmhbcaaGreatDoorR01
import Derived.Deep.MidRow
import Derived.Lib.BufferWrite
import Derived.Lib.SlBuf
import Derived.Laws.CopyOwn
set_option linter.unusedVariables false
set_option linter.unusedSimpArgs false
namespace Go.Proofs.YtaecbclonmhbcaaGreatDoor
open Go.RowKit
def NumCh (c : Int) : Prop := (48 ≤ c ∧ c ≤ 57) ∨ c = 46 ∨ c = 101 ∨ c = 69 ∨ c = 43 ∨ c = 45
def NumS (s : ByteArray) : Prop := ∀ j (h : j < s.size), NumCh (s[j].toNat : Int)
end Go.Proofs.YtaecbclonmhbcaaGreatDoor

namespace Go.Proofs.YtaecbclonmhbcaaGreatDoor
open Go.RowKit
theorem DecAt.drew {w : World} {b : Nat} {f : Nat → Int} {nd : Nat} {dp : Int} (h : DecAt w b f nd dp) : DecAt w.drew b f nd dp := ⟨h.dig, h.nd, h.dp, h.neg, h.tr, h.free⟩
end Go.Proofs.YtaecbclonmhbcaaGreatDoor

namespace Go.Proofs.YtaecbclonmhbcaaGreatDoor
open Go.RowKit
theorem DecSome.drewN {w : World} {b : Nat} (h : DecSome w b) (n : Nat) : DecSome (w.drewN n) b := by
  obtain ⟨f, nd, dp, h1, h2⟩ := h; exact ⟨f, nd, dp, h1.drewN n, h2⟩
theorem DecSome.neg {w : World} {b : Nat} (h : DecSome w b) : ∃ x, w.cell? ⟨b, 802, none⟩ = some (.bool x) := by
  obtain ⟨f, nd, dp, h1, h2⟩ := h; exact h1.neg
structure Pow9 (w : World) (b : Nat) : Prop where
  ne : 10 ≠ b
  at_ : ∃ g o cp, g ≠ b ∧ w.cell? ⟨10, 0, none⟩ = some (.slice (some ⟨g, o, none⟩) 9 cp) ∧ 9 ≤ cp ∧ ∀ j, j < 9 → ∃ n : Nat, 1 ≤ n ∧ n ≤ 27 ∧ w.cell? ⟨g, o + j, none⟩ = some (.int .i64 n)
theorem Pow9.kept {w w' : World} {b : Nat} (h : Pow9 w b) (hK : Kept b w w') : Pow9 w' b := by
  obtain ⟨h10, g, o, cp, hg, h1, h2, h3⟩ := h
  refine ⟨h10, g, o, cp, hg, hK.cell h1 h10, h2, fun j hj => ?_⟩
  obtain ⟨n, a1, a2, a3⟩ := h3 j hj
  exact ⟨n, a1, a2, hK.cell a3 hg⟩
structure FInfo (w : World) (b gf : Nat) (mb eb bias : Int) : Prop where
  ne : gf ≠ b
  c0 : w.cell? ⟨gf, 0, none⟩ = some (.int .u64 mb)
  c1 : w.cell? ⟨gf, 1, none⟩ = some (.int .u64 eb)
  c2 : w.cell? ⟨gf, 2, none⟩ = some (.int .i64 bias)
theorem FInfo.kept {w w' : World} {b gf : Nat} {mb eb bias : Int} (h : FInfo w b gf mb eb bias) (hK : Kept b w w') : FInfo w' b gf mb eb bias :=
  ⟨h.ne, hK.cell h.c0 h.ne, hK.cell h.c1 h.ne, hK.cell h.c2 h.ne⟩
end Go.Proofs.YtaecbclonmhbcaaGreatDoor

namespace Go.Proofs.YtaecbclonmhbcaaGreatDoor
open Go.RowKit
theorem NumS.tail {s : ByteArray} (h : NumS s) (k : Nat) : NumS (s.extract k s.size) := by
  intro j hj
  have h1 : (s.extract k s.size).size = min s.size s.size - k := ByteArray.size_extract
  have e : (s.extract k s.size)[j] = s[k + j]'(by omega) := ByteArray.getElem_extract hj
  rw [e]
  exact h _ _
end Go.Proofs.YtaecbclonmhbcaaGreatDoor

namespace Go.Proofs.YtaecbclonmhbcaaGreatDoor
open Go.RowKit
theorem Kept.out {u v : World} {B b : Nat} (h : Kept B u v) (hB : u.heap.size ≤ B) : Kept b u v :=
  ⟨h.os, h.tape, h.output, h.size, fun k hk _ => h.block k hk (by omega)⟩
theorem Kept.old {u v : World} {B : Nat} (h : Kept B u v) (hB : u.heap.size ≤ B) {a : Addr} {x : Value} (hc : u.cell? a = some x) : v.cell? a = some x :=
  h.cell hc (by have := World.block_lt_of_cell? u a hc; omega)
theorem Kept.grown {u v : World} (b : Nat) (h : u.grownBy v none) : Kept b u v := ⟨h.os, h.tape, h.output, h.size, fun k hk _ => h.block k hk (by simp)⟩
theorem Kept.into {u v x : World} {B : Nat} (h : Kept B u v) (k : Kept v.heap.size v x) (hB : u.heap.size = B) : Kept B u x :=
  h.trans (k.out (Nat.le_refl _))
structure FlT (w : World) : Prop where
  opt : ∃ y, w.cell? ⟨7, 0, none⟩ = some (.bool y)
  i64 : w.cell? ⟨8, 0, none⟩ = some (.int .u64 52) ∧ w.cell? ⟨8, 1, none⟩ = some (.int .u64 11) ∧ w.cell? ⟨8, 2, none⟩ = some (.int .i64 (-1023))
  i32 : w.cell? ⟨6, 0, none⟩ = some (.int .u64 23) ∧ w.cell? ⟨6, 1, none⟩ = some (.int .u64 8) ∧ w.cell? ⟨6, 2, none⟩ = some (.int .i64 (-127))
  p64 : ∃ T, PowT .f64 11 23 w T
  p32 : ∃ T, PowT .f32 9 11 w T
  p10 : ∀ p : Int, -348 ≤ p → p ≤ 347 → ∃ hi lo : Nat, hi < 18446744073709551616 ∧ lo < 18446744073709551616 ∧ w.cell? ⟨12, (p + 348).toNat * 2, none⟩ = some (.int .u64 hi) ∧ w.cell? ⟨12, (p + 348).toNat * 2 + 1, none⟩ = some (.int .u64 lo)
  ch : ∀ b, w.heap.size ≤ b → CheatT w b
  p9 : ∀ b, w.heap.size ≤ b → Pow9 w b
  sh8 : ∃ (c : Array Value) (t : TypeId), w.heap[8]? = some (.cells c t (0, 0))
  sh6 : ∃ (c : Array Value) (t : TypeId), w.heap[6]? = some (.cells c t (0, 0))
theorem Kept.free {B g : Nat} {w w' : World} (hK : Kept B w w') (hB : w.heap.size ≤ B) (h : ∃ (c : Array Value) (t : TypeId), w.heap[g]? = some (.cells c t (0, 0))) : ∃ (c : Array Value) (t : TypeId), w'.heap[g]? = some (.cells c t (0, 0)) := by
  obtain ⟨c, t, h⟩ := h
  have := lt_heap h
  exact ⟨c, t, hK.heap h (by omega)⟩
theorem PowT.kept {k : FloatKind} {v n : Nat} {w w' : World} {T : Nat → Nat} {B : Nat} (h : PowT k v n w T) (hK : Kept B w w') (hB : w.heap.size ≤ B) : PowT k v n w' T := by
  obtain ⟨g, o, cp, h1, h2⟩ := h.at_
  exact ⟨g, o, cp, hK.old hB h1, fun i hi => hK.old hB (h2 i hi)⟩
theorem FlT.kept {w w' : World} {B : Nat} (h : FlT w) (hK : Kept B w w') (hB : w.heap.size ≤ B) : FlT w' :=
  ⟨h.opt.imp fun _ a => hK.old hB a, ⟨hK.old hB h.i64.1, hK.old hB h.i64.2.1, hK.old hB h.i64.2.2⟩, ⟨hK.old hB h.i32.1, hK.old hB h.i32.2.1, hK.old hB h.i32.2.2⟩,
    h.p64.imp fun _ a => a.kept hK hB, h.p32.imp fun _ a => a.kept hK hB,
    fun p h1 h2 => by obtain ⟨hi, lo, a1, a2, a3, a4⟩ := h.p10 p h1 h2; exact ⟨hi, lo, a1, a2, hK.old hB a3, hK.old hB a4⟩,
    fun b hb => (h.ch b (Nat.le_trans hK.size hb)).kept (hK.out hB), fun b hb => (h.p9 b (Nat.le_trans hK.size hb)).kept (hK.out hB), hK.free hB h.sh8, hK.free hB h.sh6⟩
theorem NumS.head {s : ByteArray} (h : NumS s) (i : Nat) : NumS (s.extract 0 i) := by
  intro j hj
  have h1 : (s.extract 0 i).size = min i s.size - 0 := ByteArray.size_extract
  have e : (s.extract 0 i)[j] = s[0 + j]'(by omega) := ByteArray.getElem_extract hj
  rw [e]
  exact h _ _
end Go.Proofs.YtaecbclonmhbcaaGreatDoor

namespace Go.Proofs.YtaecbclonmhbcaaGreatDoor
open Go.RowKit
structure EncAt (w : World) (e : Nat) : Prop where
  dm : ∀ c : Nat, c < 256 → ∃ v : Nat, v ≤ 255 ∧ w.cell? ⟨e, 64 + c, none⟩ = some (.int .u8 v)
  pad : w.cell? ⟨e, 320, none⟩ = some (.int .i32 61)
  strict : w.cell? ⟨e, 321, none⟩ = some (.bool false)
theorem EncAt.keep {w w' : World} {e : Nat} (h : EncAt w e) (hk : w'.heap[e]? = w.heap[e]?) : EncAt w' e := by
  have hc : ∀ i, w'.cell? ⟨e, i, none⟩ = w.cell? ⟨e, i, none⟩ := fun i => by simp [World.cell?, hk]
  refine ⟨fun c hcc => ?_, by rw [hc]; exact h.pad, by rw [hc]; exact h.strict⟩
  obtain ⟨v, h1, h2⟩ := h.dm c hcc
  exact ⟨v, h1, by rw [hc]; exact h2⟩
def alS : ByteArray := ⟨#[65, 66, 67, 68, 69, 70, 71, 72, 73, 74, 75, 76, 77, 78, 79, 80, 81, 82, 83, 84, 85, 86, 87, 88, 89, 90, 97, 98, 99, 100, 101, 102, 103, 104, 105, 106, 107, 108, 109, 110, 111, 112, 113, 114, 115, 116, 117, 118, 119, 120, 121, 122, 48, 49, 50, 51, 52, 53, 54, 55, 56, 57, 43, 47]⟩
def alN (k : Nat) : Nat := (alS.data.toList.getD k 0).toNat
theorem al_good : ((List.range 64).all fun k => decide (alN k < 256) && alN k != 10 && alN k != 13 && (List.range k).all fun j => alN j != alN k) = true := by kernel_rfl
theorem al_k {k : Nat} (h : k < 64) : alN k < 256 ∧ alN k ≠ 10 ∧ alN k ≠ 13 ∧ ∀ j, j < k → alN j ≠ alN k := by
  have := List.all_eq_true.1 al_good k (List.mem_range.2 h)
  simp only [Bool.and_eq_true, decide_eq_true_eq, bne_iff_ne, List.all_eq_true] at this
  exact ⟨this.1.1.1, this.1.1.2, this.1.2, fun j hj => this.2 j (List.mem_range.2 hj)⟩
structure EncI (w wr : World) (e k : Nat) : Prop where
  dm : ∀ c : Nat, c < 256 → ∃ v : Nat, v ≤ 255 ∧ wr.cell? ⟨e, 64 + c, none⟩ = some (.int .u8 v) ∧ ((∀ j, j < k → alN j ≠ c) → v = 255)
  pad : wr.cell? ⟨e, 320, none⟩ = some (.int .i32 61)
  strict : wr.cell? ⟨e, 321, none⟩ = some (.bool false)
  free : ∀ i, wr.frozen? ⟨e, i, none⟩ = false
  below : Below e w wr
theorem EncI.step {w wr : World} {e k : Nat} (h : EncI w wr e k) (hk : k < 64) (n : Nat) : EncI w ((wr.drewN n).setCell ⟨e, 64 + alN k, none⟩ (.int .u8 k)) e (k + 1) := by
  have g0 := (al_k hk).1
  refine ⟨fun c hcc => ?_, cell_set_other (w := wr.drewN n) h.pad (by omega), cell_set_other (w := wr.drewN n) h.strict (by omega), free_set (w := wr.drewN n) h.free, h.below.trans ⟨rfl, rfl, rfl, by simp, fun j hj => heap_setCell_other (w := wr.drewN n) _ _ (by omega)⟩⟩
  obtain ⟨v, h1, h2, h3⟩ := h.dm c hcc
  by_cases hx : alN k = c
  · subst hx
    exact ⟨k, by omega, cell_set_same (w := wr.drewN n) h2, fun hj => absurd rfl (hj k (by omega))⟩
  · exact ⟨v, h1, cell_set_other (w := wr.drewN n) h2 (by omega), fun hj => h3 fun j hjk => hj j (by omega)⟩
end Go.Proofs.YtaecbclonmhbcaaGreatDoor

namespace Go.Proofs.YtaecbclonmhbcaaGreatDoor
open Go.RowKit
structure DstAt (w : World) (d L : Nat) : Prop where
  cell : ∀ i, i < L → ∃ v, w.cell? ⟨d, i, none⟩ = some (.int .u8 v)
  free : ∀ i, w.frozen? ⟨d, i, none⟩ = false
theorem DstAt.set {w : World} {d L : Nat} (h : DstAt w d L) (j : Nat) (v : Int) : DstAt (w.setCell ⟨d, j, none⟩ (.int .u8 v)) d L :=
  ⟨fun i hi => by
    obtain ⟨x, hx⟩ := h.cell i hi
    by_cases e : i = j
    · subst e; exact ⟨v, cell_set_same hx⟩
    · exact ⟨x, cell_set_other hx e⟩, free_set h.free⟩
theorem DstAt.drewN {w : World} {d L : Nat} (h : DstAt w d L) (n : Nat) : DstAt (w.drewN n) d L := ⟨h.cell, h.free⟩
def Wrote (d L : Nat) (w w' : World) : Prop := DstAt w' d L ∧ Kept d w w'
end Go.Proofs.YtaecbclonmhbcaaGreatDoor

namespace Go.Proofs.YtaecbclonmhbcaaGreatDoor
open Go.RowKit
theorem Kept.old' {u v : World} {B : Nat} (h : Kept B u v) (hB : u.heap.size ≤ B) {a : Addr} {x : Value} (hc : u.cell? a = some x) : v.cell? a = some x :=
  h.cell hc (by have := World.block_lt_of_cell? u a hc; omega)
theorem Kept.enc {u v : World} {B e : Nat} (h : Kept B u v) (hB : u.heap.size ≤ B) (he : EncAt u e) : EncAt v e :=
  ⟨fun c hc => by obtain ⟨x, h1, h2⟩ := he.dm c hc; exact ⟨x, h1, h.old' hB h2⟩, h.old' hB he.pad, h.old' hB he.strict⟩
theorem EncAt.range {w : World} {e : Nat} (h : EncAt w e) : ∃ cs : List Value, cs.length = 256 ∧ w.rangeAt e 64 cs := by
  refine ⟨(List.range 256).map fun c => (w.cell? ⟨e, 64 + c, none⟩).getD undef, by simp, fun j v hj => ?_⟩
  rw [List.getElem?_map] at hj
  obtain ⟨i, hi, rfl⟩ := Option.map_eq_some_iff.1 hj
  obtain ⟨hl, rfl⟩ := List.getElem?_eq_some_iff.1 hi
  have h256 : j < 256 := by simpa using hl
  obtain ⟨x, -, hx⟩ := h.dm j h256
  simp [hx]
def SrcAt (w : World) (sb so : Nat) (l : List Nat) : Prop := ∀ i (h : i < l.length), l[i] ≤ 255 ∧ w.cell? ⟨sb, so + i, none⟩ = some (.int .u8 l[i])
structure QW (w : World) (d Ld : Nat) (wx : World) : Prop where
  dst : DstAt wx d Ld
  kept : Kept d w wx
  lt : d < w.heap.size
  sz : w.heap.size ≤ wx.heap.size
theorem QW.base {w wx : World} {d Ld : Nat} (hd : DstAt w d Ld) (hl : d < w.heap.size) (hk : Kept w.heap.size w wx) : QW w d Ld wx :=
  ⟨⟨fun i hi => by obtain ⟨v, hv⟩ := hd.cell i hi; exact ⟨v, hk.old' (Nat.le_refl _) hv⟩, fun i => by
    have h1 := hk.block d hl (Nat.ne_of_lt hl)
    have h2 := hd.free i
    simp only [World.frozen?, h1] at h2 ⊢
    exact h2⟩, ⟨hk.os, hk.tape, hk.output, hk.size, fun k hk' _ => hk.block k hk' (Nat.ne_of_lt hk')⟩, hl, hk.size⟩
theorem QW.drewN {w wx : World} {d Ld : Nat} (h : QW w d Ld wx) (n : Nat) : QW w d Ld (wx.drewN n) := ⟨h.dst.drewN n, h.kept.drewN n, h.lt, h.sz⟩
end Go.Proofs.YtaecbclonmhbcaaGreatDoor

namespace Go.Proofs.YtaecbclonmhbcaaGreatDoor
open Go.RowKit
def DI (L D n si : Nat) : Prop := si ≤ L ∧ n ≤ D ∧ (si = L ∨ ∃ k, n = 3 * k ∧ 4 * k ≤ si)
section
variable {L n si : Nat}
theorem DI.four (h : DI L (L / 4 * 3) n si) (hl : si + 4 ≤ L) : DI L (L / 4 * 3) (n + 3) (si + 4) := by
  obtain ⟨a, b, c⟩ := h
  rcases c with c | ⟨k, c1, c2⟩
  · omega
  · exact ⟨hl, by omega, .inr ⟨k + 1, by omega, by omega⟩⟩
end
structure DW (w wr : World) (e d D sb so : Nat) (src : List Nat) : Prop where
  enc : EncAt wr e
  dst : DstAt wr d D
  src : SrcAt wr sb so src
  kept : Kept d w wr
  lt : d < w.heap.size
  de : d ≠ e
  ds : d ≠ sb
theorem DW.step {w wr wx : World} {e d D sb so : Nat} {src : List Nat} (h : DW w wr e d D sb so src) (hw : Wrote d D wr wx) : DW w wx e d D sb so src :=
  ⟨h.enc.keep (hw.2.block e (World.block_lt_of_cell? wr _ h.enc.pad) (Ne.symm h.de)), hw.1, fun i hi => ⟨(h.src i hi).1, hw.2.cell (h.src i hi).2 (Ne.symm h.ds)⟩, h.kept.trans hw.2, h.lt, h.de, h.ds⟩
theorem DW.drewN {w wr : World} {e d D sb so : Nat} {src : List Nat} (h : DW w wr e d D sb so src) (n : Nat) : DW w (wr.drewN n) e d D sb so src :=
  ⟨⟨h.enc.dm, h.enc.pad, h.enc.strict⟩, h.dst.drewN n, h.src, h.kept.drewN n, h.lt, h.de, h.ds⟩
end Go.Proofs.YtaecbclonmhbcaaGreatDoor
