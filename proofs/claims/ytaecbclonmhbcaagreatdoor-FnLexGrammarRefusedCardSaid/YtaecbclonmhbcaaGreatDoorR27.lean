/- A lexer with several errors in memory: the row of its errors, what a call leaves as it was; addNonfatalError. -/
import Derived.Test.YtaecbclonmhbcaaGreatDoorR25
import Derived.Test.YtaecbclonmhbcaaGreatDoorR23
import Derived.Test.YtaecbclonmhbcaaGreatDoorR22
import Derived.WalkMore
import Derived.Test.YtaecbclonmhbcaaGreatDoorR17
set_option linter.unusedVariables false
set_option linter.unusedSimpArgs false
namespace Go.Proofs.YtaecbclonmhbcaaGreatDoor
open Go.RowKit
def Sur.both (ae : Sur) (v : Value) : Sur := ⟨ae.addr, fun j => ae.held j ∨ v.ownBlock = some j⟩
def ErrRow (w : World) (b : Nat) (vm : Value) (offs : List Nat) : Prop :=
  ∃ ks : List Nat, w.ownsRow (b + 1) 60 1 vm offs.length (ks.map fun k => .pointer (some ⟨k, 0, none⟩)) ∧
    ∀ j, j < offs.length → ks.getD j 0 ≠ b ∧ ∃ s t : ByteArray, w.heap[ks.getD j 0]? = some (.cells #[.string s, .int .i64 (offs.getD j 0 : Nat), .string t] 66 (0, 0))
structure MxAt (w : World) (b : Nat) (ae : Sur) (ao : Addr) (x : Lx) (vd vt ve vm : Value) : Prop where
  lx : LexAt w b (ae.both vm) ao x vd vt ve vm
  row : ErrRow w b vm x.errs
structure KeptM (b : Nat) (vm vm' : Value) (w w' : World) : Prop where
  os : w'.os = w.os
  tape : w'.tape = w.tape
  output : w'.output = w.output
  size : w.heap.size ≤ w'.heap.size
  block : ∀ k, k < w.heap.size → k ≠ b → vm.ownBlock ≠ some k → w'.heap[k]? = w.heap[k]?
  new : ∀ k, vm'.ownBlock = some k → k < w.heap.size → vm.ownBlock = some k
section
variable {b : Nat} {ae : Sur} {ao : Addr} {x x' : Lx} {vd vt ve vm vm' vm'' vt' ve' : Value} {u w w' : World}
theorem KeptM.refl (b : Nat) (vm : Value) (w : World) : KeptM b vm vm w w := ⟨rfl, rfl, rfl, Nat.le_refl _, fun _ _ _ _ => rfl, fun _ h _ => h⟩
theorem KeptM.of (k : Kept b w w') (vm : Value) : KeptM b vm vm w w' := ⟨k.os, k.tape, k.output, k.size, fun j hj hn _ => k.block j hj hn, fun _ h _ => h⟩
theorem KeptM.trans (h : KeptM b vm vm' u w) (k : KeptM b vm' vm'' w w') : KeptM b vm vm'' u w' :=
  ⟨k.os.trans h.os, k.tape.trans h.tape, k.output.trans h.output, Nat.le_trans h.size k.size,
    fun j hj hn hm => (k.block j (Nat.lt_of_lt_of_le hj h.size) hn (fun e => hm (h.new j e hj))).trans (h.block j hj hn hm),
    fun j e hj => h.new j (k.new j e (Nat.lt_of_lt_of_le hj h.size)) hj⟩
theorem KeptM.below (h : KeptM b vm vm' u w) (k : Below w.heap.size w w') : KeptM b vm vm' u w' := h.trans (.of (kept_below k b) vm')
theorem ErrRow.kept {offs : List Nat} (h : ErrRow w b vm offs) (k : Kept b w w') : ErrRow w' b vm offs := by
  obtain ⟨ks, hr, he⟩ := h
  refine ⟨ks, hr.kept (row := some b) ⟨k.os, k.tape, k.output, k.size, fun j hj hn => k.block j hj (fun e => hn (by rw [e]))⟩ ?_, fun j hj => ?_⟩
  · cases hv : vm.ownBlock with
    | none => exact .inl rfl
    | some g => exact .inr (fun e => by have := (hr.lt g hv).1; have := Option.some.inj e; omega)
  · obtain ⟨hne, s, t, hh⟩ := he j hj
    exact ⟨hne, s, t, k.heap hh hne⟩
theorem MxAt.kept (h : MxAt w b ae ao x vd vt ve vm) (k : Kept b w w') (g : LexAt w' b (ae.both vm) ao x' vd vt' ve' vm) (he : x'.errs = x.errs) : MxAt w' b ae ao x' vd vt' ve' vm :=
  ⟨g, by rw [he]; exact h.row.kept k⟩
theorem MxAt.new (h : MxAt w b ae ao x vd vt ve vm) (k : Below w.heap.size w w') : MxAt w' b ae ao x vd vt ve vm := h.kept (kept_below k b) (h.lx.belowNew k) rfl
theorem MxAt.drewN (h : MxAt w b ae ao x vd vt ve vm) (n : Nat) : MxAt (w.drewN n) b ae ao x vd vt ve vm := h.new (below_drewN w n)
theorem MxAt.alloc (h : MxAt w b ae ao x vd vt ve vm) (o : Obj) : MxAt (w.alloc o) b ae ao x vd vt ve vm := h.new (below_alloc w o)
theorem MxAt.form (h : MxAt w b ae ao x vd vt ve vm) : ∃ p c, vm = .slice p x.errs.length c := by
  obtain ⟨ks, hr, -⟩ := h.row
  rcases hr.2 with ⟨rfl, h0⟩ | ⟨g, c, cur, rfl, -⟩
  · rw [h0]; exact ⟨none, 0, rfl⟩
  · exact ⟨_, c, rfl⟩
theorem MxAt.last (h : MxAt w b ae ao x vd vt ve vm) (hn : 0 < x.errs.length) : ∃ (g c k : Nat) (s t : ByteArray), vm = .slice (some ⟨g, 0, none⟩) x.errs.length c ∧
    w.cell? ⟨g, x.errs.length - 1, none⟩ = some (.pointer (some ⟨k, 0, none⟩)) ∧ w.heap[k]? = some (.cells #[.string s, .int .i64 (x.errs.getD (x.errs.length - 1) 0 : Nat), .string t] 66 (0, 0)) := by
  obtain ⟨ks, hr, he⟩ := h.row
  obtain ⟨-, s, t, hh⟩ := he (x.errs.length - 1) (by omega)
  obtain ⟨g, c, hv⟩ : ∃ g c, vm = .slice (some ⟨g, 0, none⟩) x.errs.length c := by
    rcases hr.2 with ⟨-, h0⟩ | ⟨g, c, cur, hv, -⟩
    · omega
    · exact ⟨g, c, hv⟩
  subst hv
  have hl := hr.1
  simp only [List.length_map, Nat.mul_one] at hl
  refine ⟨g, c, ks.getD (x.errs.length - 1) 0, s, t, rfl, ?_, hh⟩
  rw [hr.cellAt (x.errs.length - 1) (by omega)]
  have : x.errs.length - 1 < ks.length := by omega
  simp [List.getD, this]
end
end Go.Proofs.YtaecbclonmhbcaaGreatDoor
