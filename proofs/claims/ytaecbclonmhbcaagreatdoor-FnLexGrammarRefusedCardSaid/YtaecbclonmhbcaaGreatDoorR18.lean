/- impl.kind, impl.one, and the lexer's Error, GetPos. knownLexer's number: strconv.ParseInt("12", 10, 64). impl.owned and impl.lexer. strconv.ParseFloat over bytes of numbers. Contract of unicode/utf8.EncodeRune: the library shelf laid at this program (written by the kit lay-plain tool). The reference's small functions: IsBlank, Blanks, literal, Digit, four, Half, escaped. The reference's Digit, Half, escaped, four, Rune. The listed tables in a world that holds them: those of floats, of strconv's printing, and strconv's two errors. -/
import Derived.Test.YtaecbclonmhbcaaGreatDoorR16
import Derived.LaidEql
import Derived.Stop.Asserts
import Derived.LoopN
import Derived.Test.YtaecbclonmhbcaaGreatDoorR14
import Derived.Lib.SlFresh
import Derived.OwnWalk
import Derived.Test.YtaecbclonmhbcaaGreatDoorR15
import Derived.Shelf.Pu.ToErrorRange
import Derived.Shelf.Pu.ParseUintPublic10
import Derived.Test.YtaecbclonmhbcaaGreatDoorProg
import Derived.Shelf.Lays7
import Derived.Shelf.Spec.EncodeRune
import Derived.Test.YtaecbclonmhbcaaGreatDoorR17
import Derived.Deep.LoopGhost
import Derived.Deep.CutBlock
import Derived.Deep.DeepCutAuto
import Derived.Lib.LaidPrint
import Derived.ChangeArms
import Derived.OpenShut
import Derived.Shelf.Strconv.Quote
import Derived.Shelf.Strconv.NumErrorText
import Derived.Shelf.Strconv.Itoa4
import Derived.PinnedBridge
import Derived.Lib.LaidTab
import Derived.Stop.LaidErr
import Derived.Shelf.Unicode.PredsPay
set_option linter.unusedVariables false
set_option linter.unusedSimpArgs false
namespace Go.Proofs.YtaecbclonmhbcaaGreatDoor
open Go.RowKit
section
variable {w : World} {b : Nat} {ae : Sur} {ao : Addr} {x : Lx} {vd vt ve vm : Value}
set_option maxHeartbeats 400000 in
theorem error_any (h : LexAt w b ae ao x vd vt ve vm) :
    Calls Tryz.prog 28 #[.pointer (some ⟨b, 0, none⟩)] w fun e w' => e = .returned ve ∧ w = w' := by
  have c11 := h.c11
  clear h
  go_enter Tryz.func28, Tryz.ntmps28
  go_wp2
  go_ret
  exact ⟨rfl, rfl⟩
set_option maxHeartbeats 400000 in
theorem getPos_any (h : LexAt w b ae ao x vd vt ve vm) :
    Calls Tryz.prog 34 #[.pointer (some ⟨b, 0, none⟩)] w fun e w' => e = .returned (.int .i64 x.pos) ∧ w = w' := by
  have c2 := h.c2
  clear h
  go_enter Tryz.func34, Tryz.ntmps34
  go_wp2
  go_ret
  exact ⟨rfl, rfl⟩
set_option maxHeartbeats 400000 in
theorem kind_nil (w : World) :
    Calls Tryz.prog 35 #[.nilIface] w fun e w' => e = .returned (.int .i64 0) ∧ w = w' := by
  go_enter Tryz.func35, Tryz.ntmps35
  go_wp2
  go_ret
  exact ⟨rfl, rfl⟩
theorem und191 : ∃ i j, Tryz.prog.info? 191 = some i ∧ i.comparable = true ∧ Tryz.prog.info? 193 = some j ∧ j.size ≠ 0 := by
  have hc : (Tryz.prog.info? 191).map (·.comparable) = some true := by kernel_rfl
  have hs : (Tryz.prog.info? 193).map (fun j => decide (j.size ≠ 0)) = some true := by kernel_rfl
  obtain ⟨i, hi, hcmp⟩ := Option.map_eq_some_iff.1 hc
  obtain ⟨j, hj, hjs⟩ := Option.map_eq_some_iff.1 hs
  exact ⟨i, j, hi, hcmp, hj, of_decide_eq_true hjs⟩
set_option maxHeartbeats 400000 in
theorem kind_lex (w : World) (v : Value) (he : Env w ae ao) :
    Calls Tryz.prog 35 #[.iface 60 v] w fun e w' => e = .returned (.int .i64 2) ∧ w = w' := by
  have e1 := he.eof
  clear he
  have q1 := run_eql_iface_types (P := Tryz.prog) 60 191 v (.pointer (some ae.addr)) Tryz.underlying63 (by decide) w
  go_enter Tryz.func35, Tryz.ntmps35
  go_wp2
  go_ret
  exact ⟨rfl, rfl⟩
set_option maxHeartbeats 400000 in
theorem kind_eof (w : World) (he : Env w ae ao) :
    Calls Tryz.prog 35 #[.iface 191 (.pointer (some ae.addr))] w fun e w' => e = .returned (.int .i64 1) ∧ w = w' := by
  have e1 := he.eof
  clear he
  obtain ⟨i, j, hi, hcmp, hj, hz⟩ := und191
  have q1 := run_eql_iface_ptr_same (P := Tryz.prog) w ae.addr Tryz.underlying63 Tryz.underlying191 hi hcmp hj
  go_enter Tryz.func35, Tryz.ntmps35
  go_wp2
  go_ret
  exact ⟨rfl, rfl⟩
set_option maxHeartbeats 400000 in
theorem kind_other (w : World) (he : Env w ae ao) {ca cb : Array Value} {ta tb : TypeId} (ha : w.heap[ao.block]? = some (.cells ca ta (0, 0))) (hb : w.heap[ae.addr.block]? = some (.cells cb tb (0, 0))) :
    Calls Tryz.prog 35 #[.iface 191 (.pointer (some ao))] w fun e w' => e = .returned (.int .i64 2) ∧ w = w' := by
  have e1 := he.eof
  have hne := he.ne
  clear he
  obtain ⟨i, j, hi, hcmp, hj, hz⟩ := und191
  have q1 := run_eql_iface_ptr_other (P := Tryz.prog) w Tryz.underlying63 Tryz.underlying191 hi hcmp hj hz (Ne.symm hne) ha hb
  go_enter Tryz.func35, Tryz.ntmps35
  go_wp2
  go_ret
  exact ⟨rfl, rfl⟩
end
end Go.Proofs.YtaecbclonmhbcaaGreatDoor

namespace Go.Proofs.YtaecbclonmhbcaaGreatDoor
open Go.RowKit
set_option maxHeartbeats 4000000 in
set_option maxRecDepth 100000 in
theorem puint_12 (w : World) :
    Calls Tryz.prog 142 #[.string ⟨#[49, 50]⟩, .int .i64 10, .int .i64 64] w fun e w' => e = .returned (.tuple #[.int .u64 12, .nilIface]) ∧ w.grownBy w' none := by
  have hcv := run_bytes_of_string (P := Tryz.prog) w 9 22 5 ⟨#[49, 50]⟩ Tryz.underlying9 Tryz.underlying22 Tryz.underlying5
  have hge := grownCap_ge w (ByteArray.mk #[49, 50]).size 0 5
  generalize grownCap w (ByteArray.mk #[49, 50]).size 0 5 = cp at hcv hge
  have k0 : (w.drew.alloc (.cells (bytesRow ⟨#[49, 50]⟩ cp) 5 ((bytesRow ⟨#[49, 50]⟩ cp).size, (bytesRow ⟨#[49, 50]⟩ cp).size + 1))).cell? ⟨w.heap.size, 0, none⟩ = some (.int .u8 49) := cell_of_heap (heap_alloc_new w.drew _) 0 (bytesRow_at _ _ 0 (by decide))
  have k1 : (w.drew.alloc (.cells (bytesRow ⟨#[49, 50]⟩ cp) 5 ((bytesRow ⟨#[49, 50]⟩ cp).size, (bytesRow ⟨#[49, 50]⟩ cp).size + 1))).cell? ⟨w.heap.size, 1, none⟩ = some (.int .u8 50) := cell_of_heap (heap_alloc_new w.drew _) 1 (bytesRow_at _ _ 1 (by decide))
  have hg : w.grownBy (w.drew.alloc (.cells (bytesRow ⟨#[49, 50]⟩ cp) 5 ((bytesRow ⟨#[49, 50]⟩ cp).size, (bytesRow ⟨#[49, 50]⟩ cp).size + 1))) none := ⟨rfl, rfl, rfl, by simp, fun k hk _ => heap_alloc_lt (w := w.drew) hk⟩
  generalize w.drew.alloc (.cells (bytesRow ⟨#[49, 50]⟩ cp) 5 ((bytesRow ⟨#[49, 50]⟩ cp).size, (bytesRow ⟨#[49, 50]⟩ cp).size + 1)) = w1 at hcv k0 k1 hg
  have HG := Lib.hid hg
  clear hg
  go_enter Tryz.func142, Tryz.ntmps142
  go_wp2
  refine wp_loop_rounds 3 ?_
  rw [rounds_succ]
  go_wp2
  rw [rounds_succ]
  go_wp2
  rw [rounds_succ]
  go_wp2
  go_ret2
  exact ⟨rfl, HG.out⟩
set_option maxHeartbeats 4000000 in
set_option maxRecDepth 100000 in
theorem pint_12 (w : World) :
    Calls Tryz.prog 143 #[.string ⟨#[49, 50]⟩, .int .i64 10, .int .i64 64] w fun e w' => e = .returned (.tuple #[.int .i64 12, .nilIface]) ∧ w.grownBy w' none := by
  go_enter Tryz.func143, Tryz.ntmps143
  go_wp2_with (go_at_call 142; refine (puint_12 _).mono ?_; rintro e w1 ⟨rfl, hg⟩)
  go_ret2
  exact ⟨rfl, hg⟩
set_option maxHeartbeats 4000000 in
set_option maxRecDepth 100000 in
theorem parseInt_12 (w : World) :
    Calls Tryz.prog 116 #[.string ⟨#[49, 50]⟩, .int .i64 10, .int .i64 64] w fun e w' => e = .returned (.tuple #[.int .i64 12, .nilIface]) ∧ w.grownBy w' none := by
  go_enter Tryz.func116, Tryz.ntmps116
  go_wp2_with (go_at_call 143; refine (pint_12 _).mono ?_; rintro e w1 ⟨rfl, hg⟩)
  go_ret2
  exact ⟨rfl, hg⟩
end Go.Proofs.YtaecbclonmhbcaaGreatDoor

namespace Go.Proofs.YtaecbclonmhbcaaGreatDoor
open Go.RowKit
def FreshAt (w w' : World) (v' : Value) (l : List Int) : Prop :=
  w.grownBy w' none ∧ ∀ A : Nat → Prop, (∀ k, A k → k < w.heap.size) → BytesAt w' A v' l
set_option maxHeartbeats 400000 in
theorem owned_any {w : World} {A : Nat → Prop} {v : Value} {l : List Int} (h : BytesAt w A v l) (hl : l.length ≤ 140737488355328) :
    Calls Tryz.prog 36 #[v] w fun e w' => ∃ v', e = .returned v' ∧ FreshAt w w' v' l := by
  obtain ⟨i, hi, hzz⟩ := Option.map_eq_some_iff.1 info5
  simp only [Prod.mk.injEq] at hzz
  obtain ⟨hz, hsz, hby⟩ := hzz
  rcases h with ⟨rfl, rfl⟩ | ⟨bd, o, cap, rfl, hc, hn, hx⟩
  · have hr := run_append_owned_none (P := Tryz.prog) w 0 22 22 5 i 1 Tryz.underlying22 hi (.slice none 0 0) 0 [] (World.ownsRow_nil w 0 5 1)
    go_enter Tryz.func36, Tryz.ntmps36
    go_wp2_with (at_builtin; refine Lib.wpList_append_run_sl _ rfl _ _ 22 rfl _ _ rfl rfl hr ?_)
    go_ret
    exact ⟨_, rfl, ⟨rfl, rfl, rfl, Nat.le_refl _, fun _ _ _ => rfl⟩, fun _ _ => .inl ⟨rfl, rfl⟩⟩
  · by_cases h0 : l.length = 0
    · have hl0 : l = [] := List.eq_nil_of_length_eq_zero h0
      subst hl0
      have hr : (Builtin.append_ #[22, 22] 22 #[.slice none 0 0, .slice (some ⟨bd, o, none⟩) 0 cap]).run Tryz.prog w = .ok (.slice none 0 0) w := by
        simp [Builtin.append_, run_underlying Tryz.underlying22, sizeOf, typeInfo, hi, Builtin.lenOf, Builtin.firstCells, loadCells, loadCellsFrom]
      clear hx
      go_enter Tryz.func36, Tryz.ntmps36
      go_wp2_with (at_builtin; refine Lib.wpList_append_run_sl _ rfl _ _ 22 rfl _ _ rfl rfl hr ?_)
      go_ret
      exact ⟨_, rfl, ⟨rfl, rfl, rfl, Nat.le_refl _, fun _ _ _ => rfl⟩, fun _ _ => .inl ⟨rfl, rfl⟩⟩
    · have hr := run_append_nil (P := Tryz.prog) w 22 22 5 i (.int .u8 0) Tryz.underlying22 hi hz ⟨bd, o, none⟩ l.length cap (l.map (Value.int .u8)) (by rw [List.length_map, hsz, Nat.mul_one])
        (fun j u hj => by
          rw [List.getElem?_map] at hj
          obtain ⟨y, hy, rfl⟩ := Option.map_eq_some_iff.1 hj
          have hjl := (List.getElem?_eq_some_iff.1 hy).1
          have := hx j hjl
          rw [show l.getD j 0 = y by simp [List.getD, hy]] at this
          rw [← this, show (⟨bd, o, none⟩ : Addr).add j = ⟨bd, o + j, none⟩ by unfold Addr.add; split <;> simp_all])
        (by omega) (by omega) (by rw [hby]; omega)
      have hge := grownCap_ge w l.length 0 5
      generalize grownCap w l.length 0 5 = cp at hr hge
      clear hx
      go_enter Tryz.func36, Tryz.ntmps36
      go_wp2_with (at_builtin; refine Lib.wpList_append_run_sl _ rfl _ _ 22 rfl _ _ rfl rfl hr ?_)
      go_ret
      refine ⟨_, rfl, ⟨rfl, rfl, rfl, by simp, fun k hk _ => heap_alloc_lt (w := w.drew) hk⟩, fun A' hA => .inr ⟨w.heap.size, 0, cp, rfl, hge, ⟨fun a => by have := hA _ a; omega, by simp⟩, fun j hj => ?_⟩⟩
      rw [Nat.zero_add]
      refine cell_of_heap (heap_alloc_new w.drew _) j ?_
      have h1 : j < (l.map (Value.int IntKind.u8)).length := by simpa using hj
      rw [Array.getElem?_append_left (by simpa using h1)]
      simp [List.getD, hj]
theorem BytesAt.isSlice {w : World} {A : Nat → Prop} {v : Value} {l : List Int} (h : BytesAt w A v l) : ∃ p c, v = .slice p l.length c := by
  rcases h with ⟨rfl, rfl⟩ | ⟨b, o, c, rfl, -⟩
  · exact ⟨none, 0, rfl⟩
  · exact ⟨_, c, rfl⟩
theorem FreshAt.isSlice {w w' : World} {v' : Value} {l : List Int} (h : FreshAt w w' v' l) : ∃ p c, v' = .slice p l.length c := (h.2 (fun _ => False) (fun _ a => a.elim)).isSlice
theorem BytesAt.grown {w w' : World} {A : Nat → Prop} {v : Value} {l : List Int} {r : Option Nat} (h : BytesAt w A v l) (hg : w.grownBy w' r) (hr : ∀ k, r = some k → A k) : BytesAt w' A v l := by
  rcases h with h | ⟨b, o, cap, hv, hc, hn, hx⟩
  · exact .inl h
  · exact .inr ⟨b, o, cap, hv, hc, ⟨hn.1, Nat.lt_of_lt_of_le hn.2 hg.size⟩, fun i hi => hg.cell (hx i hi) fun e => hn.1 (hr _ e.symm)⟩
theorem BytesAt.other {w : World} {A A' : Nat → Prop} {v : Value} {l : List Int} (h : BytesAt w A v l) (hA : ∀ k, k < w.heap.size → A' k → A k) : BytesAt w A' v l := by
  rcases h with h | ⟨b, o, cap, hv, hc, hn, hx⟩
  · exact .inl h
  · exact .inr ⟨b, o, cap, hv, hc, ⟨fun a => hn.1 (hA _ hn.2 a), hn.2⟩, hx⟩
def Lx.begin (l : List Int) (m : Bool) : Lx := { d := l, start := 0, pos := 0, kind := 0, bv := false, cl := false, tok := [], delim := 0, fst := false, sep := 0, multi := m, err := .nil, errs := [] }
theorem Env.grown {w w' : World} {ae : Sur} {ao : Addr} {r : Option Nat} (h : Env w ae ao) (hg : w.grownBy w' r) (h0 : r ≠ some 0) (h1 : r ≠ some 1) : Env w' ae ao :=
  ⟨hg.cell h.eof (Ne.symm h1), hg.cell h.other (Ne.symm h0), h.ne⟩
set_option maxHeartbeats 400000 in
theorem lexer_any {w : World} {A : Nat → Prop} {v : Value} {l : List Int} {ae : Sur} {ao : Addr} (h : BytesAt w A v l) (hl : l.length ≤ 140737488355328) (he : Env w ae ao) (hh : ∀ k, ae.held k → k < w.heap.size) (h2 : 1 < w.heap.size) (m : Bool) :
    Calls Tryz.prog 25 #[v, .bool m] w fun e w' => ∃ b vd, e = .returned (.pointer (some ⟨b, 0, none⟩)) ∧ w.heap.size ≤ b ∧ w.grownBy w' none ∧ LexAt w' b ae ao (Lx.begin l m) vd (.slice none 0 0) .nilIface (.slice none 0 0) := by
  go_enter Tryz.func25, Tryz.ntmps25
  go_wp2_with (go_at_call 36; refine (owned_any h hl).mono ?_; rintro e w1 ⟨v1, rfl, hgb⟩; obtain ⟨p1, c1, rfl⟩ := hgb.isSlice; obtain ⟨hg, hb⟩ := hgb)
  go_ret
  refine ⟨_, .slice p1 l.length c1, rfl, hg.size, ⟨hg.os, hg.tape, hg.output, Nat.le_trans hg.size (by simp), fun k hk hn => (heap_alloc_lt (Nat.lt_of_lt_of_le hk hg.size)).trans (hg.block k hk hn)⟩, ?_⟩
  have hga : w1.grownBy (w1.alloc (.cells (lxCells (.slice p1 l.length c1) (Lx.begin l m) (.slice none 0 0) .nilIface (.slice none 0 0)) 83)) none := World.grownBy_alloc w1 _ none
  have hs := hg.size
  refine ⟨heap_alloc_new w1 _, ?_, .inl ⟨rfl, rfl⟩, rfl, (he.grown hg (by simp) (by simp)).grown hga (by simp) (by simp), by omega, fun k hk => ?_⟩
  · refine BytesAt.grown (BytesAt.other (hb (fun k => ae.held k ∧ k < w.heap.size) fun k a => a.2) ?_) hga (by simp)
    rintro k hk (rfl | a)
    · omega
    · exact ⟨a, hh k a⟩
  · have := hh k hk; have := hga.size; exact Nat.lt_of_lt_of_le (by omega) this
section
variable {w w' : World} {b : Nat} {ae : Sur} {ao : Addr} {x : Lx} {vd vt ve vm : Value}
theorem LexAt.grown {r : Option Nat} (h : LexAt w b ae ao x vd vt ve vm) (hg : w.grownBy w' r) (hr : ∀ k, r = some k → ae.held k ∧ k ≠ b ∧ 1 < k) : LexAt w' b ae ao x vd vt ve vm := by
  have hA : ∀ k, r = some k → ae.off b k := fun k e => .inr (hr k e).1
  refine ⟨?_, h.data.grown hg hA, h.tok.grown hg hA, ?_, h.env.grown hg ?_ ?_, h.b2, fun k a => Nat.lt_of_lt_of_le (h.held k a) hg.size⟩
  · rw [hg.block b h.lt (fun e => (hr b e.symm).2.1 rfl)]; exact h.heap
  · have he := h.err
    cases hx : x.err <;> rw [hx] at he <;> simp only [ErrAt] at he ⊢ <;> try exact he
    obtain ⟨k, s, t, hv, hn, hh⟩ := he
    exact ⟨k, s, t, hv, hn, by rw [hg.block k (lt_heap hh) (fun e => hn (hA k e.symm))]; exact hh⟩
  · intro e; have := (hr 0 e).2.2; omega
  · intro e; have := (hr 1 e).2.2; omega
end
end Go.Proofs.YtaecbclonmhbcaaGreatDoor

namespace Go.Proofs.YtaecbclonmhbcaaGreatDoor
open Go.RowKit
theorem Kept.of_below {B : Nat} {u v : World} (h : Below B u v) (hB : B = u.heap.size) : Kept B u v := by
  subst hB
  exact ⟨h.os, h.tape, h.output, h.size, fun k hk _ => h.block k hk⟩
end Go.Proofs.YtaecbclonmhbcaaGreatDoor

namespace Go.Proofs.YtaecbclonmhbcaaGreatDoor
open Go.Shelf
def sh_lays7n30_ren : Go.Shelf.Ren := ⟨fun | 30 => 134 | 47 => 159 | n => n, fun | 30 => 22 | 21 => 21 | 3 => 3 | 27 => 102 | 4 => 4 | 5 => 5 | 0 => 0 | 25 => 105 | n => n, fun | n => n⟩
theorem sh_lays7n30 : Go.Proofs.Lays7.n30 Tryz.prog sh_lays7n30_ren := {
  mixed := by kernel_rfl
  f30 := Tryz.func134.trans (congrArg some (by kernel_rfl))
  f47 := Tryz.func159.trans (congrArg some (by kernel_rfl))
  t0 := Tryz.underlying0
  a0 := Tryz.isAgg0
  z0 := Tryz.sizeOf0
  v0 := Tryz.zeroValue0
  i0 := by kernel_rfl
  t3 := Tryz.underlying3
  a3 := Tryz.isAgg3
  z3 := Tryz.sizeOf3
  v3 := Tryz.zeroValue3
  i3 := by kernel_rfl
  t4 := Tryz.underlying4
  a4 := Tryz.isAgg4
  z4 := Tryz.sizeOf4
  v4 := Tryz.zeroValue4
  i4 := by kernel_rfl
  t5 := Tryz.underlying5
  a5 := Tryz.isAgg5
  z5 := Tryz.sizeOf5
  v5 := Tryz.zeroValue5
  i5 := by kernel_rfl
  t21 := Tryz.underlying21
  a21 := Tryz.isAgg21
  z21 := Tryz.sizeOf21
  v21 := Tryz.zeroValue21
  i21 := by kernel_rfl
  t25 := Tryz.underlying105
  a25 := Tryz.isAgg105
  z25 := Tryz.sizeOf105
  v25 := Tryz.zeroValue105
  i25 := by kernel_rfl
  t27 := Tryz.underlying102
  a27 := Tryz.isAgg102
  z27 := Tryz.sizeOf102
  v27 := Tryz.zeroValue102
  i27 := by kernel_rfl
  t30 := Tryz.underlying22
  a30 := Tryz.isAgg22
  z30 := Tryz.sizeOf22
  v30 := Tryz.zeroValue22
  i30 := by kernel_rfl }
theorem sh_utf8_EncodeRune (b off len cap : Nat) (r : Int) (hlo : -2147483648 ≤ r) (hhi : r ≤ 2147483647) (w : World) (hl : (Lib.runeCells r).length ≤ len)
    (hc : ∀ j, j < (Lib.runeCells r).length → (w.cell? ⟨b, off + j, none⟩).isSome = true) (hf : ∀ j, j < (Lib.runeCells r).length → w.frozen? ⟨b, off + j, none⟩ = false) :
    Calls Tryz.prog 134 #[.slice (some ⟨b, off, none⟩) len cap, .int .i32 r] w fun e w' => e = .returned (.int .i64 (Lib.runeCells r).length) ∧ w' = w.setCells b off (Lib.runeCells r) :=
  Any7.utf8_EncodeRune sh_lays7n30 b off len cap r hlo hhi w hl hc hf
end Go.Proofs.YtaecbclonmhbcaaGreatDoor

namespace Go.Proofs.YtaecbclonmhbcaaGreatDoor
open Go.RowKit
def Bs (w : World) (p : Option Addr) (d : List Int) : Prop := 0 < d.length → ∃ bd o, p = some ⟨bd, o, none⟩ ∧ bd < w.heap.size ∧ ∀ i, i < d.length → w.cell? ⟨bd, o + i, none⟩ = some (.int .u8 (d.getD i 0))
theorem Bs.below {w w' : World} {p : Option Addr} {d : List Int} (h : Bs w p d) (k : Below w.heap.size w w') : Bs w' p d := fun h0 => by
  obtain ⟨bd, o, h1, h2, h3⟩ := h h0
  exact ⟨bd, o, h1, Nat.lt_of_lt_of_le h2 k.size, fun i hi => (k.cell (p := ⟨bd, o + i, none⟩) h2).trans (h3 i hi)⟩
theorem Bs.of_arg {w : World} {p : Option Addr} {n c : Nat} {l : List Int} (h : BytesArg w (.slice p n c) l) : Bs w p l := fun h0 => by
  rcases h with ⟨rfl, -⟩ | ⟨rfl, -⟩ | ⟨b, o, cap, hv, -, hn, hx⟩
  · simp at h0
  · simp at h0
  · cases hv
    exact ⟨b, o, rfl, hn.2, hx⟩
set_option maxHeartbeats 1000000 in
theorem isBlank_any (c : Int) (w : World) : Calls Tryz.prog 100 #[.int .u8 c] w fun e w' => e = .returned (.bool (isBl c)) ∧ w = w' := by
  by_cases h1 : c = 32
  · subst h1; go_enter Tryz.func100, Tryz.ntmps100; go_wp2; go_ret; exact ⟨rfl, rfl⟩
  by_cases h2 : c = 9
  · subst h2; go_enter Tryz.func100, Tryz.ntmps100; go_wp2; go_ret; exact ⟨rfl, rfl⟩
  by_cases h3 : c = 10
  · subst h3; go_enter Tryz.func100, Tryz.ntmps100; go_wp2; go_ret; exact ⟨rfl, rfl⟩
  by_cases h4 : c = 13
  · subst h4; go_enter Tryz.func100, Tryz.ntmps100; go_wp2; go_ret; exact ⟨rfl, rfl⟩
  have n1 : (c == 32) = false := beq_eq_false_iff_ne.2 h1
  have n2 : (c == 9) = false := beq_eq_false_iff_ne.2 h2
  have n3 : (c == 10) = false := beq_eq_false_iff_ne.2 h3
  have n4 : (c == 13) = false := beq_eq_false_iff_ne.2 h4
  have hb : isBl c = false := by unfold isBl; rw [n1, n2, n3, n4]; rfl
  have HB := Lib.hid hb
  clear h1 h2 h3 h4 hb
  go_enter Tryz.func100, Tryz.ntmps100
  go_wp2
  go_ret
  rw [HB.out]
  exact ⟨rfl, rfl⟩
theorem Bl.snoc {d : List Int} {p q : Nat} (h : Bl d p q) (hq : q < d.length) (hb : isBl (d.getD q 0) = true) : Bl d p (q + 1) := by
  refine ⟨by have := h.1; omega, hq, fun i a b => ?_⟩
  by_cases e : i = q
  · rw [e]; exact hb
  · exact h.2.2 i a (by omega)
def BlTo (d : List Int) (p q : Nat) : Prop := Bl d p q ∧ (q < d.length → isBl (d.getD q 0) = false)
theorem BlTo.eq {d : List Int} {p q r : Nat} (h : BlTo d p q) (k : Bl d p r) (hr : r < d.length → isBl (d.getD r 0) = false) : q = r := by
  rcases Nat.lt_trichotomy q r with a | a | a
  · have := k.2.2 q h.1.1 a
    have h2 := k.2.1
    rw [h.2 (by omega)] at this; cases this
  · exact a
  · have := h.1.2.2 r k.1 a
    have h2 := h.1.2.1
    rw [hr (by omega)] at this; cases this
set_option maxHeartbeats 2000000 in
set_option maxRecDepth 100000 in
theorem blanks_any {p : Option Addr} {cap at' : Nat} {d : List Int} {w : World} (hd : Bs w p d) (hl : d.length ≤ 100000) (ha : at' ≤ d.length) :
    Calls Tryz.prog 42 #[.slice p d.length cap, .int .i64 at'] w fun e w' => ∃ r : Nat, e = .returned (.int .i64 r) ∧ BlTo d at' r ∧ w = w' := by
  have HD := Lib.hid hd
  clear hd
  go_enter Tryz.func42, Tryz.ntmps42
  go_wp2
  go_loop [1] (fun a => ∃ k : Nat, a = .int .i64 k ∧ Bl d at' k) (fun a => d.length - (intOf a).toNat)
  case atStart => exact ⟨at', rfl, Bl.refl ha⟩
  case round =>
    obtain ⟨k, rfl, hb⟩ := hrel
    have hk := hb.2.1
    have HBL := Lib.hid hb
    clear hb
    by_cases hlt : k < d.length
    case neg =>
      obtain rfl : k = d.length := by omega
      have hge : ¬ ((d.length : Int) < (d.length : Int)) := by omega
      go_wp2
      go_ret
      exact ⟨_, rfl, ⟨HBL.out, fun h => absurd h (Nat.lt_irrefl _)⟩, rfl⟩
    case pos =>
      obtain ⟨bd, o, rfl, hbd, hc⟩ := HD.out (by omega)
      have q0 := hc k hlt
      obtain ⟨c, hcc⟩ : ∃ c, d.getD k 0 = c := ⟨_, rfl⟩
      rw [hcc] at q0
      have HCC := Lib.hid hcc
      have hlt' : (k : Int) < (d.length : Int) := by omega
      clear hc hcc
      cases hbl : isBl c with
      | true =>
        have HX := Lib.hid (HBL.out.snoc hlt (by rw [HCC.out]; exact hbl))
        go_wp2_with (go_at_call 100; refine (isBlank_any c _).mono ?_; rintro e w1 ⟨rfl, rfl⟩; rw [hbl])
        go_round
        case rel => exact ⟨k + 1, by go_num, HX.out⟩
        case measure => simp [intOf]; omega
      | false =>
        go_wp2_with (go_at_call 100; refine (isBlank_any c _).mono ?_; rintro e w1 ⟨rfl, rfl⟩; rw [hbl])
        go_ret
        exact ⟨_, rfl, ⟨HBL.out, fun _ => by rw [HCC.out]; exact hbl⟩, rfl⟩
def LitQ (d : List Int) (at' : Nat) (s : ByteArray) (w : World) (e : Ending) (w' : World) : Prop :=
  ∃ (q : Nat) (t : Bool), e = .returned (.tuple #[.int .i64 q, .bool t]) ∧ at' ≤ q ∧ q ≤ d.length ∧ (t = true → q = at' + s.size) ∧ ((∀ i (h : i < s.size), at' + i < d.length ∧ d.getD (at' + i) 0 = (s[i].toNat : Int)) → t = true) ∧ Kept w.heap.size w w'
set_option maxHeartbeats 4000000 in
set_option maxRecDepth 100000 in
theorem literal_any {p : Option Addr} {cap at' : Nat} {d : List Int} {w : World} (s : ByteArray) (hd : Bs w p d) (hl : d.length ≤ 100000) (ha : at' ≤ d.length) (hs : s.size ≤ 10) :
    Calls Tryz.prog 95 #[.slice p d.length cap, .int .i64 at', .string s] w (LitQ d at' s w) := by
  have HD := Lib.hid hd
  clear hd
  go_enter Tryz.func95, Tryz.ntmps95
  go_wp2
  go_loopg [8] s.size (fun g v wr => ∃ k : Nat, g + k = s.size ∧ v = .int .i64 k ∧ at' + k ≤ d.length ∧ (∃ n, wr = w.drewN n))
  case atStart => exact ⟨0, rfl, rfl, ha, 0, rfl⟩
  case round =>
    obtain ⟨k, hg, rfl, hk, nn, rfl⟩ := hrel
    have HK : Hid (∀ n, Kept w.heap.size w (w.drewN n)) := fun n => (Kept.refl _ w).drewN n
    by_cases hks : k < s.size
    case neg =>
      have hks' : ¬ ((k : Int) < (s.size : Int)) := by omega
      have hke : k = s.size := by omega
      have HK0 := Lib.hid ((Kept.refl w.heap.size w).drewN nn)
      go_wp2
      go_ret2
      subst hke
      exact ⟨at' + s.size, true, rfl, by omega, hk, fun _ => rfl, fun _ => rfl, HK0.out⟩
    case pos =>
      have hks' : (k : Int) < (s.size : Int) := by omega
      obtain ⟨wc, hwc⟩ : ∃ wc, (s[k].toNat : Int) = wc := ⟨_, rfl⟩
      have HWC := Lib.hid hwc
      by_cases hlt : at' + k < d.length
      case neg =>
        have hge : (d.length : Int) ≤ (at' : Int) + (k : Int) := by omega
        have hgd : decide ((d.length : Int) ≤ (at' : Int) + (k : Int)) = true := decide_eq_true hge
        have hgd2 : decide (d.length ≤ at' + k) = true := decide_eq_true (by omega)
        go_wp2
        go_quiet (fail)
        go_wp2
        go_ret2
        exact ⟨at' + k, false, rfl, by omega, hk, fun h => by (cases h), fun h => absurd (h k hks).1 hlt, HK.out _⟩
      case pos =>
        obtain ⟨bd, o, rfl, hbd, hc⟩ := HD.out (by omega)
        have q0 := hc (at' + k) hlt
        obtain ⟨c, hcc⟩ : ∃ c, d.getD (at' + k) 0 = c := ⟨_, rfl⟩
        rw [hcc] at q0
        have HCC := Lib.hid hcc
        have hge : ¬ (d.length : Int) ≤ (at' : Int) + (k : Int) := by omega
        have hgd : decide ((d.length : Int) ≤ (at' : Int) + (k : Int)) = false := decide_eq_false hge
        have hgd2 : decide (d.length ≤ at' + k) = false := decide_eq_false (by omega)
        clear hc hcc
        by_cases he : c = wc
        · have e1 : (c == wc) = true := by simp [he]
          have e2 : (c != wc) = false := by simp [he]
          have hks2 : k + 1 ≤ s.size := hks
          clear he
          go_wp2
          go_quiet (fail)
          go_wp2
          go_roundg (gk - 1)
          case measure => omega
          case rel => exact ⟨k + 1, by omega, by go_num, by omega, _, rfl⟩
        · have e1 : (c == wc) = false := beq_eq_false_iff_ne.2 he
          have e2 : (c != wc) = true := bne_iff_ne.2 he
          have HE := Lib.hid he
          clear he
          go_wp2
          go_quiet (fail)
          go_wp2
          go_ret2
          exact ⟨at' + k, false, rfl, by omega, hk, fun h => by (cases h), fun h => absurd ((HCC.out.symm.trans (h k hks).2).trans HWC.out) HE.out, HK.out _⟩
end Go.Proofs.YtaecbclonmhbcaaGreatDoor

namespace Go.Proofs.YtaecbclonmhbcaaGreatDoor
open Go.RowKit
set_option maxHeartbeats 1000000 in
theorem digit_any (c : Int) (h0 : 0 ≤ c) (h1 : c ≤ 255) (w : World) : Calls Tryz.prog 102 #[.int .u8 c] w fun e w' => e = .returned (.int .i64 (hexV c)) ∧ w = w' := by
  by_cases a1 : 48 ≤ c
  · by_cases a2 : c ≤ 57
    · have e : hexV c = c - 48 := by unfold hexV; rw [if_pos ⟨a1, a2⟩]
      have w1 : IntKind.u8.wrap (c - 48) = c - 48 := IntWalk.u8_in _ (by omega)
      have w2 : IntKind.i64.wrap (c - 48) = c - 48 := IntWalk.i64_in _ (by omega)
      rw [e]
      go_enter Tryz.func102, Tryz.ntmps102
      go_wp2
      go_ret
      exact ⟨rfl, rfl⟩
    · by_cases a3 : 97 ≤ c
      · by_cases a4 : c ≤ 102
        · have e : hexV c = c - 87 := by unfold hexV; rw [if_neg (by omega), if_pos ⟨a3, a4⟩]
          have w1 : IntKind.u8.wrap (c - 97) = c - 97 := IntWalk.u8_in _ (by omega)
          have w2 : IntKind.i64.wrap (c - 97) = c - 97 := IntWalk.i64_in _ (by omega)
          have w3 : IntKind.i64.wrap (c - 97 + 10) = c - 87 := by rw [IntWalk.i64_in _ (by omega)]; omega
          rw [e]
          go_enter Tryz.func102, Tryz.ntmps102
          go_wp2
          go_ret
          exact ⟨rfl, rfl⟩
        · have e : hexV c = -1 := by unfold hexV; rw [if_neg (by omega), if_neg (by omega), if_neg (by omega)]
          have a5 : (65 : Int) ≤ c := by omega
          have a6 : ¬ c ≤ 70 := by omega
          rw [e]
          go_enter Tryz.func102, Tryz.ntmps102
          go_wp2
          go_ret
          exact ⟨rfl, rfl⟩
      · by_cases a5 : 65 ≤ c
        · by_cases a6 : c ≤ 70
          · have e : hexV c = c - 55 := by unfold hexV; rw [if_neg (by omega), if_neg (by omega), if_pos ⟨a5, a6⟩]
            have w1 : IntKind.u8.wrap (c - 65) = c - 65 := IntWalk.u8_in _ (by omega)
            have w2 : IntKind.i64.wrap (c - 65) = c - 65 := IntWalk.i64_in _ (by omega)
            have w3 : IntKind.i64.wrap (c - 65 + 10) = c - 55 := by rw [IntWalk.i64_in _ (by omega)]; omega
            rw [e]
            go_enter Tryz.func102, Tryz.ntmps102
            go_wp2
            go_ret
            exact ⟨rfl, rfl⟩
          · have e : hexV c = -1 := by unfold hexV; rw [if_neg (by omega), if_neg (by omega), if_neg (by omega)]
            rw [e]
            go_enter Tryz.func102, Tryz.ntmps102
            go_wp2
            go_ret
            exact ⟨rfl, rfl⟩
        · have e : hexV c = -1 := by unfold hexV; rw [if_neg (by omega), if_neg (by omega), if_neg (by omega)]
          rw [e]
          go_enter Tryz.func102, Tryz.ntmps102
          go_wp2
          go_ret
          exact ⟨rfl, rfl⟩
  · have e : hexV c = -1 := by unfold hexV; rw [if_neg (by omega), if_neg (by omega), if_neg (by omega)]
    have a3 : ¬ (97 : Int) ≤ c := by omega
    have a5 : ¬ (65 : Int) ≤ c := by omega
    rw [e]
    go_enter Tryz.func102, Tryz.ntmps102
    go_wp2
    go_ret
    exact ⟨rfl, rfl⟩
def halfV (n : Int) : Int := if 55296 ≤ n ∧ n < 56320 then 1 else if 56320 ≤ n ∧ n < 57344 then -1 else 0
set_option maxHeartbeats 1000000 in
theorem half_any (n : Int) (w : World) : Calls Tryz.prog 45 #[.int .i64 n] w fun e w' => e = .returned (.int .i64 (halfV n)) ∧ w = w' := by
  by_cases a1 : 55296 ≤ n
  · by_cases a2 : n < 56320
    · have e : halfV n = 1 := by unfold halfV; rw [if_pos ⟨a1, a2⟩]
      rw [e]
      go_enter Tryz.func45, Tryz.ntmps45
      go_wp2
      go_ret
      exact ⟨rfl, rfl⟩
    · have a3 : 56320 ≤ n := by omega
      by_cases a4 : n < 57344
      · have e : halfV n = -1 := by unfold halfV; rw [if_neg (by omega), if_pos ⟨a3, a4⟩]
        rw [e]
        go_enter Tryz.func45, Tryz.ntmps45
        go_wp2
        go_ret
        exact ⟨rfl, rfl⟩
      · have e : halfV n = 0 := by unfold halfV; rw [if_neg (by omega), if_neg (by omega)]
        rw [e]
        go_enter Tryz.func45, Tryz.ntmps45
        go_wp2
        go_ret
        exact ⟨rfl, rfl⟩
  · have a3 : ¬ 56320 ≤ n := by omega
    have e : halfV n = 0 := by unfold halfV; rw [if_neg (by omega), if_neg (by omega)]
    rw [e]
    go_enter Tryz.func45, Tryz.ntmps45
    go_wp2
    go_ret
    exact ⟨rfl, rfl⟩
def Short (c : Int) : Prop := c = 34 ∨ c = 47 ∨ c = 92 ∨ c = 98 ∨ c = 102 ∨ c = 110 ∨ c = 114 ∨ c = 116
def EscQ (c : Int) (w : World) (e : Ending) (w' : World) : Prop := ∃ (v : Int) (t : Bool), e = .returned (.tuple #[.int .u8 v, .bool t]) ∧ (t = true ↔ Short c) ∧ w = w'
set_option maxHeartbeats 1000000 in
theorem escaped_any (c : Int) (w : World) : Calls Tryz.prog 128 #[.int .u8 c] w (EscQ c w) := by
  by_cases hs : Short c
  · rcases hs with rfl | rfl | rfl | rfl | rfl | rfl | rfl | rfl
    all_goals
      go_enter Tryz.func128, Tryz.ntmps128
      go_wp2
      go_ret2
      exact ⟨_, true, rfl, ⟨fun _ => by unfold Short; decide, fun _ => rfl⟩, rfl⟩
  · have HS := Lib.hid hs
    unfold Short at hs
    simp only [not_or] at hs
    obtain ⟨h1, h2, h3, h4, h5, h6, h7, h8⟩ := hs
    have n1 : (c == 34) = false := beq_eq_false_iff_ne.2 h1
    have n2 : (c == 47) = false := beq_eq_false_iff_ne.2 h2
    have n3 : (c == 92) = false := beq_eq_false_iff_ne.2 h3
    have n4 : (c == 98) = false := beq_eq_false_iff_ne.2 h4
    have n5 : (c == 102) = false := beq_eq_false_iff_ne.2 h5
    have n6 : (c == 110) = false := beq_eq_false_iff_ne.2 h6
    have n7 : (c == 114) = false := beq_eq_false_iff_ne.2 h7
    have n8 : (c == 116) = false := beq_eq_false_iff_ne.2 h8
    clear h1 h2 h3 h4 h5 h6 h7 h8
    go_enter Tryz.func128, Tryz.ntmps128
    go_wp2
    go_ret2
    exact ⟨_, false, rfl, ⟨fun h => (by cases h), fun h => absurd h HS.out⟩, rfl⟩
def FourQ (d : List Int) (at' : Nat) (w : World) (e : Ending) (w' : World) : Prop :=
  ∃ (n : Int) (q : Nat), e = .returned (.tuple #[.int .i64 n, .int .i64 q]) ∧ -1 ≤ n ∧ n ≤ 65535 ∧ at' ≤ q ∧ q ≤ d.length ∧ (0 ≤ n → q = at' + 4) ∧ ((∀ j, j < 4 → at' + j < d.length ∧ 0 ≤ hexV (d.getD (at' + j) 0)) → 0 ≤ n) ∧ Kept w.heap.size w w'
theorem pow16_le {k : Nat} (h : k ≤ 3) : (16 : Int) ^ k ≤ 4096 := by
  have : k = 0 ∨ k = 1 ∨ k = 2 ∨ k = 3 := by omega
  rcases this with rfl | rfl | rfl | rfl <;> decide
set_option maxHeartbeats 4000000 in
set_option maxRecDepth 100000 in
theorem four_any {p : Option Addr} {cap at' : Nat} {d : List Int} {w : World} (hd : Bs w p d) (hby : Bytes d) (hl : d.length ≤ 100000) (ha : at' ≤ d.length) :
    Calls Tryz.prog 44 #[.slice p d.length cap, .int .i64 at'] w (FourQ d at' w) := by
  have HD := Lib.hid hd
  have HBY := Lib.hid hby
  clear hd hby
  go_enter Tryz.func44, Tryz.ntmps44
  go_wp2
  go_loopg [6, 7] 4 (fun g v6 v wr => ∃ (k : Nat) (m : Int), g + k = 4 ∧ v = .int .i64 k ∧ v6 = .int .i64 m ∧ 0 ≤ m ∧ m < 16 ^ k ∧ at' + k ≤ d.length ∧ (∃ n, wr = w.drewN n))
  case atStart => exact ⟨0, 0, rfl, rfl, rfl, by decide, by decide, ha, 0, rfl⟩
  case round =>
    obtain ⟨k, m, hg, rfl, rfl, hm0, hm1, hk, nn, rfl⟩ := hrel
    have HK : Hid (∀ n, Kept w.heap.size w (w.drewN n)) := fun n => (Kept.refl _ w).drewN n
    by_cases hks : k < 4
    case neg =>
      obtain rfl : k = 4 := by omega
      have hm2 : m < 65536 := hm1
      go_wp2
      go_ret2
      exact ⟨m, at' + 4, by simp, by omega, by omega, by omega, hk, fun _ => rfl, fun _ => hm0, HK.out _⟩
    case pos =>
      have hks' : (k : Int) < 4 := by omega
      by_cases hlt : at' + k < d.length
      case neg =>
        have hge : (d.length : Int) ≤ (at' : Int) + (k : Int) := by omega
        have hgd : decide ((d.length : Int) ≤ (at' : Int) + (k : Int)) = true := decide_eq_true hge
        have hgd2 : decide (d.length ≤ at' + k) = true := decide_eq_true (by omega)
        go_wp2
        go_ret2
        exact ⟨-1, at' + k, by simp, by omega, by omega, by omega, hk, fun h => absurd h (by decide), fun h => absurd (h k hks).1 hlt, HK.out _⟩
      case pos =>
        obtain ⟨bd, o, rfl, hbd, hc⟩ := HD.out (by omega)
        have q0 := hc (at' + k) hlt
        obtain ⟨c, hcc⟩ : ∃ c, d.getD (at' + k) 0 = c := ⟨_, rfl⟩
        rw [hcc] at q0
        have HCC := Lib.hid hcc
        have hcb : 0 ≤ c ∧ c ≤ 255 := by rw [← hcc]; exact HBY.out (at' + k)
        have hge : ¬ (d.length : Int) ≤ (at' : Int) + (k : Int) := by omega
        have hgd : decide ((d.length : Int) ≤ (at' : Int) + (k : Int)) = false := decide_eq_false hge
        have hgd2 : decide (d.length ≤ at' + k) = false := decide_eq_false (by omega)
        clear hc hcc
        have hv := hexV_lt c
        obtain ⟨v, hvv⟩ : ∃ v, hexV c = v := ⟨_, rfl⟩
        rw [hvv] at hv
        have HVV := Lib.hid hvv
        have hp := pow16_le (k := k) (by omega)
        have w1 : IntKind.i64.wrap (16 * m) = 16 * m := IntWalk.i64_in _ (by omega)
        have w2 : IntKind.i64.wrap (16 * m + v) = 16 * m + v := IntWalk.i64_in _ (by omega)
        by_cases hneg : v < 0
        · go_wp2_with (go_at_call 102; refine (digit_any c hcb.1 hcb.2 _).mono ?_; rintro e w1 ⟨rfl, rfl⟩; rw [hvv])
          go_ret2
          exact ⟨-1, at' + k, by simp, by omega, by omega, by omega, hk, fun h => absurd h (by decide), fun h => absurd (h k hks).2 (by rw [HCC.out, HVV.out]; omega), HK.out _⟩
        · go_wp2_with (go_at_call 102; refine (digit_any c hcb.1 hcb.2 _).mono ?_; rintro e w1 ⟨rfl, rfl⟩; rw [hvv])
          go_roundg (gk - 1)
          case measure => omega
          case rel =>
            refine ⟨k + 1, 16 * m + v, by omega, by go_num, rfl, by omega, ?_, by omega, _, rfl⟩
            rw [Int.pow_succ]; omega
end Go.Proofs.YtaecbclonmhbcaaGreatDoor

namespace Go.Proofs.YtaecbclonmhbcaaGreatDoor
open Go.RowKit Go.Lib
theorem c3 : Tryz.prog.cellsOf 3 = 1 := by kernel_rfl
theorem c9 : Tryz.prog.cellsOf 9 = 1 := by kernel_rfl
section
variable {W : World}
structure Tabs (w : World) : Prop where
  fl : FlT w
  pr : Lib.PrintTabsAt 19 20 21 22 Lib.goPrintTabs w
  u8 : Lib.Utf8Tabs 17 18 w
  e3 : ∃ (a : Addr) (t : ByteArray), w.cell? ⟨3, 0, none⟩ = some (.iface 191 (.pointer (some a))) ∧ w.cell? a = some (.string t) ∧ t.size ≤ 1000
  e4 : ∃ (a : Addr) (t : ByteArray), w.cell? ⟨4, 0, none⟩ = some (.iface 191 (.pointer (some a))) ∧ w.cell? a = some (.string t) ∧ t.size ≤ 1000
  p10 : Lib.TabIs Tryz.prog w "internal/strconv.uint64pow10" .u64 Lib.pow10Tab
theorem Tabs.below {w w' : World} (h : Tabs w) (hb : Below w.heap.size w w') : Tabs w' :=
  ⟨h.fl.kept (Kept.of_below hb rfl) (Nat.le_refl _), printTabs_below h.pr hb, Utf8Tabs_below h.u8 hb,
    by obtain ⟨a, t, h1, h2, h3⟩ := h.e3; exact ⟨a, t, (Kept.of_below hb rfl).old (Nat.le_refl _) h1, (Kept.of_below hb rfl).old (Nat.le_refl _) h2, h3⟩,
    by obtain ⟨a, t, h1, h2, h3⟩ := h.e4; exact ⟨a, t, (Kept.of_below hb rfl).old (Nat.le_refl _) h1, (Kept.of_below hb rfl).old (Nat.le_refl _) h2, h3⟩,
    TabIs_below (g := 14) (by kernel_rfl) h.p10 hb⟩
end
end Go.Proofs.YtaecbclonmhbcaaGreatDoor
