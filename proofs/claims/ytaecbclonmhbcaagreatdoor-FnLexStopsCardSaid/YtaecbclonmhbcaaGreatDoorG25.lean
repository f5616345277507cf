/- strconv.ParseFloat over bytes of numbers. The listed tables in a world that holds them: those of floats, of strconv's printing, and strconv's two errors. base64's error: its text. -/
import Derived.Test.YtaecbclonmhbcaaGreatDoorG24
import Derived.Test.YtaecbclonmhbcaaGreatDoorG23
import Derived.PinnedBridge
import Derived.Lib.LaidTab
import Derived.Stop.LaidErr
import Derived.Shelf.Unicode.PredsPay
import Derived.Lib.ItoaLen
import Derived.Lib.AppendIntMem
set_option linter.unusedVariables false
set_option linter.unusedSimpArgs false
/- strconv.ParseFloat over bytes of numbers. -/
namespace Go.Proofs.YtaecbclonmhbcaaGreatDoor
open Go.RowKit

/-- No error, or a new *NumError that bears the text and one of the two variables' errors. -/
def NErr (s : ByteArray) (w w' : World) (er : Value) : Prop :=
  er = .nilIface ∨ ∃ (N g : Nat) (fn : ByteArray) (ev : Value), er = .iface 171 (.pointer (some ⟨N, 0, none⟩)) ∧ w.heap.size ≤ N ∧ w'.heap[N]? = some (.cells #[.string fn, .string s, ev] 189 (0, 0)) ∧ fn.size ≤ 1000 ∧ (g = 3 ∨ g = 4) ∧ w'.cell? ⟨g, 0, none⟩ = some ev
def PfoV (s : ByteArray) (w : World) (e : Ending) (w' : World) : Prop := ∃ (x : Nat) (er : Value), e = .returned (.tuple #[.float .f64 x, er]) ∧ NErr s w w' er ∧ Kept w.heap.size w w'
theorem Kept.of_below {B : Nat} {u v : World} (h : Below B u v) (hB : B = u.heap.size) : Kept B u v := by
  subst hB
  exact ⟨h.os, h.tape, h.output, h.size, fun k hk _ => h.block k hk⟩

/-- toError at either error. -/
theorem toErr_any (fn s : ByteArray) (base bits : Int) (er : Value) (w : World) (hs : s.size ≤ 100000) (h3 : ∃ te pe, w.cell? ⟨3, 0, none⟩ = some (.iface te pe)) (h4 : ∃ te pe, w.cell? ⟨4, 0, none⟩ = some (.iface te pe))
    (he : er = .iface 170 (.int .i64 1) ∨ er = .iface 170 (.int .i64 2)) :
    Calls Tryz.prog 131 #[.string fn, .string s, .int .i64 base, .int .i64 bits, er] w fun e w' => ∃ (N g : Nat) (ev : Value), e = .returned (.iface 171 (.pointer (some ⟨N, 0, none⟩))) ∧ w.heap.size ≤ N ∧ w'.heap[N]? = some (.cells #[.string fn, .string s, ev] 189 (0, 0)) ∧ (g = 3 ∨ g = 4) ∧ w.cell? ⟨g, 0, none⟩ = some ev ∧ Kept w.heap.size w w' := by
  obtain ⟨t3, p3, c3⟩ := h3
  obtain ⟨t4, p4, c4⟩ := h4
  rcases he with rfl | rfl
  · exact (sh_toError_range fn s base bits (.iface t4 p4) w (by omega) c4 (.inr ⟨_, _, rfl⟩)).mono fun e w' ⟨N, a1, a2, a3, a4⟩ => ⟨N, 4, _, a1, a2, a3, .inr rfl, c4, Kept.of_below a4 rfl⟩
  · exact (sh_toError_syntax fn s base bits (.iface t3 p3) w (by omega) c3 (.inr ⟨_, _, rfl⟩)).mono fun e w' ⟨N, a1, a2, a3, a4⟩ => ⟨N, 3, _, a1, a2, a3, .inl rfl, c3, Kept.of_below a4 rfl⟩

set_option maxHeartbeats 4000000 in
set_option maxRecDepth 100000 in
theorem parseFloat_any (s : ByteArray) (bits : Int) (w : World) (hs : s.size ≤ 100000) (hI : Calls Tryz.prog 130 #[.string s, .int .i64 bits] w (PfV w))
    (h3 : ∃ te pe, w.cell? ⟨3, 0, none⟩ = some (.iface te pe)) (h4 : ∃ te pe, w.cell? ⟨4, 0, none⟩ = some (.iface te pe)) :
    Calls Tryz.prog 107 #[.string s, .int .i64 bits] w (PfoV s w) := by
  have HI := Lib.hid hI
  have C3 := Lib.hid h3
  have C4 := Lib.hid h4
  clear hI h3 h4
  go_enter Tryz.func107, Tryz.ntmps107
  go_wp2_with (first
    | (go_at_call 130; refine HI.out.mono ?_; rintro e w1 ⟨x, er, rfl, he, hk⟩; have HK := Lib.hid hk; clear hk; rcases he with rfl | rfl | rfl)
    | (go_at_call 131; refine (toErr_any _ s _ _ _ w1 hs (C3.out.imp fun _ h => h.imp fun _ h => HK.out.old (Nat.le_refl _) h) (C4.out.imp fun _ h => h.imp fun _ h => HK.out.old (Nat.le_refl _) h) (by first | exact .inl rfl | exact .inr rfl)).mono ?_; rintro e w2 ⟨N, g, ev, rfl, hN, hh, hg, hc, hb⟩; have HB := Lib.hid (HK.out.into hb rfl); have HH := Lib.hid hh; have HC := Lib.hid (hb.old (Nat.le_refl _) hc); clear hb hh hc))
  · exact bodyPost_ret (results_tmp2 rfl _ _ _) rfl ⟨x, _, rfl, .inl rfl, HK.out⟩
  · exact bodyPost_ret (results_tmp2 rfl _ _ _) rfl ⟨x, _, rfl, .inr ⟨N, g, _, ev, rfl, Nat.le_trans HK.out.size hN, HH.out, by decide, hg, HC.out⟩, HB.out⟩
  · exact bodyPost_ret (results_tmp2 rfl _ _ _) rfl ⟨x, _, rfl, .inr ⟨N, g, _, ev, rfl, Nat.le_trans HK.out.size hN, HH.out, by decide, hg, HC.out⟩, HB.out⟩
end Go.Proofs.YtaecbclonmhbcaaGreatDoor

/- The listed tables in a world that holds them: those of floats, of strconv's printing, and strconv's two errors. -/
namespace Go.Proofs.YtaecbclonmhbcaaGreatDoor
open Go.RowKit Go.Lib

theorem laid_plain {W : World} (h : laidMetH Tryz.prog laidL W) : laidMet Tryz.prog laidL W := by
  rwa [MakeChecks.laidMetH_plain _ _ _ (by kernel_rfl)] at h
theorem laid_at {W : World} (h : laidMet Tryz.prog laidL W) (i : Nat) {n : String} {d : DataW Unit} (hi : laidL[i]? = some (n, d)) : VarReads Tryz.prog W n d := laidMet.reads h (List.mem_of_getElem? hi)

theorem at_of_take {cs : List Value} {o : Nat} {v : Value} (h : (cs.drop o).take 1 = [v]) : cs[o]? = some v := by
  have := congrArg (·[0]?) h
  simpa [List.getElem?_take, List.getElem?_drop] using this
theorem at_of_take2 {cs : List Value} {o m j : Nat} {v : Value} (h : (((cs.drop o).take m).drop j).take 1 = [v]) (hj : j < m) : cs[o + j]? = some v := by
  have := congrArg (·[0]?) h
  simpa [List.getElem?_take, List.getElem?_drop, hj] using this
theorem c3 : Tryz.prog.cellsOf 3 = 1 := by kernel_rfl
theorem c9 : Tryz.prog.cellsOf 9 = 1 := by kernel_rfl
theorem c49 : Tryz.prog.cellsOf 49 = 1 := by kernel_rfl
theorem c93 : Tryz.prog.cellsOf 93 = 1 := by kernel_rfl
theorem c105 : Tryz.prog.cellsOf 105 = 1 := by kernel_rfl
theorem c113 : Tryz.prog.cellsOf 113 = 1 := by kernel_rfl
theorem c243 : Tryz.prog.cellsOf 243 = 2 := by kernel_rfl
theorem c253 : Tryz.prog.cellsOf 253 = 2 := by kernel_rfl

section
variable {W : World}
/-- A kind of float. -/
theorem finfo_of {name : String} {g : Nat} {a b : Nat} {c : Int} (hn : Tryz.prog.globalNamed name = some g) (hy : (Tryz.prog.globals[g]?).map (·.type) = some 204) (h : VarReads Tryz.prog W name (.agg [.lit (.int .u64 a), .lit (.int .u64 b), .lit (.int .i64 c)])) :
    W.cell? ⟨g, 0, none⟩ = some (.int .u64 a) ∧ W.cell? ⟨g, 1, none⟩ = some (.int .u64 b) ∧ W.cell? ⟨g, 2, none⟩ = some (.int .i64 c) := by
  obtain ⟨cs, f, p, hd, hc⟩ := var_of_reads hn hy h
  obtain ⟨xs, n, _, hx, hl, hxl, hall⟩ := DataW.trod_struct Tryz.underlying204 hd
  have hm := congrArg Prod.fst hx
  simp only [DataW.agg.injEq] at hm
  match xs, hxl with
  | [y0, y1, y2], _ =>
    simp only [List.map_cons, List.map_nil, List.cons.injEq, and_true] at hm
    obtain ⟨m0, m1, m2⟩ := hm
    have h0 : DataW.trod (fun _ => ()) Tryz.prog W 0 (fun _ => true) false n 105 ((cs.drop 0).take (Tryz.prog.cellsOf 105)) = some y0 := hall 0 _ rfl
    have h1 : DataW.trod (fun _ => ()) Tryz.prog W 0 (fun _ => true) false n 105 ((cs.drop 1).take (Tryz.prog.cellsOf 105)) = some y1 := hall 1 _ rfl
    have h2 : DataW.trod (fun _ => ()) Tryz.prog W 0 (fun _ => true) false n 3 ((cs.drop 2).take (Tryz.prog.cellsOf 3)) = some y2 := hall 2 _ rfl
    rw [c105] at h0 h1
    rw [c3] at h2
    obtain ⟨z0, k0, q0, -⟩ := DataW.trod_int Tryz.underlying105 h0
    obtain ⟨z1, k1, q1, -⟩ := DataW.trod_int Tryz.underlying105 h1
    obtain ⟨z2, k2, q2, -⟩ := DataW.trod_int Tryz.underlying3 h2
    rw [q0] at m0
    rw [q1] at m1
    rw [q2] at m2
    simp only [DataW.lit.injEq, Lit.int.injEq, true_and] at m0 m1 m2
    subst m0 m1 m2
    exact ⟨(hc 0).trans (at_of_take k0), (hc 1).trans (at_of_take k1), (hc 2).trans (at_of_take k2)⟩

theorem p10_of (h : VarReads Tryz.prog W "internal/strconv.pow10Tab" Go.Pinned.pow10Tab) : ∀ i, i < 696 → ∃ hi lo : Nat, hi < 18446744073709551616 ∧ lo < 18446744073709551616 ∧ W.cell? ⟨12, i * 2, none⟩ = some (.int .u64 hi) ∧ W.cell? ⟨12, i * 2 + 1, none⟩ = some (.int .u64 lo) := by
  obtain ⟨cs, f, p, hd, hc⟩ := var_of_reads (g := 12) (t := 244) (by kernel_rfl) (by kernel_rfl) h
  obtain ⟨xs, m, _, hx, hl, hxl, hall⟩ := DataW.trod_array Tryz.underlying244 hd
  intro i hi
  have h1 := hall i hi
  obtain ⟨y, hy⟩ : ∃ y, xs[i]? = some y := ⟨xs[i]'(by omega), List.getElem?_eq_getElem (by omega)⟩
  rw [hy, c243] at h1
  obtain ⟨ys, n, _, hx2, hl2, hyl, hall2⟩ := DataW.trod_struct Tryz.underlying243 h1
  match ys, hyl with
  | [y0, y1], _ =>
    have h0 : DataW.trod (fun _ => ()) Tryz.prog W 0 (fun _ => true) false n 49 ((((cs.drop (i * 2)).take 2).drop 0).take (Tryz.prog.cellsOf 49)) = some y0 := hall2 0 _ rfl
    have h1 : DataW.trod (fun _ => ()) Tryz.prog W 0 (fun _ => true) false n 49 ((((cs.drop (i * 2)).take 2).drop 1).take (Tryz.prog.cellsOf 49)) = some y1 := hall2 1 _ rfl
    rw [c49] at h0 h1
    obtain ⟨z0, k0, -, w0⟩ := DataW.trod_int Tryz.underlying49 h0
    obtain ⟨z1, k1, -, w1⟩ := DataW.trod_int Tryz.underlying49 h1
    have b0 := bounds_u64 w0
    have b1 := bounds_u64 w1
    have e0 := (hc _).trans (at_of_take2 k0 (by decide))
    have e1 := (hc _).trans (at_of_take2 k1 (by decide))
    refine ⟨z0.toNat, z1.toNat, by omega, by omega, ?_, ?_⟩
    · rw [show ((z0.toNat : Nat) : Int) = z0 by omega]; simpa using e0
    · rw [show ((z1.toNat : Nat) : Int) = z1 by omega]; simpa using e1

/-- A slice of floats. -/
theorem pow_of {k : FloatKind} {name : String} {g : Nat} {t e : TypeId} {ds : List (DataW Unit)} (hn : Tryz.prog.globalNamed name = some g) (hy : (Tryz.prog.globals[g]?).map (·.type) = some t) (ht : Tryz.prog.underlying t = some (.slice e)) (he : Tryz.prog.underlying e = some (.float k))
    (hc1 : Tryz.prog.cellsOf e = 1) (hl : 0 < ds.length) (h : VarReads Tryz.prog W name (.slice ds [])) : ∃ T, PowT k g ds.length W T := by
  obtain ⟨R, o, cap, h1, h2, h3, h4⟩ := slice_of_reads hn hy ht (by rw [hc1]; decide) hl h
  refine ⟨fun i => match W.cell? ⟨R, o + i, none⟩ with | some (.float _ x) => x | _ => 0, ⟨R, o, cap, h1, fun i hi => ?_⟩⟩
  obtain ⟨ce, f, d, p, e1, e2, e3, e4⟩ := h4 i hi
  obtain ⟨x, rfl⟩ := trod_float he e4
  have := e3 0 (by rw [hc1]; decide)
  rw [hc1, Nat.mul_one, Nat.add_zero] at this
  simp only [this]
  rfl

/-- The row of powers. -/
def pows9 : List Int := [1, 3, 6, 9, 13, 16, 19, 23, 26]
theorem pow9_of (h : VarReads Tryz.prog W "internal/strconv.powtab" (.slice (pows9.map fun z => .lit (.int .i64 z)) [])) (b : Nat) (hb : W.heap.size ≤ b) : Pow9 W b := by
  obtain ⟨R, o, cap, h1, h2, h3, h4⟩ := slice_of_reads (g := 10) (t := 40) (e := 3) (by kernel_rfl) (by kernel_rfl) Tryz.underlying40 (by rw [c3]; decide) (by decide) h
  rw [List.length_map] at h1 h2 h4
  have hg := World.block_lt_of_cell? W _ h1
  simp only at hg
  refine ⟨by omega, R, o, cap, by omega, h1, h2, fun j hj => ?_⟩
  obtain ⟨ce, f, d, p, e1, e2, e3, e4⟩ := h4 j hj
  obtain ⟨z, rfl, q, -⟩ := DataW.trod_int Tryz.underlying3 e4
  have hcell := e3 0 (by rw [c3]; decide)
  rw [c3, Nat.mul_one, Nat.add_zero] at hcell
  simp only [Prod.mk.injEq] at q
  obtain ⟨rfl, -⟩ := q
  rw [List.getElem?_map] at e1
  obtain ⟨z', hz', e⟩ := Option.map_eq_some_iff.1 e1
  simp only [DataW.lit.injEq, Lit.int.injEq, true_and] at e
  subst e
  have hz : 1 ≤ z' ∧ z' ≤ 27 := (show ∀ z ∈ pows9, 1 ≤ z ∧ z ≤ 27 by decide) z' (List.mem_of_getElem? hz')
  refine ⟨z'.toNat, by omega, by omega, ?_⟩
  rw [hcell, show ((z'.toNat : Nat) : Int) = z' by omega]
  rfl

/-- The cheat sheet's rows. -/
def cutN (l : List UInt8) : List Nat := l.map fun b => b.toNat - 48
def rowN (k : Nat) : Nat × List UInt8 := Go.Pinned.cheatRows.getD k (0, [])
theorem cheats_check : ((List.range 60).all fun j => cheatB (j + 1) (rowN (j + 1)).1 (cutN (rowN (j + 1)).2) && (rowN (j + 1)).2.all (fun b => decide (48 ≤ b.toNat)) && decide ((rowN (j + 1)).2.length ≤ 800)) = true := by kernel_rfl
theorem cheats_len : Go.Pinned.cheatRows.length = 61 := by kernel_rfl
theorem cheat_of_reads (h : VarReads Tryz.prog W "internal/strconv.leftcheats" Go.Pinned.leftcheats) (b : Nat) (hb : W.heap.size ≤ b) : CheatT W b := by
  obtain ⟨R, o, cap, h1, h2, h3, h4⟩ := slice_of_reads (g := 13) (t := 254) (e := 253) (ds := Go.Pinned.cheatRows.map fun x => .agg [.lit (.int .i64 x.1), .lit (.string x.2)]) (by kernel_rfl) (by kernel_rfl) Tryz.underlying254 (by rw [c253]; decide)
    (by rw [List.length_map, cheats_len]; decide) h
  rw [List.length_map, cheats_len] at h1 h2 h4
  have hg := World.block_lt_of_cell? W _ h1
  simp only at hg
  refine ⟨by omega, R, o, cap, by omega, h1, h2, fun k hk0 hk1 => ?_⟩
  obtain ⟨ce, f, d, p, e1, e2, e3, e4⟩ := h4 k (by omega)
  rw [c253] at e2 e3
  obtain ⟨ys, n, _, hx, hl, hyl, hall⟩ := DataW.trod_struct Tryz.underlying253 e4
  have hrow : Go.Pinned.cheatRows[k]? = some (rowN k) := by
    have : k < Go.Pinned.cheatRows.length := by rw [cheats_len]; omega
    simp [rowN, List.getD, this]
  rw [List.getElem?_map, hrow] at e1
  simp only [Option.map_some, Option.some.injEq] at e1
  rw [← e1] at hx
  match ys, hyl with
  | [y0, y1], _ =>
    have hm := congrArg Prod.fst hx
    simp only [DataW.agg.injEq, List.map_cons, List.map_nil, List.cons.injEq, and_true] at hm
    obtain ⟨m0, m1⟩ := hm
    have h0 : DataW.trod (fun _ => ()) Tryz.prog W 0 (fun _ => true) false n 3 ((ce.drop 0).take (Tryz.prog.cellsOf 3)) = some y0 := hall 0 _ rfl
    have h1 : DataW.trod (fun _ => ()) Tryz.prog W 0 (fun _ => true) false n 9 ((ce.drop 1).take (Tryz.prog.cellsOf 9)) = some y1 := hall 1 _ rfl
    rw [c3] at h0
    rw [c9] at h1
    obtain ⟨z0, k0, q0, -⟩ := DataW.trod_int Tryz.underlying3 h0
    obtain ⟨s, k1, q1, -⟩ := DataW.trod_string Tryz.underlying9 h1
    rw [q0] at m0
    rw [q1] at m1
    simp only [DataW.lit.injEq, Lit.int.injEq, Lit.string.injEq, true_and] at m0 m1
    subst m0
    have a0 := at_of_take k0
    have a1 := at_of_take k1
    have c0 := (e3 0 (by decide)).trans a0
    have c1 := (e3 1 (by decide)).trans a1
    have hck := List.all_eq_true.1 cheats_check (k - 1) (List.mem_range.2 (by omega))
    rw [show k - 1 + 1 = k by omega] at hck
    simp only [Bool.and_eq_true, decide_eq_true_eq, List.all_eq_true] at hck
    obtain ⟨⟨g1, g2⟩, g3⟩ := hck
    have hsz : s.size = (rowN k).2.length := by rw [m1, ByteArray.size]; simp
    refine ⟨(rowN k).1, s, cutN (rowN k).2, by simpa using c0, by simpa using c1, ⟨by rw [hsz]; simp [cutN], fun i hi => ?_⟩, by omega, cheat_of g1⟩
    have hi' : i < (rowN k).2.length := by omega
    have hb' : s[i] = (rowN k).2[i] := by
      have : s.data.toList[i]? = some ((rowN k).2[i]) := by rw [← m1]; simp [hi']
      have e : s.data.toList[i]? = some s[i] := by
        show s.data.toList[i]? = some s.data[i]
        simp
      rw [e] at this
      exact Option.some.inj this
    have := g2 _ (List.getElem_mem hi')
    rw [hb']
    simp only [cutN, List.getD, List.getElem?_map, List.getElem?_eq_getElem hi', Option.map_some, Option.getD_some]
    omega

/-- The tables. -/
structure Tabs (w : World) : Prop where
  fl : FlT w
  pr : Lib.PrintTabsAt 19 20 21 22 Lib.goPrintTabs w
  u8 : Lib.Utf8Tabs 17 18 w
  e3 : ∃ (a : Addr) (t : ByteArray), w.cell? ⟨3, 0, none⟩ = some (.iface 191 (.pointer (some a))) ∧ w.cell? a = some (.string t) ∧ t.size ≤ 1000
  e4 : ∃ (a : Addr) (t : ByteArray), w.cell? ⟨4, 0, none⟩ = some (.iface 191 (.pointer (some a))) ∧ w.cell? a = some (.string t) ∧ t.size ≤ 1000
  p10 : Lib.TabIs Tryz.prog w "internal/strconv.uint64pow10" .u64 Lib.pow10Tab
theorem Tabs.below {w w' : World} (h : Tabs w) (hb : Below w.heap.size w w') : Tabs w' :=
  ⟨h.fl.kept (Kept.of_below hb rfl) (Nat.le_refl _), printTabs_below h.pr hb, Utf8Tabs_below h.u8 hb,
    by obtain ⟨a, t, h1, h2, h3⟩ := h.e3; exact ⟨a, t, (Kept.of_below hb rfl).old (Nat.le_refl _) h1, (Kept.of_below hb rfl).old (Nat.le_refl _) h2, h3⟩,
    by obtain ⟨a, t, h1, h2, h3⟩ := h.e4; exact ⟨a, t, (Kept.of_below hb rfl).old (Nat.le_refl _) h1, (Kept.of_below hb rfl).old (Nat.le_refl _) h2, h3⟩,
    TabIs_below (g := 14) (by kernel_rfl) h.p10 hb⟩

theorem flt_of (hL : laidMet Tryz.prog laidL W) : FlT W := by
  have c8 := finfo_of (g := 8) (by kernel_rfl) (by kernel_rfl) (laid_at hL 3 (d := .agg [.lit (.int .u64 52), .lit (.int .u64 11), .lit (.int .i64 (-1023))]) rfl)
  have c6 := finfo_of (g := 6) (by kernel_rfl) (by kernel_rfl) (laid_at hL 2 (d := .agg [.lit (.int .u64 23), .lit (.int .u64 8), .lit (.int .i64 (-127))]) rfl)
  refine ⟨?_, c8, c6, ?_, ?_, fun p h0 h1 => p10_of (laid_at hL 15 rfl) (p + 348).toNat (by omega), fun b hb => cheat_of_reads (laid_at hL 14 rfl) b hb, fun b hb => pow9_of (laid_at hL 5 rfl) b hb⟩
  · obtain ⟨cs, f, p, hd, hc⟩ := var_of_reads (g := 7) (t := 4) (by kernel_rfl) (by kernel_rfl) (laid_at hL 4 rfl)
    obtain ⟨y, rfl, -⟩ := DataW.trod_bool Tryz.underlying4 hd
    exact ⟨y, hc 0⟩
  · exact pow_of (g := 11) (t := 238) (e := 93) (by kernel_rfl) (by kernel_rfl) Tryz.underlying238 Tryz.underlying93 c93 (by decide) (laid_at hL 6 rfl)
  · exact pow_of (g := 9) (t := 225) (e := 113) (by kernel_rfl) (by kernel_rfl) Tryz.underlying225 Tryz.underlying113 c113 (by decide) (laid_at hL 7 rfl)

theorem tabs_of (h : laidMetH Tryz.prog laidL W) : Tabs W := by
  have hL := laid_plain h
  refine ⟨flt_of hL, ?_, ?_, ?_, ?_, ?_⟩
  · exact printTabs_of_reads (ρ := sh_lays177_ren) { sh_lays177 with } ⟨by kernel_rfl, by kernel_rfl, by kernel_rfl, by kernel_rfl, by kernel_rfl, by kernel_rfl, by kernel_rfl, by kernel_rfl, by kernel_rfl, by kernel_rfl⟩
      (Pinned.isPrint16_eq ▸ laid_at hL 19 rfl) (Pinned.isNotPrint16_eq ▸ laid_at hL 17 rfl) (Pinned.isPrint32_eq ▸ laid_at hL 20 rfl) (Pinned.isNotPrint32_eq ▸ laid_at hL 18 rfl)
  · exact utf8Tabs_of_reads (ρ := sh_lays177_ren) { sh_lays177 with } ⟨by kernel_rfl, by kernel_rfl, by kernel_rfl, by kernel_rfl, by kernel_rfl, by kernel_rfl, by kernel_rfl⟩ (Pinned.utf8First_eq ▸ laid_at hL 21 rfl) (laid_at hL 9 rfl)
  · obtain ⟨a, t, hv, hc, ht, _⟩ := laid_sentinel (g := 3) hL.tail.tail.tail.tail.tail.tail.tail.tail.tail.tail.tail (by kernel_rfl) (by kernel_rfl) Tryz.underlying63 row191 Tryz.underlying191 Tryz.underlying193 rfl rfl Tryz.underlying9 (by kernel_rfl) (by kernel_rfl)
    exact ⟨a, t, by have := World.var?_cell (g := 3) (by kernel_rfl) hv 0; simpa using this, hc, by rw [Lib.size_eq, ht]; decide⟩
  · obtain ⟨a, t, hv, hc, ht, _⟩ := laid_sentinel (g := 4) hL.tail.tail.tail.tail.tail.tail.tail.tail.tail.tail (by kernel_rfl) (by kernel_rfl) Tryz.underlying63 row191 Tryz.underlying191 Tryz.underlying193 rfl rfl Tryz.underlying9 (by kernel_rfl) (by kernel_rfl)
    exact ⟨a, t, by have := World.var?_cell (g := 4) (by kernel_rfl) hv 0; simpa using this, hc, by rw [Lib.size_eq, ht]; decide⟩
  · exact tabIs_of_head (g := 14) (t := 257) (e := 49) (n := 20) (by kernel_rfl) (by kernel_rfl) Tryz.underlying257 Tryz.underlying49 (by kernel_rfl) (by kernel_rfl) hL.tail.tail.tail.tail.tail.tail.tail.tail
end
end Go.Proofs.YtaecbclonmhbcaaGreatDoor

/- base64's error: its text. -/
namespace Go.Proofs.YtaecbclonmhbcaaGreatDoor
open Go.RowKit

set_option maxHeartbeats 1000000 in
theorem corrupt_any (z : Int) (h0 : -9223372036854775808 ≤ z) (h1 : z ≤ 9223372036854775807) (w : World) (hT : Tabs w) : Calls Tryz.prog 280 #[.int .i64 z] w fun e w' => (∃ t, e = .returned (.string t)) ∧ Below w.heap.size w w' := by
  have HF := Lib.hid (Any.strconv_FormatInt_10 sh_laysM173 z h0 h1 w hT.p10)
  have hl := Lib.itoa_length_le z h0 h1
  obtain ⟨t, ht⟩ : ∃ t : ByteArray, t = ⟨(Lib.itoa z).toArray⟩ := ⟨_, rfl⟩
  have hsz : t.size ≤ 21 := by rw [ht, Lib.size_eq]; simpa using hl
  rw [← ht] at HF
  clear ht hl hT
  go_enter Tryz.func280, Tryz.ntmps280
  go_wp2_with (go_at_call 281; refine HF.out.mono ?_; rintro e w1 ⟨rfl, k, os, hw⟩; have HB := Lib.hid (hw ▸ Lib.below_grow w.heap.size w (Nat.le_refl _) k os); clear hw)
  go_ret
  exact ⟨⟨_, rfl⟩, HB.out⟩
end Go.Proofs.YtaecbclonmhbcaaGreatDoor
