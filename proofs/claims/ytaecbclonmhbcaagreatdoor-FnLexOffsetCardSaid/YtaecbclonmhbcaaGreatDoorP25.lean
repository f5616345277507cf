/- base64's decodeQuantum: how far it reads, how much it writes. base64: slices within the text and the room, digits put together as a function. -/
import Derived.Test.YtaecbclonmhbcaaGreatDoorP23
import Derived.Deep.CutBlock
set_option linter.unusedVariables false
set_option linter.unusedSimpArgs false
namespace Go.Proofs.YtaecbclonmhbcaaGreatDoor
open Go.RowKit
theorem results_trip {fn : Func} {t u v : Tmp} (h : fn.results = #[.tmp t, .tmp u, .tmp v]) (tmps : Array Value) (P : Program) (w : World) :
    (results fn tmps).run P w = .ok (.tuple #[tmps.getD t undef, tmps.getD u undef, tmps.getD v undef]) w := by
  simp [results, h]
theorem Kept.old' {u v : World} {B : Nat} (h : Kept B u v) (hB : u.heap.size ≤ B) {a : Addr} {x : Value} (hc : u.cell? a = some x) : v.cell? a = some x :=
  h.cell hc (by have := World.block_lt_of_cell? u a hc; omega)
theorem Kept.enc {u v : World} {B e : Nat} (h : Kept B u v) (hB : u.heap.size ≤ B) (he : EncAt u e) : EncAt v e :=
  ⟨fun c hc => by obtain ⟨x, h1, h2⟩ := he.dm c hc; exact ⟨x, h1, h.old' hB h2⟩, h.old' hB he.pad, h.old' hB he.strict⟩
theorem EncAt.range {w : World} {e : Nat} (h : EncAt w e) : ∃ cs : List Value, cs.length = 256 ∧ w.rangeAt e 64 cs := by
  refine ⟨(List.range 256).map fun c => (w.cell? ⟨e, 64 + c, none⟩).getD undef, by simp, fun j v hj => ?_⟩
  rw [List.getElem?_map] at hj
  obtain ⟨i, hi, rfl⟩ := Option.map_eq_some_iff.1 hj
  obtain ⟨hl, rfl⟩ := List.getElem?_eq_some_iff.1 hi
  have h256 : j < 256 := by simpa using hl
  obtain ⟨x, -, hx⟩ := h.dm j h256
  simp [hx]
def SrcAt (w : World) (sb so : Nat) (l : List Nat) : Prop := ∀ i (h : i < l.length), l[i] ≤ 255 ∧ w.cell? ⟨sb, so + i, none⟩ = some (.int .u8 l[i])
def QErr (er : Value) : Prop := ∃ z : Int, er = .iface 178 (.int .i64 z) ∧ -9223372036854775808 ≤ z ∧ z ≤ 9223372036854775807
theorem qerr_int {x : Int} (h0 : -9223372036854775808 ≤ x) (h1 : x ≤ 9223372036854775807) : QErr (.iface 178 (.int .i64 x)) := ⟨_, rfl, h0, h1⟩
theorem qerr_nat {n : Nat} (h : n ≤ 200000) : QErr (.iface 178 (.int .i64 n)) := ⟨_, rfl, by omega, by omega⟩
def QPost (L si d Ld : Nat) (w : World) (e : Ending) (w' : World) : Prop :=
  ∃ (s' n' : Nat) (er : Value), e = .returned (.tuple #[.int .i64 s', .int .i64 n', er]) ∧ si < s' ∧ s' ≤ L ∧ n' ≤ 3 ∧ (0 < n' → si + 4 ≤ s') ∧ ((er = .nilIface ∧ (n' = 3 ∨ s' = L)) ∨ QErr er) ∧ Wrote d Ld w w'
structure QW (w : World) (d Ld : Nat) (wx : World) : Prop where
  dst : DstAt wx d Ld
  kept : Kept d w wx
  lt : d < w.heap.size
  sz : w.heap.size ≤ wx.heap.size
theorem QW.base {w wx : World} {d Ld : Nat} (hd : DstAt w d Ld) (hl : d < w.heap.size) (hk : Kept w.heap.size w wx) : QW w d Ld wx :=
  ⟨⟨fun i hi => by obtain ⟨v, hv⟩ := hd.cell i hi; exact ⟨v, hk.old' (Nat.le_refl _) hv⟩, fun i => by
    have h1 := hk.block d hl (Nat.ne_of_lt hl)
    have h2 := hd.free i
    simp only [World.frozen?, h1] at h2 ⊢
    exact h2⟩, ⟨hk.os, hk.tape, hk.output, hk.size, fun k hk' _ => hk.block k hk' (Nat.ne_of_lt hk')⟩, hl, hk.size⟩
theorem QW.setd {w wx : World} {d Ld : Nat} (h : QW w d Ld wx) (j : Nat) (v : Int) : QW w d Ld (wx.setCell ⟨d, j, none⟩ (.int .u8 v)) := ⟨h.dst.set j v, h.kept.setCell _ _, h.lt, by simpa using h.sz⟩
theorem QW.setD {w wx : World} {d Ld : Nat} (h : QW w d Ld wx) (j : Nat) (v : Value) : QW w d Ld (wx.setCell ⟨w.heap.size, j, none⟩ v) := by
  have hb := heap_setCell_other (w := wx) (b := w.heap.size) (k := d) j v (Nat.ne_of_lt h.lt)
  refine ⟨⟨fun i hi => ?_, fun i => ?_⟩, ⟨h.kept.os, h.kept.tape, h.kept.output, by simpa using h.sz, fun k hk hn => ?_⟩, h.lt, by simpa using h.sz⟩
  · obtain ⟨x, hx⟩ := h.dst.cell i hi
    refine ⟨x, ?_⟩
    simp only [World.cell?, hb] at hx ⊢
    exact hx
  · have h2 := h.dst.free i
    simp only [World.frozen?, hb] at h2 ⊢
    exact h2
  · rw [heap_setCell_other _ _ (Nat.ne_of_lt hk)]
    exact h.kept.block k hk hn
theorem QW.drewN {w wx : World} {d Ld : Nat} (h : QW w d Ld wx) (n : Nat) : QW w d Ld (wx.drewN n) := ⟨h.dst.drewN n, h.kept.drewN n, h.lt, h.sz⟩
theorem QW.wrote {w wx : World} {d Ld : Nat} (h : QW w d Ld wx) : Wrote d Ld w wx := ⟨h.dst, h.kept⟩
set_option maxHeartbeats 64000000 in
set_option maxRecDepth 100000 in
theorem quantum_any {w : World} {e d Ld sb so sc : Nat} {src : List Nat} (si o n c : Nat) (pd : Option Addr) (he : EncAt w e) (hd : DstAt w d Ld) (hdl : d < w.heap.size) (hsrc : SrcAt w sb so src) (hL : src.length ≤ 100000)
    (hde : d ≠ e) (hds : d ≠ sb) (hsi : si < src.length) (hroom : si + 4 ≤ src.length → pd = some ⟨d, o, none⟩ ∧ 3 ≤ n ∧ o + n ≤ Ld) :
    Calls Tryz.prog 139 #[.pointer (some ⟨e, 0, none⟩), .slice pd n c, .slice (some ⟨sb, so, none⟩) src.length sc, .int .i64 si] w (QPost src.length si d Ld w) := by
  have HE := Lib.hid he
  have HD := Lib.hid hd
  have HS := Lib.hid hsrc
  have HR := Lib.hid hroom
  have HDE := Lib.hid hde
  have HDS := Lib.hid hds
  have HDL := Lib.hid hdl
  clear he hd hsrc hroom hde hds hdl
  go_enter Tryz.func139, Tryz.ntmps139
  go_wp2
  have HK0 : RowKit.Hid (Kept w.heap.size w (w.alloc (.cells #[.int .u8 0, .int .u8 0, .int .u8 0, .int .u8 0] 146 (0, 0)))) := (Kept.refl _ w).alloc _
  obtain ⟨cs, hcl, hcr⟩ := (HK0.out.enc (Nat.le_refl _) HE.out).range
  refine wp_load_mid 151 (.tmp 19) rfl e 64 rfl cs _ hcr Tryz.underlying151 rfl (by rw [hcl]; kernel_rfl) ?_
  clear hcl hcr
  go_upto_block 0 with fail
  go_cut [3, 8, 9, 10, 12, 13, 14, 15] from 21 to 163 (fun a3 a8 a9 a10 a12 a13 a14 a15 wx => ∃ s dl : Nat, a3 = .int .i64 s ∧ a12 = .int .i64 dl ∧ 2 ≤ dl ∧ dl ≤ 4 ∧ si + 4 ≤ s ∧ s ≤ src.length ∧ ((a10 = .nilIface ∧ (dl = 4 ∨ s = src.length)) ∨ QErr a10) ∧ DstAt wx w.heap.size 4 ∧ Kept w.heap.size w wx)
  case first =>
    go_wp2_with fail
    go_loopw [3, 10, 12, 13] (fun a3 a10 a12 a13 wr => ∃ s j : Nat, a3 = .int .i64 s ∧ a10 = .nilIface ∧ a12 = .int .i64 4 ∧ a13 = .int .i64 j ∧ j ≤ 4 ∧ si + j ≤ s ∧ s ≤ src.length ∧ DstAt wr w.heap.size 4 ∧ Kept w.heap.size w wr)
      (fun a3 _ _ _ _ => src.length - (intOf a3).toNat)
    case atStart =>
      refine ⟨si, 0, rfl, rfl, rfl, rfl, by decide, Nat.le_refl _, by omega, ?_, HK0.out⟩
      have h := heap_alloc_new w (.cells #[.int .u8 0, .int .u8 0, .int .u8 0, .int .u8 0] 146 (0, 0))
      exact ⟨fun i hi => ⟨0, cell_of_heap h i (by match i, hi with | 0, _ => rfl | 1, _ => rfl | 2, _ => rfl | 3, _ => rfl)⟩, fun i => free_of_heap h i⟩
    case round =>
      obtain ⟨s, j, rfl, rfl, rfl, rfl, hj, hs0, hs1, hb, hk⟩ := hrel
      have HB := Lib.hid hb
      have HK := Lib.hid hk
      have HQ := Lib.hid (QW.base HD.out HDL.out HK.out)
      have HEW := hk.enc (Nat.le_refl _) HE.out
      have ep := HEW.pad
      have HEN := Lib.hid HEW
      have fb := hb.free
      clear hb hk HEW
      by_cases h4 : j = 4
      · subst h4
        go_wp2_with fail
        go_meet
        exact ⟨s, 4, rfl, rfl, by decide, by decide, hs0, hs1, .inl ⟨rfl, .inl rfl⟩, HB.out, HK.out⟩
      have hj4 : j < 4 := by omega
      by_cases hsL : s = src.length
      · subst hsL
        by_cases hj0 : j = 0
        · subst hj0
          go_wp2_with fail
          refine bodyPost_ret (results_trip rfl _ _ _) rfl ⟨src.length, 0, _, rfl, hsi, Nat.le_refl _, by decide, fun h => absurd h (by decide), .inl ⟨rfl, .inr rfl⟩, HQ.out.wrote⟩
        have j0 : ((j : Int) == 0) = false := beq_eq_false_iff_ne.2 (by omega)
        by_cases hj1 : j = 1
        · subst hj1
          go_wp2_with fail
          refine bodyPost_ret (results_trip rfl _ _ _) rfl ⟨src.length, 0, _, rfl, hsi, Nat.le_refl _, by decide, fun h => absurd h (by decide), .inr (qerr_int (by omega) (by omega)), HQ.out.wrote⟩
        have j1 : ((j : Int) == 1) = false := beq_eq_false_iff_ne.2 (by omega)
        go_wp2_with fail
        refine bodyPost_ret (results_trip rfl _ _ _) rfl ⟨src.length, 0, _, rfl, hsi, Nat.le_refl _, by decide, fun h => absurd h (by decide), .inr (qerr_int (by omega) (by omega)), HQ.out.wrote⟩
      have hlt : s < src.length := by omega
      have nL : ((src.length : Int) == s) = false := beq_eq_false_iff_ne.2 (by omega)
      obtain ⟨hx0, hx1⟩ := HS.out s hlt
      replace hx1 := HK.out.old' (Nat.le_refl _) hx1
      obtain ⟨x, hxe⟩ : ∃ x, src[s] = x := ⟨_, rfl⟩
      rw [hxe] at hx0 hx1
      obtain ⟨v, hv, hcv⟩ := HEN.out.dm x (by omega)
      have x256 : (x : Int) < 256 := by omega
      have wx32 : IntKind.i32.wrap (x : Int) = x := IntWalk.i32_in _ (by omega)
      by_cases hv255 : v = 255
      case neg =>
        have nv : ((v : Int) != 255) = true := bne_iff_ne.2 (by omega)
        obtain ⟨y, cj⟩ := HB.out.cell j (by omega)
        go_wp2_with fail
        go_roundw
        case rel => exact ⟨s + 1, j + 1, by go_num, rfl, rfl, by go_num, by omega, by omega, by omega, HB.out.set j v, HK.out.setCell _ _⟩
        case measure => simp [intOf]; omega
      subst hv255
      by_cases hnl : x = 10 ∨ x = 13
      · rcases hnl with rfl | rfl
        all_goals
          go_wp2_with fail
          go_roundw
          case rel => exact ⟨s + 1, j, by go_num, rfl, rfl, by go_num, by omega, by omega, by omega, HB.out, HK.out⟩
          case measure => simp [intOf]; omega
      have n10 : ((x : Int) == 10) = false := beq_eq_false_iff_ne.2 (by omega)
      have n13 : ((x : Int) == 13) = false := beq_eq_false_iff_ne.2 (by omega)
      by_cases h61 : x = 61
      case neg =>
        have n61 : ((x : Int) != 61) = true := bne_iff_ne.2 (by omega)
        go_wp2_with fail
        refine bodyPost_ret (results_trip rfl _ _ _) rfl ⟨s + 1, 0, _, by go_num, by omega, by omega, by decide, fun h => absurd h (by decide), .inr (qerr_int (by omega) (by omega)), HQ.out.wrote⟩
      subst h61
      clear hnl n10 n13
      have hL' : src.length ≤ 200000 := by omega
      have hj' : j = 0 ∨ j = 1 ∨ j = 2 ∨ j = 3 := by omega
      rcases hj' with rfl | rfl | rfl | rfl
      · go_wp2_with fail
        refine bodyPost_ret (results_trip rfl _ _ _) rfl ⟨s + 1, 0, _, by go_num, by omega, by omega, by decide, fun h => absurd h (by decide), .inr (qerr_int (by omega) (by omega)), HQ.out.wrote⟩
      · go_wp2_with fail
        refine bodyPost_ret (results_trip rfl _ _ _) rfl ⟨s + 1, 0, _, by go_num, by omega, by omega, by decide, fun h => absurd h (by decide), .inr (qerr_int (by omega) (by omega)), HQ.out.wrote⟩
      · go_upto_block 4 with fail
        go_cut [3] from 93 to 112 (fun a3 wx => ∃ s2 : Nat, a3 = .int .i64 s2 ∧ s + 1 ≤ s2 ∧ s2 ≤ src.length ∧ wr = wx)
        case first =>
          go_wp2_with fail
          go_loop [3] (fun a3 => ∃ s2 : Nat, a3 = .int .i64 s2 ∧ s + 1 ≤ s2 ∧ s2 ≤ src.length) (fun a3 => src.length - (intOf a3).toNat)
          case atStart => exact ⟨s + 1, by go_num, Nat.le_refl _, by omega⟩
          case round =>
            obtain ⟨s2, rfl, hq0, hq1⟩ := hrel
            by_cases hql : s2 < src.length
            case neg =>
              go_wp2_with fail
              go_meet
              exact ⟨s2, rfl, hq0, hq1, rfl⟩
            case pos =>
              obtain ⟨hy0, hy1⟩ := HS.out s2 hql
              replace hy1 := HK.out.old' (Nat.le_refl _) hy1
              obtain ⟨y, hye⟩ : ∃ y, src[s2] = y := ⟨_, rfl⟩
              rw [hye] at hy0 hy1
              by_cases hyn : y = 10 ∨ y = 13
              · rcases hyn with rfl | rfl
                all_goals
                  go_wp2_with fail
                  go_round
                  case rel => exact ⟨s2 + 1, by go_num, by omega, by omega⟩
                  case measure => simp [intOf]; omega
              have m10 : ((y : Int) == 10) = false := beq_eq_false_iff_ne.2 (by omega)
              have m13 : ((y : Int) == 13) = false := beq_eq_false_iff_ne.2 (by omega)
              go_wp2_with fail
              go_meet
              exact ⟨s2, rfl, hq0, hq1, rfl⟩
        case rest =>
          obtain ⟨s2, rfl, hs20, hs21, rfl⟩ := hcut
          by_cases he2 : s2 = src.length
          · subst he2
            go_wp2_with fail
            refine bodyPost_ret (results_trip rfl _ _ _) rfl ⟨src.length, 0, _, rfl, by omega, by omega, by decide, fun h => absurd h (by decide), .inr (qerr_nat hL'), HQ.out.wrote⟩
          have hl2 : s2 < src.length := by omega
          have nL2 : ((s2 : Int) == src.length) = false := beq_eq_false_iff_ne.2 (by omega)
          obtain ⟨hz0, hz1⟩ := HS.out s2 hl2
          replace hz1 := HK.out.old' (Nat.le_refl _) hz1
          obtain ⟨z, hze⟩ : ∃ z, src[s2] = z := ⟨_, rfl⟩
          rw [hze] at hz0 hz1
          have wz32 : IntKind.i32.wrap (z : Int) = z := IntWalk.i32_in _ (by omega)
          by_cases hz61 : z = 61
          case neg =>
            have z61 : ((z : Int) != 61) = true := bne_iff_ne.2 (by omega)
            go_wp2_with fail
            go_quiet (fail)
            go_wp2_with fail
            refine bodyPost_ret (results_trip rfl _ _ _) rfl ⟨s2, 0, _, rfl, by omega, by omega, by decide, fun h => absurd h (by decide), .inr (qerr_int (by omega) (by omega)), HQ.out.drewN _ |>.wrote⟩
          subst hz61
          go_wp2_with fail
          go_quiet (fail)
          go_upto_block 6 with fail
          go_cut [3] from 137 to 156 (fun a3 wx => ∃ s4 : Nat, a3 = .int .i64 s4 ∧ s2 + 1 ≤ s4 ∧ s4 ≤ src.length ∧ wr.drewN _ = wx)
          case first =>
            go_wp2_with fail
            go_loop [3] (fun a3 => ∃ s4 : Nat, a3 = .int .i64 s4 ∧ s2 + 1 ≤ s4 ∧ s4 ≤ src.length) (fun a3 => src.length - (intOf a3).toNat)
            case atStart => exact ⟨s2 + 1, by go_num, Nat.le_refl _, by omega⟩
            case round =>
              obtain ⟨s4, rfl, hq0, hq1⟩ := hrel
              by_cases hql : s4 < src.length
              case neg =>
                go_wp2_with fail
                go_meet
                exact ⟨s4, rfl, hq0, hq1, rfl⟩
              case pos =>
                obtain ⟨hy0, hy1⟩ := HS.out s4 hql
                replace hy1 := HK.out.old' (Nat.le_refl _) hy1
                obtain ⟨y, hye⟩ : ∃ y, src[s4] = y := ⟨_, rfl⟩
                rw [hye] at hy0 hy1
                by_cases hyn : y = 10 ∨ y = 13
                · rcases hyn with rfl | rfl
                  all_goals
                    go_wp2_with fail
                    go_round
                    case rel => exact ⟨s4 + 1, by go_num, by omega, by omega⟩
                    case measure => simp [intOf]; omega
                have m10 : ((y : Int) == 10) = false := beq_eq_false_iff_ne.2 (by omega)
                have m13 : ((y : Int) == 13) = false := beq_eq_false_iff_ne.2 (by omega)
                go_wp2_with fail
                go_meet
                exact ⟨s4, rfl, hq0, hq1, rfl⟩
          case rest =>
            obtain ⟨s4, rfl, hs40, hs41, rfl⟩ := hcut
            by_cases he4 : s4 = src.length
            · subst he4
              go_wp2_with fail
              go_meet
              exact ⟨src.length, 2, rfl, rfl, by decide, by decide, by omega, Nat.le_refl _, .inl ⟨rfl, .inr rfl⟩, HB.out.drewN _, HK.out.drewN _⟩
            · have hl4 : s4 < src.length := by omega
              go_wp2_with fail
              go_meet
              exact ⟨s4, 2, rfl, rfl, by decide, by decide, by omega, hs41, .inr (qerr_nat (by omega)), HB.out.drewN _, HK.out.drewN _⟩
      · go_upto_block 6 with fail
        go_cut [3] from 137 to 156 (fun a3 wx => ∃ s4 : Nat, a3 = .int .i64 s4 ∧ s + 1 ≤ s4 ∧ s4 ≤ src.length ∧ wr = wx)
        case first =>
          go_wp2_with fail
          go_loop [3] (fun a3 => ∃ s4 : Nat, a3 = .int .i64 s4 ∧ s + 1 ≤ s4 ∧ s4 ≤ src.length) (fun a3 => src.length - (intOf a3).toNat)
          case atStart => exact ⟨s + 1, by go_num, Nat.le_refl _, by omega⟩
          case round =>
            obtain ⟨s4, rfl, hq0, hq1⟩ := hrel
            by_cases hql : s4 < src.length
            case neg =>
              go_wp2_with fail
              go_meet
              exact ⟨s4, rfl, hq0, hq1, rfl⟩
            case pos =>
              obtain ⟨hy0, hy1⟩ := HS.out s4 hql
              replace hy1 := HK.out.old' (Nat.le_refl _) hy1
              obtain ⟨y, hye⟩ : ∃ y, src[s4] = y := ⟨_, rfl⟩
              rw [hye] at hy0 hy1
              by_cases hyn : y = 10 ∨ y = 13
              · rcases hyn with rfl | rfl
                all_goals
                  go_wp2_with fail
                  go_round
                  case rel => exact ⟨s4 + 1, by go_num, by omega, by omega⟩
                  case measure => simp [intOf]; omega
              have m10 : ((y : Int) == 10) = false := beq_eq_false_iff_ne.2 (by omega)
              have m13 : ((y : Int) == 13) = false := beq_eq_false_iff_ne.2 (by omega)
              go_wp2_with fail
              go_meet
              exact ⟨s4, rfl, hq0, hq1, rfl⟩
        case rest =>
          obtain ⟨s4, rfl, hs40, hs41, rfl⟩ := hcut
          by_cases he4 : s4 = src.length
          · subst he4
            go_wp2_with fail
            go_meet
            exact ⟨src.length, 3, rfl, rfl, by decide, by decide, by omega, Nat.le_refl _, .inl ⟨rfl, .inr rfl⟩, HB.out, HK.out⟩
          · have hl4 : s4 < src.length := by omega
            go_wp2_with fail
            go_meet
            exact ⟨s4, 3, rfl, rfl, by decide, by decide, by omega, hs41, .inr (qerr_nat (by omega)), HB.out, HK.out⟩
  case rest =>
    obtain ⟨s, dl, rfl, rfl, hdl0, hdl1, hs0, hs1, her, hb, hk⟩ := hcut
    obtain ⟨rfl, hn3, hod⟩ := HR.out (by omega)
    have HB := Lib.hid hb
    have HK := Lib.hid hk
    have HER := Lib.hid her
    obtain ⟨x0, b0⟩ := hb.cell 0 (by decide)
    obtain ⟨x1, b1⟩ := hb.cell 1 (by decide)
    obtain ⟨x2, b2⟩ := hb.cell 2 (by decide)
    obtain ⟨x3, b3⟩ := hb.cell 3 (by decide)
    have fb := hb.free
    have es := hk.old' (Nat.le_refl _) HE.out.strict
    obtain ⟨y0, d0⟩ := HD.out.cell o (by omega)
    obtain ⟨y1, d1⟩ := HD.out.cell (o + 1) (by omega)
    obtain ⟨y2, d2⟩ := HD.out.cell (o + 2) (by omega)
    replace d0 := hk.old' (Nat.le_refl _) d0
    replace d1 := hk.old' (Nat.le_refl _) d1
    replace d2 := hk.old' (Nat.le_refl _) d2
    have fd : ∀ i, wc.frozen? ⟨d, i, none⟩ = false := fun i => by
      have h1 := HK.out.block d HDL.out (Nat.ne_of_lt HDL.out)
      have h2 := HD.out.free i
      simp only [World.frozen?, h1] at h2 ⊢
      exact h2
    have ne1 : d ≠ w.heap.size := Nat.ne_of_lt HDL.out
    have ne2 : w.heap.size ≠ d := Ne.symm ne1
    have ne3 : e ≠ d := Ne.symm HDE.out
    have ne4 : e ≠ w.heap.size := Nat.ne_of_lt (World.block_lt_of_cell? w _ HE.out.strict)
    have l0 : (0 : Int) < n := by omega
    have l1 : (1 : Int) < n := by omega
    have l2 : (2 : Int) < n := by omega
    clear hb hk her
    have HQ := Lib.hid (QW.base HD.out HDL.out HK.out)
    have hdl : dl = 2 ∨ dl = 3 ∨ dl = 4 := by omega
    clear hsi
    rcases hdl with rfl | rfl | rfl
    all_goals
      go_wp2_with fail
      refine bodyPost_ret (results_trip rfl _ _ _) rfl ⟨s, _, _, rfl, by omega, hs1, ?_, fun _ => hs0, ?_, ?_⟩
      · decide
      · first
          | exact HER.out
          | exact HER.out.elim (fun h => .inl ⟨h.1, h.2.elim (fun e => absurd e (by decide)) .inr⟩) .inr
          | exact HER.out.elim (fun h => .inl ⟨h.1, .inl rfl⟩) .inr
      · refine QW.wrote ?_
        repeat (first | with_reducible refine QW.setd ?_ _ _ | with_reducible refine QW.setD ?_ _ _)
        exact HQ.out
end Go.Proofs.YtaecbclonmhbcaaGreatDoor

namespace Go.Proofs.YtaecbclonmhbcaaGreatDoor
open Go.RowKit
theorem elem22 : Tryz.prog.elem 22 = 5 := by kernel_rfl
theorem size5 (W : World) : (sizeOf 5).run Tryz.prog W = .ok 1 W := by show _ = _; kernel_rfl
theorem slice_lh (sb so L sc si m : Nat) (h1 : si + m ≤ sc) (hm : 0 < m) (W : World) :
    (Instr.slice 22 (.slice (some ⟨sb, so, none⟩) L sc) (some (.int .i64 si)) (some (.int .i64 (si + m))) none).run Tryz.prog W = .ok (.slice (some ⟨sb, so + si, none⟩) m (sc - si)) W := by
  have hu : Tryz.prog.underlying 22 = some (.slice (Tryz.prog.elem 22)) := by rw [elem22]; exact Tryz.underlying22
  rw [run_slice_lh (P := Tryz.prog) (t := 22) (ht := hu) (h0 := by omega) (h1 := by omega) (h2 := by omega), elem22, size5]
  simp [Result.andThen, sliced, Addr.add]
  rw [if_neg (by omega)]
  refine ⟨?_, by omega⟩
  by_cases h0 : si = 0
  · subst h0; simp
  · rw [if_neg h0]
theorem slice_l (pd : Option Addr) (d D n : Nat) (hpd : pd = some ⟨d, 0, none⟩) (h : n ≤ D) : ∃ pd' : Option Addr, (n < D → pd' = some ⟨d, n, none⟩) ∧ ∀ W : World, (Instr.slice 22 (.slice pd D D) (some (.int .i64 n)) none none).run Tryz.prog W = .ok (.slice pd' (D - n) (D - n)) W := by
  have hu : Tryz.prog.underlying 22 = some (.slice (Tryz.prog.elem 22)) := by rw [elem22]; exact Tryz.underlying22
  subst hpd
  refine ⟨some (if D = n then ⟨d, 0, none⟩ else ⟨d, n, none⟩), fun hn => by rw [if_neg (by omega)], fun W => ?_⟩
  rw [run_slice_l (P := Tryz.prog) (t := 22) (ht := hu) (h0 := by omega) (h1 := by omega), elem22, size5]
  simp [Result.andThen, sliced, Addr.add]
  by_cases h1 : D = n
  · rw [if_pos h1, if_pos h1]
  · rw [if_neg h1, if_neg h1]
    by_cases h0 : n = 0
    · subst h0; rfl
    · rw [if_neg h0]
def asm64X (a b c d e f g h : Int) : Int := (bits .or .u64 (bits .or .u64 (bits .or .u64 (bits .or .u64 (bits .or .u64 (bits .or .u64 (bits .or .u64 (IntKind.u64.wrap (IntKind.u64.wrap a * 288230376151711744)) (IntKind.u64.wrap (IntKind.u64.wrap b * 4503599627370496))) (IntKind.u64.wrap (IntKind.u64.wrap c * 70368744177664))) (IntKind.u64.wrap (IntKind.u64.wrap d * 1099511627776))) (IntKind.u64.wrap (IntKind.u64.wrap e * 17179869184))) (IntKind.u64.wrap (IntKind.u64.wrap f * 268435456))) (IntKind.u64.wrap (IntKind.u64.wrap g * 4194304))) (IntKind.u64.wrap (IntKind.u64.wrap h * 65536)))
def asm32X (a b c d : Int) : Int := (bits .or .u32 (bits .or .u32 (bits .or .u32 (IntKind.u32.wrap (IntKind.u32.wrap a * 67108864)) (IntKind.u32.wrap (IntKind.u32.wrap b * 1048576))) (IntKind.u32.wrap (IntKind.u32.wrap c * 16384))) (IntKind.u32.wrap (IntKind.u32.wrap d * 256)))
theorem asm64_fix (a b c d e f g h : Int) : ∃ (x : Int) (o : Bool), ∀ w, Calls Tryz.prog 137 #[.int .u8 a, .int .u8 b, .int .u8 c, .int .u8 d, .int .u8 e, .int .u8 f, .int .u8 g, .int .u8 h] w fun e w' => e = .returned (.tuple #[.int .u64 x, .bool o]) ∧ w = w' := by
  cases hb : (bits .or .u8 (bits .or .u8 (bits .or .u8 (bits .or .u8 (bits .or .u8 (bits .or .u8 (bits .or .u8 a b) c) d) e) f) g) h == 255)
  · refine ⟨asm64X a b c d e f g h, true, fun w => ?_⟩
    go_enter Tryz.func137, Tryz.ntmps137
    go_wp2
    go_ret2
    exact ⟨rfl, rfl⟩
  · refine ⟨0, false, fun w => ?_⟩
    go_enter Tryz.func137, Tryz.ntmps137
    go_wp2
    go_ret2
    exact ⟨rfl, rfl⟩
theorem asm32_fix (a b c d : Int) : ∃ (x : Int) (o : Bool), ∀ w, Calls Tryz.prog 140 #[.int .u8 a, .int .u8 b, .int .u8 c, .int .u8 d] w fun e w' => e = .returned (.tuple #[.int .u32 x, .bool o]) ∧ w = w' := by
  cases hb : (bits .or .u8 (bits .or .u8 (bits .or .u8 a b) c) d == 255)
  · refine ⟨asm32X a b c d, true, fun w => ?_⟩
    go_enter Tryz.func140, Tryz.ntmps140
    go_wp2
    go_ret2
    exact ⟨rfl, rfl⟩
  · refine ⟨0, false, fun w => ?_⟩
    go_enter Tryz.func140, Tryz.ntmps140
    go_wp2
    go_ret2
    exact ⟨rfl, rfl⟩
end Go.Proofs.YtaecbclonmhbcaaGreatDoor
