/- impl.number and impl.text at knownLexer's two calls. -/
import Derived.Test.YtaecbclonmhbcaaGreatDoorNumT
import Derived.Test.YtaecbclonmhbcaaGreatDoorKnown
import Derived.Test.YtaecbclonmhbcaaGreatDoorMark
import Derived.Test.YtaecbclonmhbcaaGreatDoorStr
namespace Go.Proofs.YtaecbclonmhbcaaGreatDoor
open Go.RowKit

section
variable {w w' : World} {b : Nat} {ae : Sur} {ao : Addr} {x : Lx} {vd vt ve vm : Value}
set_option maxHeartbeats 4000000 in
set_option maxRecDepth 100000 in
theorem int64_12 (h : LexAt w b ae ao x vd vt ve vm) (hw : x.Wf) (hm : x.multi = false) (ho : x.num.ok = true) (hv : x.numV = ⟨#[49, 50]⟩) :
    Calls Tryz.prog 71 #[.pointer (some ⟨b, 0, none⟩)] w fun e w' => e = .returned (.int .i64 12) ∧ NumDone w b ae ao x.num vd vm w' := by
  have H := Lib.hid h
  have HV := Lib.hid hv
  have HO := Lib.hid ho
  clear h hv ho
  go_enter Tryz.func71, Tryz.ntmps71
  go_wp2_with (first
    | (go_at_call 106; refine (number_any H.out hw hm).mono ?_; rintro e w1 ⟨rfl, vt1, ve1, g1, g2⟩; rw [HV.out]; have G1 := Lib.hid g1; have G2 := Lib.hid g2; clear g1 g2)
    | (go_at_call 47; refine (ok_any G1.out).mono ?_; rintro e w2 ⟨he, rfl⟩; rw [HO.out] at he; subst he)
    | (go_at_call 116; refine (parseInt_12 _).mono ?_; rintro e w3 ⟨rfl, hg⟩; have HG := Lib.hid hg; clear hg))
  go_ret
  exact ⟨rfl, vt1, ve1, G1.out.grown HG.out (by simp), G2.out.trans (Kept.of_grown HG.out (by simp))⟩
end

section
variable {w w' : World} {b : Nat} {ae : Sur} {ao : Addr} {x : Lx} {vd vt ve vm : Value}

set_option maxHeartbeats 4000000 in
set_option maxRecDepth 100000 in
theorem string_an (h : LexAt w b ae ao x vd vt ve vm) (hw : x.Wf) (hk : x.kind = 0) (hok : x.ok = true) (hok2 : x.fetch.ok = true) (hk2 : x.fetch.kind = 2) (ht : x.fetch.tok = [97, 92, 110]) :
    Calls Tryz.prog 53 #[.pointer (some ⟨b, 0, none⟩)] w fun e w' => e = .returned (.string (strOfNums [97, 10])) ∧ NumDone w b ae ao { x.fetch with tok := [97, 10], cl := true }.consume vd vm w' := by
  have H := Lib.hid h
  have HW := Lib.hid hw
  have c3 := h.c3
  rw [hk] at c3
  have HT := Lib.hid ht
  have HK := Lib.hid hk
  have d1 : ((x.fetch.kind : Int) == 2) = true := by simp; omega
  have d2 : ((x.fetch.kind : Int) != 2) = false := by simp; omega
  clear h hw hk ht hk2
  go_enter Tryz.func53, Tryz.ntmps53
  go_wp2_with (first
    | (go_at_call 47; with_reducible refine (ok_any G1.out).mono ?_; rintro e w2 ⟨rfl, rfl⟩)
    | (go_at_call 47; refine (ok_any H.out).mono ?_; rintro e w' ⟨rfl, rfl⟩)
    | (go_at_call 86; refine (fetchToken_any H.out HW.out).mono ?_; rintro e w1 ⟨rfl, vt1, ve1, g1, g2⟩; have z3 := g1.c3; have z6 := g1.c6; have G1 := Lib.hid g1; have G2 := Lib.hid g2; clear g1 g2)
    | (go_at_call 109; refine (unescape_an G1.out HT.out).mono ?_; rintro e w5 ⟨rfl, vt5, ve5, g5, g6⟩; have y5 := g5.c5; have y6 := g5.c6; have G5 := Lib.hid g5; have G6 := Lib.hid g6; clear g5 g6)
    | (go_at_call 110; refine (bytesToStr_any G5.out.tok).mono ?_; rintro e w7 ⟨rfl, rfl⟩)
    | (go_at_call 104; refine (consume_any G5.out).mono ?_; rintro e w3 ⟨rfl, g3, g4⟩))
  go_ret
  exact ⟨rfl, vt5, ve5, g3, (G2.out.trans G6.out).trans g4⟩
end

section
variable {w w' : World} {b : Nat} {ae : Sur} {ao : Addr} {x : Lx} {vd vt ve vm : Value}

set_option maxHeartbeats 4000000 in
set_option maxRecDepth 100000 in
theorem number_24 (h : LexAt w b ae ao x vd vt ve vm) (hw : x.Wf) (hm : x.multi = false) (ho : x.num.ok = true) (hv : x.numV = ⟨#[49, 50]⟩) :
    Calls Tryz.prog 38 #[.pointer (some ⟨b, 0, none⟩), .int .i64 24] w fun e w' => e = .returned (.int .i64 12) ∧ NumDone w b ae ao x.num vd vm w' := by
  have H := Lib.hid h
  have HW := Lib.hid hw
  have HM := Lib.hid hm
  have HV := Lib.hid hv
  have HO := Lib.hid ho
  clear h hw hm hv ho
  go_enter Tryz.func38, Tryz.ntmps38
  go_wp2_with (go_at_call 71; refine (int64_12 H.out HW.out HM.out HO.out HV.out).mono ?_; rintro e w1 ⟨rfl, vt1, ve1, g1, g2⟩)
  go_ret
  exact ⟨rfl, vt1, ve1, g1, g2⟩

/-- []byte(s) of a\\n. -/
theorem conv_an (W : World) : ∃ cp W', (convert 9 22 (.string (strOfNums [97, 10]))).run Tryz.prog W = .ok (.slice (some ⟨W.heap.size, 0, none⟩) 2 cp) W' ∧ FreshAt W W' (.slice (some ⟨W.heap.size, 0, none⟩) 2 cp) [97, 10] := by
  have he : strOfNums [97, 10] = ⟨#[97, 10]⟩ := by decide
  rw [he]
  have hcv := run_bytes_of_string (P := Tryz.prog) W 9 22 5 ⟨#[97, 10]⟩ Tryz.underlying9 Tryz.underlying22 Tryz.underlying5
  have hge := grownCap_ge W (ByteArray.mk #[97, 10]).size 0 5
  refine ⟨_, _, hcv, ⟨rfl, rfl, rfl, by simp, fun k hk _ => heap_alloc_lt (w := W.drew) hk⟩, fun A hA => .inr ⟨W.heap.size, 0, _, rfl, hge, ⟨fun a => by have := hA _ a; omega, by simp⟩, fun i hi => ?_⟩⟩
  match i, hi with
  | 0, _ => exact cell_of_heap (heap_alloc_new W.drew _) 0 (bytesRow_at _ _ 0 (by decide))
  | 1, _ => exact cell_of_heap (heap_alloc_new W.drew _) 1 (bytesRow_at _ _ 1 (by decide))

/-- What String does and tells. -/
def TextDone (w : World) (b : Nat) (ae : Sur) (ao : Addr) (x' : Lx) (vd vm : Value) (q p : Int) (e : Ending) (w' : World) : Prop :=
  ∃ v, e = .returned (gotV 0 v q p) ∧ (∀ A : Nat → Prop, (∀ k, A k → k < w.heap.size) → BytesAt w' A v [97, 10]) ∧ NumDone w b ae ao x' vd vm w'

set_option maxHeartbeats 4000000 in
set_option maxRecDepth 100000 in
theorem text_13 (h : LexAt w b ae ao x vd vt ve vm) (hw : x.Wf) (hk : x.kind = 0) (hok : x.ok = true) (hok2 : x.fetch.ok = true) (hk2 : x.fetch.kind = 2) (ht : x.fetch.tok = [97, 92, 110]) (n : Int) (p : Option Addr) (sn sc : Nat) :
    Calls Tryz.prog 37 #[.pointer (some ⟨b, 0, none⟩), callV 13 n (.slice p sn sc)] w fun e w' => TextDone w b ae ao { x.fetch with tok := [97, 10], cl := true }.consume vd vm 0 0 e w' := by
  have H := Lib.hid h
  have hbl := h.lt
  clear h
  unfold callV
  go_enter Tryz.func37, Tryz.ntmps37
  go_wp2_with (go_at_call 53; refine (string_an ((H.out.alloc _).hold _) hw hk hok hok2 hk2 ht).mono ?_; rintro e w1 ⟨rfl, vt1, ve1, g1, g2⟩; have hG := got_heap g2 hbl; obtain ⟨cp, w2, hcv, hfr⟩ := conv_an w1; have hG2 := (hfr.1.block _ (lt_heap hG) (by simp)).trans hG; have y0 := cell_of_heap hG2 0 rfl; have y1 := cell_of_heap hG2 1 rfl; have y2 := cell_of_heap hG2 2 rfl; have y3 := cell_of_heap hG2 3 rfl; have z := free_of_heap hG2; have z0 := z 0; have z1 := z 1; have z2 := z 2; have z3 := z 3; have G1 := Lib.hid g1; have G2 := Lib.hid g2; have GH := Lib.hid hG2; have FR := Lib.hid hfr; have hlt1 := lt_heap hG; clear g1 g2 z hG hG2 hfr)
  (try simp only [Exit.inBlock, Exit.then])
  have hs : ∀ o : Obj, (w.alloc o).heap.size = w.heap.size + 1 := fun o => by simp
  refine bodyPost_ret (v := gotV 0 (.slice (some ⟨w1.heap.size, 0, none⟩) 2 cp) 0 0) ?_ rfl ⟨_, rfl, ?_, vt1, ve1, ?_, ?_⟩
  · exact results_cell_row rfl _ _ (w.heap.size + 1) 30 _ (0, 0) _ rfl (heap_setCell (heap_setCell (heap_setCell (heap_setCell (heap_setCell GH.out 1 _) 0 _) 1 _) 2 _) 3 _) Tryz.underlying30 rfl (by kernel_rfl)
  · intro A hA
    have hsz : w.heap.size + 1 < w1.heap.size := hlt1
    have h0 := FR.out.2 (fun k => A k ∨ k = w.heap.size + 1) (by
      rintro k (a | rfl)
      · have := hA k a; omega
      · exact hsz)
    refine BytesAt.other (A := fun k => A k ∨ k = w.heap.size + 1) ?_ (fun k _ a => .inl a)
    iterate 5 refine BytesAt.grown ?_ (grownBy_setCell _ _ _ _) (fun k e => .inr (Option.some.inj e).symm)
    exact h0
  · refine LexAt.less (j := w.heap.size + 1) ?_
    have G := G1.out
    rw [hs] at G
    have G' := G.grown FR.out.1 (by simp)
    iterate 5 refine LexAt.setHeld ?_ (Sur.hold_self _ _) (by omega) _ _
    exact G'
  · iterate 5 refine Kept.setNew ?_ (by omega) _ _
    exact (Kept.of_alloc (Kept.of_alloc G2.out)).trans (Kept.of_grown FR.out.1 (by simp))
end
end Go.Proofs.YtaecbclonmhbcaaGreatDoor
