/- impl.walkArray. impl.walkArray: the walk. -/
import Derived.Test.YtaecbclonmhbcaaGreatDoorR28
set_option linter.unusedVariables false
set_option linter.unusedSimpArgs false
namespace Go.Proofs.YtaecbclonmhbcaaGreatDoor
open Go.RowKit
def WPost (x x' : Lx) : Prop := x'.ok = true → x.ok = true ∧ x.peek.ok = true ∧ G x.d 0 x.peek.start x'.pos ∧ x'.kind = 0 ∧ x'.delim = 0
def VShape (a0 a1 a2 a3 a4 a5 : Value) : Prop := ∃ (n0 : Int) (t : Bool) (n2 : Int) (p3 : Option Addr) (l3 c3 : Nat) (p4 : Option Addr) (l4 c4 : Nat) (p5 : Option Addr) (l5 c5 : Nat), a0 = .int .i64 n0 ∧ a1 = .bool t ∧ a2 = .int .u64 n2 ∧ a3 = .slice p3 l3 c3 ∧ a4 = .slice p4 l4 c4 ∧ a5 = .slice p5 l5 c5
theorem vshape {n0 : Int} {t : Bool} {n2 : Int} {p3 : Option Addr} {l3 c3 : Nat} {p4 : Option Addr} {l4 c4 : Nat} {p5 : Option Addr} {l5 c5 : Nat} : VShape (.int .i64 n0) (.bool t) (.int .u64 n2) (.slice p3 l3 c3) (.slice p4 l4 c4) (.slice p5 l5 c5) := ⟨_, _, _, _, _, _, _, _, _, _, _, _, rfl, rfl, rfl, rfl, rfl, rfl⟩
def WDone (w : World) (b k : Nat) (ae : Sur) (ao : Addr) (x : Lx) (vd : Value) (e : Ending) (w' : World) : Prop :=
  ∃ a0 a1 a2 a3 a4 a5 : Value, e = .returned (.agg #[a0, a1, a2, a3, a4, a5]) ∧ (∀ u ∈ [a0, a1, a2, a3, a4, a5], u.oneCell' = true) ∧ VShape a0 a1 a2 a3 a4 a5 ∧ ∃ (x' : Lx) (o' : Int) (vt' ve' : Value), Wk w' b ae ao k o' x' vd vt' ve' ∧ Kept2 b k w w' ∧ x'.d = x.d ∧ WPost x x'
def Ent (x : Lx) : Prop := x.ok = true → TokAt x.d x ∨ ∃ p sp, Free x.d x p sp
def WalkC (n : Nat) : Prop := ∀ {w : World} {b k : Nat} {ae : Sur} {ao : Addr} {o : Int} {x : Lx} {vd vt ve : Value}, Wk w b ae ao k o x vd vt ve → NoNum x.d → Ent x →
  Calls Tryz.prog 32 #[.pointer (some ⟨b, 0, none⟩), .int .i64 n, .pointer (some ⟨k, 0, none⟩)] w (WDone w b k ae ao x vd)
theorem peek_okx {x : Lx} (h : x.peek.ok = true) : x.ok = true := by
  apply Classical.byContradiction
  intro a
  rw [peekK (by simp [Bool.eq_false_iff.2 a])] at h
  exact a h
def ArrP (D : List Int) (s g : Nat) (x : Lx) (c : Nat) : Prop := x.ok = true → ∃ p sp, Free D x p sp ∧ (sp = 0 ∨ sp = 44) ∧ c ≤ p ∧ (∀ q, G D (Rest sp g) p q → G D 0 s q)
def mArr (D : List Int) (x : Lx) : Nat := if x.ok then D.length + 1 - x.pos else 0
def ArrE (D : List Int) (s : Nat) (c : Int) (y : Lx) : Prop := y.ok = true → G D 0 s y.pos ∧ y.delim = c ∧ TokAt D y
theorem arr_start {x : Lx} (hok : x.ok = true) (ht : TokAt x.d x) {c : Int} {g : Nat} (hc : c ≠ 0) (hdl : x.delim = c) (hwf : x.Wf) (hg : ∀ q, G x.d g (x.start + 1) q → x.d.getD x.start 0 = c → G x.d 0 x.start q) :
    x.delimP c = x.consume ∧ ArrP x.d x.start g x.consume 0 := by
  have hp : x.peek = x := ht.peek
  refine ⟨by unfold Lx.delimP Lx.delimS; rw [hp, if_neg (by simp [hok, hdl])], fun _ => ?_⟩
  rcases ht.tok with ⟨-, e, -⟩ | ⟨e1, e2, -, e4⟩ | ⟨-, e, -⟩
  · rw [hdl] at e; exact absurd e hc
  · refine ⟨x.start + 1, 0, ⟨rfl, hok, rfl, rfl, e4, ht.lt, ht.sep, fun e => absurd rfl e⟩, .inl rfl, Nat.zero_le _, fun q hq => hg q hq ?_⟩
    rw [← e2, hdl]
  · rw [hdl] at e; exact absurd e hc
theorem ArrP.stop {D : List Int} {s c : Nat} {x : Lx} (h : ArrP D s 1 x c) (hn : NoNum D) (hi : x.isDelim 93 = true) : ArrE D s 93 x.peek := fun hok => by
  obtain ⟨p, sp, hf, hs, -, hg⟩ := h (peek_okx hok)
  unfold Lx.isDelim at hi
  rw [hok] at hi
  have hd : x.peek.delim = 93 := by simpa using hi
  exact ⟨hg _ (hf.aClose hs hn hok hd), hd, (hf.peek hn hok).1⟩
theorem ArrP.stopO {D : List Int} {s c : Nat} {x : Lx} (h : ArrP D s 3 x c) (hn : NoNum D) (hi : x.isDelim 125 = true) : ArrE D s 125 x.peek := fun hok => by
  obtain ⟨p, sp, hf, hs, -, hg⟩ := h (peek_okx hok)
  unfold Lx.isDelim at hi
  rw [hok] at hi
  have hd : x.peek.delim = 125 := by simpa using hi
  exact ⟨hg _ (hf.oClose hs hn hok hd), hd, (hf.peek hn hok).1⟩
theorem isDelim_no {x : Lx} {c : Int} (hi : x.isDelim c = false) : x.peek.ok = true ∧ x.peek.delim ≠ c := by
  unfold Lx.isDelim at hi
  simp only [Bool.or_eq_false_iff, Bool.not_eq_false'] at hi
  exact ⟨hi.1, by simpa using hi.2⟩
theorem ArrP.next {D : List Int} {s c : Nat} {x x2 : Lx} (h : ArrP D s 1 x c) (hn : NoNum D) (hdx : x.peek.d = D) (hi : x.isDelim 93 = false) (hw : WPost x.peek x2) (hd2 : x2.d = D) (hwf : x2.Wf) : ArrP D s 1 x2.comma (c + 1) ∧ mArr D x2.comma < mArr D x := by
  have hok := (isDelim_no hi).1
  obtain ⟨p, sp, hf, hs, hc, hg⟩ := h (peek_okx hok)
  have ht := (hf.peek hn hok).1
  have hpl := hf.le
  have hM : mArr D x = D.length + 1 - p := by unfold mArr; rw [if_pos hf.ok, hf.pos]
  have hst : p ≤ x.peek.start := by
    have hw := (hf.peek hn hok).2
    unfold Way at hw
    rw [hf.d, hf.pos] at hw
    rcases hw with ⟨w1, -⟩ | ⟨-, m, w1, -, -, w2, -⟩
    · exact w1.1
    · have := w1.1; have := w2.1; omega
  have key : x2.ok = true → p < x2.pos ∧ x2.pos ≤ D.length ∧ G D 0 x.peek.start x2.pos ∧ x2.kind = 0 ∧ x2.delim = 0 := fun h2 => by
    obtain ⟨-, -, w3, w4, w5⟩ := hw h2
    rw [ht.peek, hdx] at w3
    have := w3.lt
    exact ⟨by omega, this.2, w3, w4, w5⟩
  refine ⟨fun h2 => ?_, ?_⟩
  · obtain ⟨k1, k2, k3, k4, k5⟩ := key h2
    refine ⟨x2.pos, 44, ⟨hd2, h2, k4, k5, rfl, k2, rfl, fun _ => rfl⟩, .inr rfl, by omega, fun q hq => ?_⟩
    exact hg q (hf.aNext hs hn hok k3 q hq)
  · rw [hM]
    unfold mArr
    split
    · rename_i h2
      obtain ⟨k1, k2, -⟩ := key h2
      show D.length + 1 - x2.pos < _
      omega
    · omega
theorem arr_end {D : List Int} {s : Nat} {c : Int} {x y : Lx} (hc : c ≠ 0) (h : ArrE D s c y) (hok : x.ok = true) (ht : TokAt x.d x) (hD : x.d = D) (hs : x.start = s) : WPost x (y.delimP c) := fun h2 => by
  subst hD hs
  have hy : y.ok = true := by
    apply Classical.byContradiction
    intro a
    have a := Bool.eq_false_iff.2 a
    unfold Lx.delimP Lx.delimS at h2
    rw [peekK (by simp [a]), if_pos (by simp [a]), fail_ok] at h2
    cases h2
  obtain ⟨h3, h4, h5⟩ := h hy
  have e : y.delimP c = y.consume := by unfold Lx.delimP Lx.delimS; rw [h5.peek, if_neg (by simp [hy, h4])]
  rw [e, ht.peek]
  exact ⟨hok, hok, h3, rfl, rfl⟩
theorem gath_start {w : World} {b k : Nat} {ae : Sur} {ao : Addr} {o : Int} {x : Lx} {vd vt ve : Value} (h : Wk w b ae ao k o x vd vt ve) (kd : Int) (z : Array Value) (hz : ∃ c0 c1 c2 c3 c4 c5, z = #[c0, c1, c2, c3, c4, c5]) :
    Gath ((w.alloc (.cells z 52)).alloc (.cells (ValRow kd (.slice none 0 0) (.slice none 0 0)) 52)) w.heap.size kd (.slice none 0 0) (.slice none 0 0) 0 0 ∧
    Wk ((w.alloc (.cells z 52)).alloc (.cells (ValRow kd (.slice none 0 0) (.slice none 0 0)) 52)) b (ae.wk w.heap.size (.slice none 0 0) (.slice none 0 0)) ao k o x vd vt ve ∧
    Kept2 b k w ((w.alloc (.cells z 52)).alloc (.cells (ValRow kd (.slice none 0 0) (.slice none 0 0)) 52)) := by
  have hs1 : (w.alloc (.cells z 52)).heap.size = w.heap.size + 1 := by simp
  have hs2 : ((w.alloc (.cells z 52)).alloc (.cells (ValRow kd (.slice none 0 0) (.slice none 0 0)) 52)).heap.size = w.heap.size + 2 := by simp
  have blk : ∀ j, j < w.heap.size → ((w.alloc (.cells z 52)).alloc (.cells (ValRow kd (.slice none 0 0) (.slice none 0 0)) 52)).heap[j]? = w.heap[j]? := fun j hj => by
    rw [heap_alloc_lt (by omega), heap_alloc_lt hj]
  obtain ⟨c0, c1, c2, c3, c4, c5, rfl⟩ := hz
  refine ⟨⟨⟨c0, c1, c2, c3, c4, c5, ?_⟩, ?_, ⟨[], World.ownsRow_nil _ _ _ _⟩, ⟨[], World.ownsRow_nil _ _ _ _⟩, fun j e => by cases e⟩, h.moved (by omega) (fun j hj _ => blk j hj) rfl ?_ ?_ (.inl h.held), ⟨rfl, rfl, rfl, by omega, fun j hj _ _ => blk j hj⟩⟩
  · rw [heap_alloc_lt (by omega)]; exact heap_alloc_new w _
  · have := heap_alloc_new (w.alloc (.cells #[c0, c1, c2, c3, c4, c5] 52)) (.cells (ValRow kd (.slice none 0 0) (.slice none 0 0)) 52)
    rwa [hs1] at this
  · rintro j hj (e | e | e | e | e | e)
    · exact .inl e
    · exact .inr e
    · omega
    · omega
    · cases e
    · cases e
  · rintro j (e | e | e | e | e)
    · have := h.lx.held j e; omega
    · omega
    · omega
    · cases e
    · cases e
theorem gath_end {w W : World} {b k B cn cl : Nat} {ae : Sur} {ao : Addr} {o kd : Int} {x : Lx} {vd vt ve vn vl : Value} (h : Wk w b (ae.wk B vn vl) ao k o x vd vt ve) (hk : ae.held k) (hae : ∀ j, ae.held j → j < B) (hG : Gath w B kd vn vl cn cl) (hbB : b < B) (h1B : 1 < B)
    (hsz : W.heap.size = w.heap.size) (hbl : ∀ j, j ≠ B → W.heap[j]? = w.heap[j]?) : Wk W b ae ao k o x vd vt ve := by
  have hkB := hae k hk
  have hs := hG.size
  refine h.moved (by omega) (fun j hj hc => hbl j (fun e => ?_)) rfl ?_ (fun j e => by have := hae j e; omega) hk
  · rcases hc with hc | hc | hc | hc
    · exact hc (.inr (.inl e))
    · omega
    · omega
    · omega
  · rintro j hj (e | e)
    · exact .inl e
    · exact .inr (.inl e)
end Go.Proofs.YtaecbclonmhbcaaGreatDoor

namespace Go.Proofs.YtaecbclonmhbcaaGreatDoor
open Go.RowKit
def ArrI (w : World) (b k : Nat) (ae : Sur) (ao : Addr) (vd : Value) (D : List Int) (s g B : Nat) (kd : Int) (gk : Nat) (wr : World) : Prop :=
  ∃ (x : Lx) (o : Int) (vt ve vn vl : Value) (cn cl : Nat), gk = mArr D x ∧ Wk wr b (ae.wk B vn vl) ao k o x vd vt ve ∧ Gath wr B kd vn vl cn cl ∧ Kept2 b k w wr ∧ x.d = D ∧ ArrP D s g x cl ∧ cl ≤ D.length + 1 ∧ cn ≤ cl
def ArrX (w : World) (b k : Nat) (ae : Sur) (ao : Addr) (vd : Value) (D : List Int) (s B : Nat) (kd c : Int) (wr : World) : Prop :=
  ∃ (y : Lx) (o : Int) (vt ve vn vl : Value) (cn cl : Nat), Wk wr b (ae.wk B vn vl) ao k o y vd vt ve ∧ Gath wr B kd vn vl cn cl ∧ Kept2 b k w wr ∧ y.d = D ∧ ArrE D s c y
theorem peek_bad {x : Lx} (h : x.ok = false) : x.peek.ok = false := by rw [peekK (by simp [h])]; exact h
theorem Wk.drew {w : World} {b k : Nat} {ae : Sur} {ao : Addr} {o : Int} {x : Lx} {vd vt ve : Value} (h : Wk w b ae ao k o x vd vt ve) : Wk w.drew b ae ao k o x vd vt ve := h.below ⟨rfl, rfl, rfl, Nat.le_refl _, fun _ _ => rfl⟩
theorem Kept2.drew {b k : Nat} {u w : World} (h : Kept2 b k u w) : Kept2 b k u w.drew := ⟨h.os, h.tape, h.output, h.size, h.block⟩
theorem Gath.drew {w : World} {B cn cl : Nat} {kd : Int} {vn vl : Value} (h : Gath w B kd vn vl cn cl) : Gath w.drew B kd vn vl cn cl := ⟨h.res, h.row, h.names, h.list, h.apart⟩
theorem Lx.Inv.comma {x : Lx} (h : x.Inv) : x.comma.Inv := ⟨h.wf.as rfl rfl rfl, h.multi, h.kind, h.tf, h.nf, h.len⟩
theorem Lx.Inv.colon {x : Lx} (h : x.Inv) : x.colon.Inv := ⟨h.wf.as rfl rfl rfl, h.multi, h.kind, h.tf, h.nf, h.len⟩
theorem delimP_d {x : Lx} (c : Int) : (x.delimP c).d = x.d := by
  unfold Lx.delimP Lx.delimS
  split
  · exact fail_d.trans peek_same.d
  · exact peek_same.d
theorem delimP_bad {x : Lx} (c : Int) (h : x.ok = false) : (x.delimP c).ok = false := by
  have h1 := delimP_shut h c
  have h2 : x.err.isNil = false := h
  show (x.delimP c).err.isNil = false
  rw [h1]; exact h2
def NumIs (w : World) (b : Nat) (ae : Sur) (ao : Addr) (x' : Lx) (vd : Value) (w' : World) : Prop := NumDone w b ae ao x' vd (.slice none 0 0) w'
set_option maxHeartbeats 8000000 in
set_option maxRecDepth 100000 in
theorem array_any {w : World} {b k : Nat} {ae : Sur} {ao : Addr} {o : Int} {x : Lx} {vd vt ve : Value} (n : Nat) (hn : n + 1 ≤ 300) (hC : WalkC n) (h : Wk w b ae ao k o x vd vt ve) (hnn : NoNum x.d) (hok : x.ok = true) (ht : TokAt x.d x) (hdl : x.delim = 91) :
    Calls Tryz.prog 55 #[.pointer (some ⟨b, 0, none⟩), .int .i64 (n + 1 : Nat), .pointer (some ⟨k, 0, none⟩)] w (WDone w b k ae ao x vd) := by
  obtain ⟨D, hD⟩ : ∃ D, x.d = D := ⟨_, rfl⟩
  obtain ⟨s, hs⟩ : ∃ s, x.start = s := ⟨_, rfl⟩
  obtain ⟨B, hB⟩ : ∃ B, w.heap.size = B := ⟨_, rfl⟩
  have HS := Lib.hid (arr_start hok ht (c := 91) (g := 1) (by decide) hdl h.inv.wf (fun q hq e => .arr ht.lt e hq))
  have HE := fun (y : Lx) (hy : ArrE x.d x.start 91 y) => hy
  have HEND : Hid (∀ y : Lx, ArrE x.d x.start 93 y → WPost x (y.delimP 93)) := fun y hy => arr_end (by decide) hy hok ht rfl rfl
  have hlen := h.inv.len
  rw [hD] at HS HEND hlen hnn
  rw [hs] at HS HEND
  have HD := Lib.hid hD
  have HC : Hid (WalkC n) := @hC
  have HNN := Lib.hid hnn
  have hbB : b < B := by rw [← hB]; exact h.lx.lt
  have h1B : 1 < B := Nat.lt_trans h.lx.b2 hbB
  have hkB : k < B := by rw [← hB]; exact lt_heap h.own
  have HAE : Hid (∀ j, ae.held j → j < B) := by intro j e; rw [← hB]; exact h.lx.held j e
  have HKH := Lib.hid h.held
  have HB := Lib.hid hB
  have hw1 : IntKind.i64.wrap (((n + 1 : Nat) : Int) - 1) = (n : Int) := by rw [IntWalk.i64_in _ (by omega)]; omega
  have hw2 : IntKind.i64.wrap (((n : Nat) : Int) + 1 - 1) = (n : Int) := by rw [IntWalk.i64_in _ (by omega)]; omega
  have hw3 : IntKind.i64.wrap (n : Int) = (n : Int) := IntWalk.i64_in _ (by omega)
  obtain ⟨G0, W0, K0⟩ := gath_start h 4 #[.int .i64 0, .bool false, .int .u64 0, .slice none 0 0, .slice none 0 0, .slice none 0 0] ⟨_, _, _, _, _, _, rfl⟩
  unfold ValRow at G0 W0 K0
  have HG0 := Lib.hid G0
  have HW0 := Lib.hid W0
  have HK0 := Lib.hid K0
  clear h hok ht hdl hD hs hC hnn HE G0 W0 K0
  go_enter Tryz.func55, Tryz.ntmps55
  go_upto_region 2 with fail
  rw [hB] at HG0 HW0
  generalize (w.alloc (.cells #[.int .i64 0, .bool false, .int .u64 0, .slice none 0 0, .slice none 0 0, .slice none 0 0] 52)).alloc (.cells #[.int .i64 4, .bool false, .int .u64 0, .slice none 0 0, .slice none 0 0, .slice none 0 0] 52) = wa at HG0 HW0 HK0 ⊢
  clear hB
  go_upto_block 0 with (go_at_call 87; refine (delim_any HW0.out.lx HW0.out.inv.wf HW0.out.inv.multi 91).mono ?_; rintro e w1 ⟨rfl, hd1⟩; have HD1 : Hid (NumIs wa b (ae.wk B (.slice none 0 0) (.slice none 0 0)) ao (x.delimP 91) vd w1) := hd1; clear hd1)
  have hd1 := HD1.out
  rw [HS.out.1] at hd1
  obtain ⟨⟨vt1, ve1, W1⟩, K1⟩ := HW0.out.num hd1 HW0.out.inv.consume (fun a => a)
  have HI : Hid (ArrI w b k ae ao vd D s 1 B 4 (mArr D x.consume) w1) := ⟨x.consume, o, vt1, ve1, .slice none 0 0, .slice none 0 0, 0, 0, rfl, W1, HG0.out.kept K1 hbB hkB, HK0.out.trans K1, HD.out, HS.out.2, Nat.zero_le _, Nat.le_refl _⟩
  clear hd1 W1 K1 HD1 HG0 HW0 HK0 HS
  go_cut [] from 11 to 25 (fun wx => ArrX w b k ae ao vd D s B 4 93 wx)
  case first =>
    go_wp2_with fail
    go_loopg [] (mArr D x.consume) (fun gk wr => ArrI w b k ae ao vd D s 1 B 4 gk wr)
    case atStart => exact HI.out
    case round =>
      obtain ⟨y, o1, vt2, ve2, vn, vl, cn, cl, hgk, hw, hg, hk, hyd, hp, hcl, hcn⟩ := hrel
      have HW := Lib.hid hw
      have HG := Lib.hid hg
      have HK := Lib.hid hk
      have HP := Lib.hid hp
      clear hw hg hk hp
      cases hi : y.isDelim 93 with
      | true =>
        go_wp2_with (go_at_call 54; refine (isDelim_any HW.out.lx HW.out.inv.wf HW.out.inv.multi 93).mono ?_; rintro e w2 ⟨rfl, hd2⟩; rw [hi]; have HD2 := Lib.hid hd2; clear hd2)
        go_meet
        obtain ⟨⟨vt3, ve3, W2⟩, K2⟩ := HW.out.num HD2.out HW.out.inv.peek peek_bad
        exact ⟨y.peek, o1, vt3, ve3, vn, vl, cn, cl, W2, HG.out.kept K2 hbB hkB, HK.out.trans K2, peek_same.d.trans hyd, HP.out.stop HNN.out hi⟩
      | false =>
        have hyo := (isDelim_no hi).1
        have HNX := fun (x2 : Lx) (a : WPost y.peek x2) (b : x2.d = D) (c : x2.Wf) => HP.out.next HNN.out (peek_same.d.trans hyd) hi a b c
        have hclD : cl ≤ D.length := by
          obtain ⟨p, sp, hf, -, hc, -⟩ := HP.out (peek_okx hyo)
          have := hf.le
          omega
        have HENT : Hid (Ent y.peek) := fun _ => .inl (by
          obtain ⟨p, sp, hf, -, -, -⟩ := HP.out (peek_okx hyo)
          have := (hf.peek HNN.out hyo).1
          rwa [← peek_same.d.trans hyd] at this)
        have HNN2 : Hid (NoNum y.peek.d) := by rw [Hid, peek_same.d.trans hyd]; exact HNN.out
        have HN2 := Lib.hid HNX
        have hcl2 : cl ≤ 200000 := by omega
        have HCL : Hid (cl + 1 ≤ D.length + 1) := Nat.succ_le_succ hclD
        clear hclD HNX hyo hcl
        go_wp2_with (go_at_call 54; refine (isDelim_any HW.out.lx HW.out.inv.wf HW.out.inv.multi 93).mono ?_; rintro e w2 ⟨rfl, hd2⟩; rw [hi]; have HD2 := Lib.hid hd2; clear hd2)
        obtain ⟨⟨vt3, ve3, W2⟩, K2⟩ := HW.out.num HD2.out HW.out.inv.peek peek_bad
        have HW2 := Lib.hid W2
        have HG2 := Lib.hid (HG.out.kept K2 hbB hkB)
        have HK2 := Lib.hid (HK.out.trans K2)
        have q5 := HG2.out.c5
        have hs2 := HG2.out.size
        clear W2 K2 HD2 HW HG HK hi
        go_region_law (first
          | (go_simp; go_at_call 32; refine (HC.out HW2.out.drew HNN2.out HENT.out).mono ?_; rintro e w3 ⟨a0, a1, a2, a3, a4, a5, rfl, h1, -, x3, o3, vt4, ve4, hw3, hk3, hd3, hp3⟩; have hg3 := HG2.out.drew.kept hk3 hbB hkB; have y5 := hg3.c5; have hs3 := hg3.size; have lt3 : B + 1 < w3.heap.size := hs3; obtain ⟨v', w4, hr, z5, f5, hg4, hw4, hk4⟩ := gath_list hw3 HKH.out hg3 HAE.out hbB h1B hcl2 h1; obtain ⟨pv, cv, rfl⟩ := hg4.formL; have HR := Lib.hid hr; have HG4 := Lib.hid hg4; have HW4 := Lib.hid hw4; have HK4 := Lib.hid (hk4 HB.out ((HK2.out.drew).trans hk3)); have HD3 := Lib.hid hd3; have HP3 := Lib.hid hp3; clear hr hg3 hg4 hw4 hk4 hw3 hk3 hd3 hp3 h1)
          | (refine step_append_run rfl (.tmp 15) (.tmp 21) 50 rfl _ _ rfl rfl HR.out ?_))
        all_goals
          go_wp2_with (go_at_call 92; refine (wantComma_any HW4.out.lx).mono ?_; rintro e w5 ⟨rfl, hd5⟩; have HD5 : Hid (NumIs _ b _ ao x3.comma vd w5) := hd5; clear hd5)
          go_roundg (mArr D x3.comma)
          case measure => rw [hgk]; exact (HN2.out x3 HP3.out (HD3.out.trans (peek_same.d.trans hyd)) HW4.out.inv.wf).2
          case rel =>
            obtain ⟨⟨vt6, ve6, W6⟩, K6⟩ := HW4.out.num HD5.out HW4.out.inv.comma (fun a => a)
            exact ⟨x3.comma, o3, vt6, ve6, vn, _, cn, cl + 1, rfl, W6, HG4.out.kept K6 hbB hkB, HK4.out.trans K6, HD3.out.trans (peek_same.d.trans hyd), (HN2.out x3 HP3.out (HD3.out.trans (peek_same.d.trans hyd)) HW4.out.inv.wf).1, HCL.out, by omega⟩
  case rest =>
    obtain ⟨y, o1, vt2, ve2, vn, vl, cn, cl, hw, hg, hk, hyd, hp⟩ := hcut
    have HW := Lib.hid hw
    have HG := Lib.hid hg
    have HK := Lib.hid hk
    have HPE := Lib.hid (HEND.out y hp)
    clear hw hg hk hp
    have hinv := delimP_inv HW.out.inv 93
    have hmul := HW.out.inv.multi
    go_wp2_with (go_at_call 87; refine (delim_any HW.out.lx HW.out.inv.wf HW.out.inv.multi 93).mono ?_; rintro e w2 ⟨rfl, hd2⟩; obtain ⟨⟨vt3, ve3, W2⟩, K2⟩ := HW.out.num hd2 (delimP_inv HW.out.inv 93) (delimP_bad 93); have HW2 := Lib.hid W2; have hg2 := HG.out.kept K2 hbB hkB; have HG2 := Lib.hid hg2; have HK2 := Lib.hid (HK.out.trans K2); obtain ⟨pn, qn, rfl⟩ := hg2.formN; obtain ⟨pl, ql, rfl⟩ := hg2.formL; have hrow := hg2.row; obtain ⟨r0, r1, r2, r3, r4, r5, hres⟩ := hg2.res; unfold ValRow at hrow; have y0 := cell_of_heap hrow 0 rfl; have y1 := cell_of_heap hrow 1 rfl; have y2 := cell_of_heap hrow 2 rfl; have y3 := cell_of_heap hrow 3 rfl; have y4 := cell_of_heap hrow 4 rfl; have y5 := cell_of_heap hrow 5 rfl; have z0 := cell_of_heap hres 0 rfl; have z1 := cell_of_heap hres 1 rfl; have z2 := cell_of_heap hres 2 rfl; have z3 := cell_of_heap hres 3 rfl; have z4 := cell_of_heap hres 4 rfl; have z5 := cell_of_heap hres 5 rfl; have f0 := free_of_heap hres 0; have f1 := free_of_heap hres 1; have f2 := free_of_heap hres 2; have f3 := free_of_heap hres 3; have f4 := free_of_heap hres 4; have f5 := free_of_heap hres 5; have HRES := Lib.hid hres; clear hd2 W2 K2 hg2 hrow hres)
    refine bodyPost_ret (v := .agg #[.int .i64 4, .bool false, .int .u64 0, .slice none 0 0, .slice pn cn qn, .slice pl cl ql]) ?_ rfl ⟨_, _, _, _, _, _, rfl, ?_, vshape, y.delimP 93, o1, vt3, ve3, gath_end HW2.out HKH.out HAE.out HG2.out hbB h1B (by simp) (fun j hj => ?_), ?_, ?_, HPE.out⟩
    · exact results_cell_row rfl _ _ B 52 _ (0, 0) _ rfl (heap_setCell (heap_setCell (heap_setCell (heap_setCell (heap_setCell (heap_setCell HRES.out 0 _) 1 _) 2 _) 3 _) 4 _) 5 _) Tryz.underlying52 rfl (by kernel_rfl)
    · intro u hu
      simp only [List.mem_cons, List.not_mem_nil, or_false] at hu
      rcases hu with rfl | rfl | rfl | rfl | rfl | rfl <;> rfl
    · rw [heap_setCell_other _ _ hj, heap_setCell_other _ _ hj, heap_setCell_other _ _ hj, heap_setCell_other _ _ hj, heap_setCell_other _ _ hj, heap_setCell_other _ _ hj]
    · have hBB := HB.out
      iterate 6 refine Kept2.setNew ?_ (by omega) _ _
      exact HK2.out
    · exact (delimP_d 93).trans (hyd.trans HD.out.symm)
end Go.Proofs.YtaecbclonmhbcaaGreatDoor
