/- internal/strconv.special over bytes of numbers. internal/strconv.atof64 over bytes of numbers. internal/strconv.atof32 over bytes of numbers. internal/strconv.ParseFloat over bytes of numbers. internal/strconv.special over whatever bytes. -/
import Derived.Test.YtaecbclonmhbcaaGreatDoorP16
import Derived.Test.YtaecbclonmhbcaaGreatDoorP18
set_option linter.unusedVariables false
set_option linter.unusedSimpArgs false
namespace Go.Proofs.YtaecbclonmhbcaaGreatDoor
open Go.RowKit
theorem NumS.tail {s : ByteArray} (h : NumS s) (k : Nat) : NumS (s.extract k s.size) := by
  intro j hj
  have h1 : (s.extract k s.size).size = min s.size s.size - k := ByteArray.size_extract
  have e : (s.extract k s.size)[j] = s[k + j]'(by omega) := ByteArray.getElem_extract hj
  rw [e]
  exact h _ _
end Go.Proofs.YtaecbclonmhbcaaGreatDoor

namespace Go.Proofs.YtaecbclonmhbcaaGreatDoor
open Go.RowKit
def decRow : Array Value := (List.replicate 800 (Value.int .u8 0)).toArray ++ #[.int .i64 0, .int .i64 0, .bool false, .bool false]
theorem alloc_dec (W : World) : (Instr.alloc 213 true (.tuple #[])).run Tryz.prog W = .ok (.pointer (some ⟨W.heap.size, 0, none⟩)) (W.alloc (.cells decRow 213 (0, 0))) := by
  show _ = _
  kernel_rfl
theorem decRow_dig (i : Nat) (h : i < 800) : decRow[i]? = some (.int .u8 0) := by
  have hz : (List.replicate 800 (Value.int .u8 0)).toArray.size = 800 := by rw [List.size_toArray, List.length_replicate]
  unfold decRow
  rw [Array.getElem?_append_left (by rw [hz]; exact h), List.getElem?_toArray, List.getElem?_replicate, if_pos h]
theorem dec_new (W : World) : DecAt (W.alloc (.cells decRow 213 (0, 0))) W.heap.size (fun _ => 0) 0 0 := by
  have hh := heap_alloc_new W (.cells decRow 213 (0, 0))
  refine ⟨fun i hi => cell_of_heap hh i (decRow_dig i hi), cell_of_heap hh 800 (by kernel_rfl), cell_of_heap hh 801 (by kernel_rfl), ⟨false, cell_of_heap hh 802 (by kernel_rfl)⟩, ⟨false, cell_of_heap hh 803 (by kernel_rfl)⟩, fun i => free_of_heap hh i⟩
theorem Kept.out {u v : World} {B b : Nat} (h : Kept B u v) (hB : u.heap.size ≤ B) : Kept b u v :=
  ⟨h.os, h.tape, h.output, h.size, fun k hk _ => h.block k hk (by omega)⟩
theorem Kept.old {u v : World} {B : Nat} (h : Kept B u v) (hB : u.heap.size ≤ B) {a : Addr} {x : Value} (hc : u.cell? a = some x) : v.cell? a = some x :=
  h.cell hc (by have := World.block_lt_of_cell? u a hc; omega)
theorem Kept.grown {u v : World} (b : Nat) (h : u.grownBy v none) : Kept b u v := ⟨h.os, h.tape, h.output, h.size, fun k hk _ => h.block k hk (by simp)⟩
theorem Kept.into {u v x : World} {B : Nat} (h : Kept B u v) (k : Kept v.heap.size v x) (hB : u.heap.size = B) : Kept B u x :=
  h.trans (k.out (Nat.le_refl _))
structure FlT (w : World) : Prop where
  opt : ∃ y, w.cell? ⟨7, 0, none⟩ = some (.bool y)
  i64 : w.cell? ⟨8, 0, none⟩ = some (.int .u64 52) ∧ w.cell? ⟨8, 1, none⟩ = some (.int .u64 11) ∧ w.cell? ⟨8, 2, none⟩ = some (.int .i64 (-1023))
  i32 : w.cell? ⟨6, 0, none⟩ = some (.int .u64 23) ∧ w.cell? ⟨6, 1, none⟩ = some (.int .u64 8) ∧ w.cell? ⟨6, 2, none⟩ = some (.int .i64 (-127))
  p64 : ∃ T, PowT .f64 11 23 w T
  p32 : ∃ T, PowT .f32 9 11 w T
  p10 : ∀ p : Int, -348 ≤ p → p ≤ 347 → ∃ hi lo : Nat, hi < 18446744073709551616 ∧ lo < 18446744073709551616 ∧ w.cell? ⟨12, (p + 348).toNat * 2, none⟩ = some (.int .u64 hi) ∧ w.cell? ⟨12, (p + 348).toNat * 2 + 1, none⟩ = some (.int .u64 lo)
  ch : ∀ b, w.heap.size ≤ b → CheatT w b
  p9 : ∀ b, w.heap.size ≤ b → Pow9 w b
  sh8 : ∃ (c : Array Value) (t : TypeId), w.heap[8]? = some (.cells c t (0, 0))
  sh6 : ∃ (c : Array Value) (t : TypeId), w.heap[6]? = some (.cells c t (0, 0))
theorem Kept.free {B g : Nat} {w w' : World} (hK : Kept B w w') (hB : w.heap.size ≤ B) (h : ∃ (c : Array Value) (t : TypeId), w.heap[g]? = some (.cells c t (0, 0))) : ∃ (c : Array Value) (t : TypeId), w'.heap[g]? = some (.cells c t (0, 0)) := by
  obtain ⟨c, t, h⟩ := h
  have := lt_heap h
  exact ⟨c, t, hK.heap h (by omega)⟩
theorem PowT.kept {k : FloatKind} {v n : Nat} {w w' : World} {T : Nat → Nat} {B : Nat} (h : PowT k v n w T) (hK : Kept B w w') (hB : w.heap.size ≤ B) : PowT k v n w' T := by
  obtain ⟨g, o, cp, h1, h2⟩ := h.at_
  exact ⟨g, o, cp, hK.old hB h1, fun i hi => hK.old hB (h2 i hi)⟩
theorem FlT.kept {w w' : World} {B : Nat} (h : FlT w) (hK : Kept B w w') (hB : w.heap.size ≤ B) : FlT w' :=
  ⟨h.opt.imp fun _ a => hK.old hB a, ⟨hK.old hB h.i64.1, hK.old hB h.i64.2.1, hK.old hB h.i64.2.2⟩, ⟨hK.old hB h.i32.1, hK.old hB h.i32.2.1, hK.old hB h.i32.2.2⟩,
    h.p64.imp fun _ a => a.kept hK hB, h.p32.imp fun _ a => a.kept hK hB,
    fun p h1 h2 => by obtain ⟨hi, lo, a1, a2, a3, a4⟩ := h.p10 p h1 h2; exact ⟨hi, lo, a1, a2, hK.old hB a3, hK.old hB a4⟩,
    fun b hb => (h.ch b (Nat.le_trans hK.size hb)).kept (hK.out hB), fun b hb => (h.p9 b (Nat.le_trans hK.size hb)).kept (hK.out hB), hK.free hB h.sh8, hK.free hB h.sh6⟩
theorem NumS.head {s : ByteArray} (h : NumS s) (i : Nat) : NumS (s.extract 0 i) := by
  intro j hj
  have h1 : (s.extract 0 i).size = min i s.size - 0 := ByteArray.size_extract
  have e : (s.extract 0 i)[j] = s[0 + j]'(by omega) := ByteArray.getElem_extract hj
  rw [e]
  exact h _ _
def ErrV (e : Value) : Prop := e = .nilIface ∨ e = .iface 170 (.int .i64 1) ∨ e = .iface 170 (.int .i64 2)
theorem rangeV_err (b : Bool) : ErrV (rangeV b) := by cases b; exact .inl rfl; exact .inr (.inl rfl)
def FlPost (k : FloatKind) (s : ByteArray) (w : World) (e : Ending) (w' : World) : Prop :=
  ∃ (x : Nat) (n : Nat) (er : Value), e = .returned (.tuple #[.float k x, .int .i64 n, er]) ∧ n ≤ s.size ∧ ErrV er ∧ Kept w.heap.size w w'
def feq (k : FloatKind) (x y : Nat) : Bool := k.format.order x y == some .eq
theorem run_feq (k : FloatKind) (t : TypeId) (x y : Nat) (w : World) : (binOp .eql t (.float k x) (.float k y)).run Tryz.prog w = .ok (.bool (feq k x y)) w := by
  cases k <;> simp [binOp, Op.floatCmp, feq]
theorem results_three {fn : Func} {t u v : Tmp} (h : fn.results = #[.tmp t, .tmp u, .tmp v]) (tmps : Array Value) (P : Program) (w : World) :
    (results fn tmps).run P w = .ok (.tuple #[tmps.getD t undef, tmps.getD u undef, tmps.getD v undef]) w := by
  simp [results, h]
def PfPost (k : FloatKind) (w : World) (e : Ending) (w' : World) : Prop := ∃ (x : Nat) (r : Bool), e = .returned (.tuple #[.float k x, rangeV r]) ∧ Kept w.heap.size w w'
theorem pf64_any (W : World) (hF : FlT W) (d p sg : Int) (h0 : 0 < d) (h1 : d < 18446744073709551616) (hp0 : -348 ≤ p) (hp1 : p ≤ 347) : Calls Tryz.prog 181 #[.int .u64 d, .int .i64 p, .int .u64 sg] W (PfPost .f64 W) := by
  obtain ⟨n, rfl⟩ := Int.eq_ofNat_of_zero_le (show 0 ≤ d by omega)
  obtain ⟨hi, lo, a1, a2, a3, a4⟩ := hF.p10 p hp0 hp1
  exact (parseFloat64_any W n p sg hp0 hp1 (by omega) (by omega) hi lo a1 a2 a3 a4).mono fun e w' h => ⟨_, _, h.1, Kept.grown _ h.2⟩
theorem fb64_of (wc w3 : World) (hF : FlT wc) (hk : Kept wc.heap.size wc w3) (h : ∃ (f : Nat → Int) (nd : Nat) (dp : Int), DecAt w3 wc.heap.size f nd dp ∧ (nd = 0 ∨ DGood f nd)) :
    Calls Tryz.prog 177 #[.pointer (some ⟨wc.heap.size, 0, none⟩), .pointer (some ⟨8, 0, none⟩)] w3 (SomeFl wc.heap.size w3) := by
  obtain ⟨f, nd, dp, h1, h2⟩ := h
  have hb := World.block_lt_of_cell? wc _ hF.i64.1
  exact floatbits_64 wc.heap.size 8 f nd dp w3 h1 h2 ((hF.ch _ (Nat.le_refl _)).kept hk) ((hF.p9 _ (Nat.le_refl _)).kept hk)
    ⟨Nat.ne_of_lt hb, hk.old (Nat.le_refl _) hF.i64.1, hk.old (Nat.le_refl _) hF.i64.2.1, hk.old (Nat.le_refl _) hF.i64.2.2⟩
end Go.Proofs.YtaecbclonmhbcaaGreatDoor

namespace Go.Proofs.YtaecbclonmhbcaaGreatDoor
open Go.RowKit
set_option maxHeartbeats 1000000 in
theorem bool2s_any (b : Bool) (w : World) : Calls Tryz.prog 172 #[.bool b] w fun e w' => e = .returned (.int .u32 (b2 b)) ∧ w = w' := by
  cases b
  · go_enter Tryz.func172, Tryz.ntmps172
    go_wp2
    go_ret
    exact ⟨rfl, rfl⟩
  · go_enter Tryz.func172, Tryz.ntmps172
    go_wp2
    go_ret
    exact ⟨rfl, rfl⟩
theorem pf32_any (W : World) (hF : FlT W) (d p sg : Int) (h0 : 0 < d) (h1 : d < 18446744073709551616) (hp0 : -348 ≤ p) (hp1 : p ≤ 347) : Calls Tryz.prog 175 #[.int .u64 d, .int .i64 p, .int .u32 sg] W (PfPost .f32 W) := by
  obtain ⟨n, rfl⟩ := Int.eq_ofNat_of_zero_le (show 0 ≤ d by omega)
  obtain ⟨hi, lo, a1, a2, a3, a4⟩ := hF.p10 p hp0 hp1
  exact (parseFloat32_any W n p sg hp0 hp1 (by omega) (by omega) hi lo a1 a2 a3 a4).mono fun e w' h => ⟨_, _, h.1, Kept.grown _ h.2⟩
theorem fb32_of (wc w3 : World) (hF : FlT wc) (hk : Kept wc.heap.size wc w3) (h : ∃ (f : Nat → Int) (nd : Nat) (dp : Int), DecAt w3 wc.heap.size f nd dp ∧ (nd = 0 ∨ DGood f nd)) :
    Calls Tryz.prog 177 #[.pointer (some ⟨wc.heap.size, 0, none⟩), .pointer (some ⟨6, 0, none⟩)] w3 (SomeFl wc.heap.size w3) := by
  obtain ⟨f, nd, dp, h1, h2⟩ := h
  have hb := World.block_lt_of_cell? wc _ hF.i32.1
  exact floatbits_32 wc.heap.size 6 f nd dp w3 h1 h2 ((hF.ch _ (Nat.le_refl _)).kept hk) ((hF.p9 _ (Nat.le_refl _)).kept hk)
    ⟨Nat.ne_of_lt hb, hk.old (Nat.le_refl _) hF.i32.1, hk.old (Nat.le_refl _) hF.i32.2.1, hk.old (Nat.le_refl _) hF.i32.2.2⟩
end Go.Proofs.YtaecbclonmhbcaaGreatDoor

namespace Go.Proofs.YtaecbclonmhbcaaGreatDoor
open Go.RowKit
theorem run_widen (x : Nat) (W : World) : ∃ r n, (convert 113 93 (.float .f32 x)).run Tryz.prog W = .ok (.float .f64 r) (W.drewN n) := by
  have u1 : Tryz.prog.underlying 113 = some (.float .f32) := by kernel_rfl
  have u2 : Tryz.prog.underlying 93 = some (.float .f64) := by kernel_rfl
  have h : (convert 113 93 (.float .f32 x)).run Tryz.prog W = (Conv.floatToFloat .f32 x .f64).run Tryz.prog W := by
    simp [convert, run_underlying u1, run_underlying u2]
  rw [h]
  unfold Conv.floatToFloat
  rw [if_neg (by decide)]
  split
  · exact ⟨_, 1, by simp [choose, Sem.run, Question.forced]; exact ⟨rfl, rfl⟩⟩
  · exact ⟨_, 0, rfl⟩
  · rename_i s m e hd
    by_cases hi : (FloatKind.f64.decode (FloatKind.f64.encode (.number s m e))).isInfinity = true
    · exact ⟨_, 1, by simp [hi, choose]; first | rfl | exact ⟨rfl, rfl⟩⟩
    · exact ⟨_, 0, by simp [hi]; first | rfl | exact ⟨rfl, rfl⟩⟩
theorem run_narrow (x : Nat) (W : World) : ∃ r n, (convert 93 113 (.float .f64 x)).run Tryz.prog W = .ok (.float .f32 r) (W.drewN n) := by
  have u1 : Tryz.prog.underlying 113 = some (.float .f32) := by kernel_rfl
  have u2 : Tryz.prog.underlying 93 = some (.float .f64) := by kernel_rfl
  have h : (convert 93 113 (.float .f64 x)).run Tryz.prog W = (Conv.floatToFloat .f64 x .f32).run Tryz.prog W := by
    simp [convert, run_underlying u1, run_underlying u2]
  rw [h]
  unfold Conv.floatToFloat
  rw [if_neg (by decide)]
  split
  · exact ⟨_, 1, by simp [choose, Sem.run, Question.forced]; exact ⟨rfl, rfl⟩⟩
  · exact ⟨_, 0, rfl⟩
  · rename_i s m e hd
    by_cases hi : (FloatKind.f32.decode (FloatKind.f32.encode (.number s m e))).isInfinity = true
    · exact ⟨_, 1, by simp [hi, choose]; first | rfl | exact ⟨rfl, rfl⟩⟩
    · exact ⟨_, 0, by simp [hi]; first | rfl | exact ⟨rfl, rfl⟩⟩
noncomputable def narV (x : Nat) (W : World) : Nat := (run_narrow x W).choose
noncomputable def narN (x : Nat) (W : World) : Nat := (run_narrow x W).choose_spec.choose
theorem run_narrowF (x : Nat) (W : World) : (convert 93 113 (.float .f64 x)).run Tryz.prog W = .ok (.float .f32 (narV x W)) (W.drewN (narN x W)) := (run_narrow x W).choose_spec.choose_spec
noncomputable def widV (x : Nat) (W : World) : Nat := (run_widen x W).choose
noncomputable def widN (x : Nat) (W : World) : Nat := (run_widen x W).choose_spec.choose
theorem run_widenF (x : Nat) (W : World) : (convert 113 93 (.float .f32 x)).run Tryz.prog W = .ok (.float .f64 (widV x W)) (W.drewN (widN x W)) := (run_widen x W).choose_spec.choose_spec
def PfV (w : World) (e : Ending) (w' : World) : Prop := ∃ (x : Nat) (er : Value), e = .returned (.tuple #[.float .f64 x, er]) ∧ ErrV er ∧ Kept w.heap.size w w'
end Go.Proofs.YtaecbclonmhbcaaGreatDoor

namespace Go.Proofs.YtaecbclonmhbcaaGreatDoor
open Go.RowKit
def PfxP (s p : ByteArray) (w : World) (e : Ending) (w' : World) : Prop := ∃ k : Nat, e = .returned (.int .i64 k) ∧ k ≤ s.size ∧ k ≤ p.size ∧ w = w'
set_option maxHeartbeats 4000000 in
set_option maxRecDepth 100000 in
theorem pfx_any (s p : ByteArray) (w : World) (hs : s.size ≤ 100000) (hp : p.size ≤ 8) :
    Calls Tryz.prog 195 #[.string s, .string p] w (PfxP s p w) := by
  obtain ⟨E, hmin⟩ : ∃ E : Nat, min (p.size : Int) (s.size : Int) = E := ⟨min p.size s.size, by omega⟩
  have hE1 : E ≤ s.size := by omega
  have hE2 : E ≤ p.size := by omega
  go_enter Tryz.func195, Tryz.ntmps195
  go_wp2
  go_loop [6] (fun a => ∃ k : Nat, a = .int .i64 k ∧ k ≤ E) (fun a => E - (intOf a).toNat)
  case atStart => exact ⟨0, rfl, Nat.zero_le _⟩
  case round =>
    obtain ⟨k, rfl, hk⟩ := hrel
    by_cases hlt : k < E
    case neg =>
      obtain rfl : k = E := by omega
      go_wp2
      go_ret
      exact ⟨k, rfl, hE1, hE2, rfl⟩
    case pos =>
      have h1 : k < s.size := by omega
      have h2 : k < p.size := by omega
      obtain ⟨c, hq⟩ : ∃ c, (s[k].toNat : Int) = c := ⟨_, rfl⟩
      obtain ⟨d, hd⟩ : ∃ d, (p[k].toNat : Int) = d := ⟨_, rfl⟩
      by_cases hc : 65 ≤ c ∧ c ≤ 90
      · obtain ⟨hc1, hc2⟩ := hc
        have hw : IntKind.u8.wrap (c + 32) = c + 32 := by rw [IntKind.wrap_u8]; omega
        by_cases he : c + 32 = d
        · have n1 : (c + 32 != d) = false := by simp [he]
          clear he
          go_wp2
          go_round
          case rel => exact ⟨k + 1, by go_num, by omega⟩
          case measure => simp [intOf]; omega
        · have n1 : (c + 32 != d) = true := bne_iff_ne.2 he
          go_wp2
          go_ret
          exact ⟨k, rfl, by omega, by omega, rfl⟩
      · have hc' : c < 65 ∨ 90 < c := by omega
        clear hc
        by_cases he : c = d
        · have n1 : (c != d) = false := by simp [he]
          clear he
          rcases hc' with hc | hc
          all_goals
            go_wp2
            go_round
            case rel => exact ⟨k + 1, by go_num, by omega⟩
            case measure => simp [intOf]; omega
        · have n1 : (c != d) = true := bne_iff_ne.2 he
          rcases hc' with hc | hc
          all_goals
            go_wp2
            go_ret
            exact ⟨k, rfl, by omega, by omega, rfl⟩
set_option maxHeartbeats 1000000 in
theorem inf_any (sg : Int) (w : World) : Calls Tryz.prog 196 #[.int .i64 sg] w fun e w' => (∃ x, e = .returned (.float .f64 x)) ∧ w = w' := by
  have hb := frombits_run
  go_enter Tryz.func196, Tryz.ntmps196
  go_wp2
  all_goals
    go_ret
    exact ⟨⟨_, rfl⟩, rfl⟩
set_option maxHeartbeats 1000000 in
theorem nan_any (w : World) : Calls Tryz.prog 197 #[] w fun e w' => (∃ x, e = .returned (.float .f64 x)) ∧ w = w' := by
  have hb := frombits_run
  go_enter Tryz.func197, Tryz.ntmps197
  go_wp2
  go_ret
  exact ⟨⟨_, rfl⟩, rfl⟩
def SpP (s : ByteArray) (w : World) (e : Ending) (w' : World) : Prop := ∃ (x : Nat) (n : Int) (ok : Bool), e = .returned (.tuple #[.float .f64 x, .int .i64 n, .bool ok]) ∧ 0 ≤ n ∧ n ≤ s.size ∧ w = w'
theorem spx_cases (z : Int) (h0 : 0 ≤ z) (h8 : z ≤ 8) : z = 3 ∨ z = 8 ∨ (¬ 3 < z ∧ (z == 3) = false ∧ (z == 8) = false) ∨ (3 < z ∧ z < 8 ∧ (z == 3) = false) := by
  by_cases a : z = 3
  · exact .inl a
  by_cases b : z = 8
  · exact .inr (.inl b)
  by_cases c : 3 < z
  · exact .inr (.inr (.inr ⟨c, by omega, beq_eq_false_iff_ne.2 a⟩))
  · exact .inr (.inr (.inl ⟨c, beq_eq_false_iff_ne.2 a, beq_eq_false_iff_ne.2 b⟩))
set_option maxHeartbeats 8000000 in
set_option maxRecDepth 100000 in
theorem special_all (s : ByteArray) (w : World) (hs : s.size ≤ 100000) : Calls Tryz.prog 169 #[.string s] w (SpP s w) := by
  by_cases h0 : s.size = 0
  · have hz : ((s.size : Int) == 0) = true := by simp [h0]
    go_enter Tryz.func169, Tryz.ntmps169
    go_wp2
    all_goals
      (try rw [Exit.noGoto_ret])
      exact bodyPost_ret (results_three rfl _ _ _) rfl ⟨_, _, _, rfl, by omega, by omega, rfl⟩
  have hz : ((s.size : Int) == 0) = false := beq_eq_false_iff_ne.2 (by omega)
  have h1 : 0 < s.size := by omega
  have h1i : (1 : Int) ≤ (s.size : Int) := by omega
  have hes : (s.extract 1 s.size).size = s.size - 1 := by rw [ByteArray.size_extract]; omega
  have HI0 := Lib.hid (fun (t : ByteArray) (ht : t.size ≤ 100000) => pfx_any t { data := #[105, 110, 102, 105, 110, 105, 116, 121] } w ht (by decide))
  have HN0 := Lib.hid (pfx_any s { data := #[110, 97, 110] } w hs (by decide))
  have HES := Lib.hid hes
  have HLE := Lib.hid (show (s.extract 1 s.size).size ≤ 100000 by omega)
  clear hes h0
  obtain ⟨c, hq⟩ : ∃ c, (s[0].toNat : Int) = c := ⟨_, rfl⟩
  go_enter Tryz.func169, Tryz.ntmps169
  by_cases h43 : c = 43
  · subst h43
    as_aux_lemma =>
      go_wp2_with (first
        | (go_at_call 195; refine (HI0.out _ HLE.out).mono ?_; rintro e w1 ⟨k, rfl, hk1, hk2, rfl⟩; rw [HES.out] at hk1; change k ≤ 8 at hk2; have hk3 : k + 1 ≤ s.size := (by omega); obtain ⟨z, hz⟩ : ∃ z, (k : Int) = z := ⟨_, rfl⟩; have hz0 : 0 ≤ z := (by omega); have hz8 : z ≤ 8 := (by omega); have hzs : z + 1 ≤ s.size := (by omega); rw [hz]; clear hz hk1 hk2 hk3; rcases spx_cases z hz0 hz8 with rfl | rfl | ⟨a1, a2, a3⟩ | ⟨a1, a2, a3⟩)
        | (go_at_call 196; refine (inf_any _ _).mono ?_; rintro e w1 ⟨⟨x, rfl⟩, rfl⟩))
      all_goals
        (try rw [Exit.noGoto_ret])
        exact bodyPost_ret (results_three rfl _ _ _) rfl ⟨_, _, _, rfl, by omega, by omega, rfl⟩
  by_cases h45 : c = 45
  · subst h45
    as_aux_lemma =>
      go_wp2_with (first
        | (go_at_call 195; refine (HI0.out _ HLE.out).mono ?_; rintro e w1 ⟨k, rfl, hk1, hk2, rfl⟩; rw [HES.out] at hk1; change k ≤ 8 at hk2; have hk3 : k + 1 ≤ s.size := (by omega); obtain ⟨z, hz⟩ : ∃ z, (k : Int) = z := ⟨_, rfl⟩; have hz0 : 0 ≤ z := (by omega); have hz8 : z ≤ 8 := (by omega); have hzs : z + 1 ≤ s.size := (by omega); rw [hz]; clear hz hk1 hk2 hk3; rcases spx_cases z hz0 hz8 with rfl | rfl | ⟨a1, a2, a3⟩ | ⟨a1, a2, a3⟩)
        | (go_at_call 196; refine (inf_any _ _).mono ?_; rintro e w1 ⟨⟨x, rfl⟩, rfl⟩))
      all_goals
        (try rw [Exit.noGoto_ret])
        exact bodyPost_ret (results_three rfl _ _ _) rfl ⟨_, _, _, rfl, by omega, by omega, rfl⟩
  by_cases h105 : c = 105
  · subst h105
    as_aux_lemma =>
      go_wp2_with (first
        | (go_at_call 195; refine (HI0.out s hs).mono ?_; rintro e w1 ⟨k, rfl, hk1, hk2, rfl⟩; change k ≤ 8 at hk2; obtain ⟨z, hz⟩ : ∃ z, (k : Int) = z := ⟨_, rfl⟩; have hz0 : 0 ≤ z := (by omega); have hz8 : z ≤ 8 := (by omega); have hzs : z ≤ s.size := (by omega); rw [hz]; clear hz hk1 hk2; rcases spx_cases z hz0 hz8 with rfl | rfl | ⟨a1, a2, a3⟩ | ⟨a1, a2, a3⟩)
        | (go_at_call 196; refine (inf_any _ _).mono ?_; rintro e w1 ⟨⟨x, rfl⟩, rfl⟩))
      all_goals
        (try rw [Exit.noGoto_ret])
        exact bodyPost_ret (results_three rfl _ _ _) rfl ⟨_, _, _, rfl, by omega, by omega, rfl⟩
  by_cases h73 : c = 73
  · subst h73
    as_aux_lemma =>
      go_wp2_with (first
        | (go_at_call 195; refine (HI0.out s hs).mono ?_; rintro e w1 ⟨k, rfl, hk1, hk2, rfl⟩; change k ≤ 8 at hk2; obtain ⟨z, hz⟩ : ∃ z, (k : Int) = z := ⟨_, rfl⟩; have hz0 : 0 ≤ z := (by omega); have hz8 : z ≤ 8 := (by omega); have hzs : z ≤ s.size := (by omega); rw [hz]; clear hz hk1 hk2; rcases spx_cases z hz0 hz8 with rfl | rfl | ⟨a1, a2, a3⟩ | ⟨a1, a2, a3⟩)
        | (go_at_call 196; refine (inf_any _ _).mono ?_; rintro e w1 ⟨⟨x, rfl⟩, rfl⟩))
      all_goals
        (try rw [Exit.noGoto_ret])
        exact bodyPost_ret (results_three rfl _ _ _) rfl ⟨_, _, _, rfl, by omega, by omega, rfl⟩
  by_cases h110 : c = 110
  · subst h110
    as_aux_lemma =>
      go_wp2_with (first
        | (go_at_call 195; refine (HN0.out).mono ?_; rintro e w1 ⟨k, rfl, hk1, hk2, rfl⟩; change k ≤ 3 at hk2; obtain ⟨z, hz⟩ : ∃ z, (k : Int) = z := ⟨_, rfl⟩; have hz0 : 0 ≤ z := (by omega); have hz8 : z ≤ 8 := (by omega); have hzs : z ≤ s.size := (by omega); rw [hz]; clear hz hk1 hk2; rcases spx_cases z hz0 hz8 with rfl | rfl | ⟨a1, a2, a3⟩ | ⟨a1, a2, a3⟩)
        | (go_at_call 197; refine (nan_any _).mono ?_; rintro e w1 ⟨⟨x, rfl⟩, rfl⟩))
      all_goals
        (try rw [Exit.noGoto_ret])
        exact bodyPost_ret (results_three rfl _ _ _) rfl ⟨_, _, _, rfl, by omega, by omega, rfl⟩
  by_cases h78 : c = 78
  · subst h78
    as_aux_lemma =>
      go_wp2_with (first
        | (go_at_call 195; refine (HN0.out).mono ?_; rintro e w1 ⟨k, rfl, hk1, hk2, rfl⟩; change k ≤ 3 at hk2; obtain ⟨z, hz⟩ : ∃ z, (k : Int) = z := ⟨_, rfl⟩; have hz0 : 0 ≤ z := (by omega); have hz8 : z ≤ 8 := (by omega); have hzs : z ≤ s.size := (by omega); rw [hz]; clear hz hk1 hk2; rcases spx_cases z hz0 hz8 with rfl | rfl | ⟨a1, a2, a3⟩ | ⟨a1, a2, a3⟩)
        | (go_at_call 197; refine (nan_any _).mono ?_; rintro e w1 ⟨⟨x, rfl⟩, rfl⟩))
      all_goals
        (try rw [Exit.noGoto_ret])
        exact bodyPost_ret (results_three rfl _ _ _) rfl ⟨_, _, _, rfl, by omega, by omega, rfl⟩
  have n43 : (c == 43) = false := beq_eq_false_iff_ne.2 h43
  have n45 : (c == 45) = false := beq_eq_false_iff_ne.2 h45
  have n105 : (c == 105) = false := beq_eq_false_iff_ne.2 h105
  have n73 : (c == 73) = false := beq_eq_false_iff_ne.2 h73
  have n110 : (c == 110) = false := beq_eq_false_iff_ne.2 h110
  have n78 : (c == 78) = false := beq_eq_false_iff_ne.2 h78
  go_wp2_with fail
  all_goals
    (try rw [Exit.noGoto_ret])
    exact bodyPost_ret (results_three rfl _ _ _) rfl ⟨_, _, _, rfl, by omega, by omega, rfl⟩
end Go.Proofs.YtaecbclonmhbcaaGreatDoor
