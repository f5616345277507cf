/- impl.owned and impl.lexer. -/
import Derived.Test.YtaecbclonmhbcaaGreatDoorBad
import Derived.Lib.SlFresh
import Derived.OwnWalk
namespace Go.Proofs.YtaecbclonmhbcaaGreatDoor
open Go.RowKit

theorem info5 : (Tryz.prog.info? 5).map (fun i => (i.zero, i.size, i.bytes)) = some (some (Value.int IntKind.u8 0), 1, 1) := by kernel_rfl

/-- The slice value v' is a copy of the bytes l: none, or a block that is new since w. -/
def FreshAt (w w' : World) (v' : Value) (l : List Int) : Prop :=
  w.grownBy w' none ∧ ∀ A : Nat → Prop, (∀ k, A k → k < w.heap.size) → BytesAt w' A v' l

set_option maxHeartbeats 400000 in
theorem owned_any {w : World} {A : Nat → Prop} {v : Value} {l : List Int} (h : BytesAt w A v l) (hl : l.length ≤ 140737488355328) :
    Calls Tryz.prog 36 #[v] w fun e w' => ∃ v', e = .returned v' ∧ FreshAt w w' v' l := by
  obtain ⟨i, hi, hzz⟩ := Option.map_eq_some_iff.1 info5
  simp only [Prod.mk.injEq] at hzz
  obtain ⟨hz, hsz, hby⟩ := hzz
  rcases h with ⟨rfl, rfl⟩ | ⟨bd, o, cap, rfl, hc, hn, hx⟩
  · have hr := run_append_owned_none (P := Tryz.prog) w 0 22 22 5 i 1 Tryz.underlying22 hi (.slice none 0 0) 0 [] (World.ownsRow_nil w 0 5 1)
    go_enter Tryz.func36, Tryz.ntmps36
    go_wp2_with (at_builtin; refine Lib.wpList_append_run_sl _ rfl _ _ 22 rfl _ _ rfl rfl hr ?_)
    go_ret
    exact ⟨_, rfl, ⟨rfl, rfl, rfl, Nat.le_refl _, fun _ _ _ => rfl⟩, fun _ _ => .inl ⟨rfl, rfl⟩⟩
  · by_cases h0 : l.length = 0
    · have hl0 : l = [] := List.eq_nil_of_length_eq_zero h0
      subst hl0
      have hr : (Builtin.append_ #[22, 22] 22 #[.slice none 0 0, .slice (some ⟨bd, o, none⟩) 0 cap]).run Tryz.prog w = .ok (.slice none 0 0) w := by
        simp [Builtin.append_, run_underlying Tryz.underlying22, sizeOf, typeInfo, hi, Builtin.lenOf, Builtin.firstCells, loadCells, loadCellsFrom]
      clear hx
      go_enter Tryz.func36, Tryz.ntmps36
      go_wp2_with (at_builtin; refine Lib.wpList_append_run_sl _ rfl _ _ 22 rfl _ _ rfl rfl hr ?_)
      go_ret
      exact ⟨_, rfl, ⟨rfl, rfl, rfl, Nat.le_refl _, fun _ _ _ => rfl⟩, fun _ _ => .inl ⟨rfl, rfl⟩⟩
    · have hr := run_append_nil (P := Tryz.prog) w 22 22 5 i (.int .u8 0) Tryz.underlying22 hi hz ⟨bd, o, none⟩ l.length cap (l.map (Value.int .u8)) (by rw [List.length_map, hsz, Nat.mul_one])
        (fun j u hj => by
          rw [List.getElem?_map] at hj
          obtain ⟨y, hy, rfl⟩ := Option.map_eq_some_iff.1 hj
          have hjl := (List.getElem?_eq_some_iff.1 hy).1
          have := hx j hjl
          rw [show l.getD j 0 = y by simp [List.getD, hy]] at this
          rw [← this, show (⟨bd, o, none⟩ : Addr).add j = ⟨bd, o + j, none⟩ by unfold Addr.add; split <;> simp_all])
        (by omega) (by omega) (by rw [hby]; omega)
      have hge := grownCap_ge w l.length 0 5
      generalize grownCap w l.length 0 5 = cp at hr hge
      clear hx
      go_enter Tryz.func36, Tryz.ntmps36
      go_wp2_with (at_builtin; refine Lib.wpList_append_run_sl _ rfl _ _ 22 rfl _ _ rfl rfl hr ?_)
      go_ret
      refine ⟨_, rfl, ⟨rfl, rfl, rfl, by simp, fun k hk _ => heap_alloc_lt (w := w.drew) hk⟩, fun A' hA => .inr ⟨w.heap.size, 0, cp, rfl, hge, ⟨fun a => by have := hA _ a; omega, by simp⟩, fun j hj => ?_⟩⟩
      rw [Nat.zero_add]
      refine cell_of_heap (heap_alloc_new w.drew _) j ?_
      have h1 : j < (l.map (Value.int IntKind.u8)).length := by simpa using hj
      rw [Array.getElem?_append_left (by simpa using h1)]
      simp [List.getD, hj]

theorem BytesAt.isSlice {w : World} {A : Nat → Prop} {v : Value} {l : List Int} (h : BytesAt w A v l) : ∃ p c, v = .slice p l.length c := by
  rcases h with ⟨rfl, rfl⟩ | ⟨b, o, c, rfl, -⟩
  · exact ⟨none, 0, rfl⟩
  · exact ⟨_, c, rfl⟩
theorem FreshAt.isSlice {w w' : World} {v' : Value} {l : List Int} (h : FreshAt w w' v' l) : ∃ p c, v' = .slice p l.length c := (h.2 (fun _ => False) (fun _ a => a.elim)).isSlice

/-- The bytes stay, where a step leaves all that was. -/
theorem BytesAt.grown {w w' : World} {A : Nat → Prop} {v : Value} {l : List Int} {r : Option Nat} (h : BytesAt w A v l) (hg : w.grownBy w' r) (hr : ∀ k, r = some k → A k) : BytesAt w' A v l := by
  rcases h with h | ⟨b, o, cap, hv, hc, hn, hx⟩
  · exact .inl h
  · exact .inr ⟨b, o, cap, hv, hc, ⟨hn.1, Nat.lt_of_lt_of_le hn.2 hg.size⟩, fun i hi => hg.cell (hx i hi) fun e => hn.1 (hr _ e.symm)⟩
theorem BytesAt.other {w : World} {A A' : Nat → Prop} {v : Value} {l : List Int} (h : BytesAt w A v l) (hA : ∀ k, k < w.heap.size → A' k → A k) : BytesAt w A' v l := by
  rcases h with h | ⟨b, o, cap, hv, hc, hn, hx⟩
  · exact .inl h
  · exact .inr ⟨b, o, cap, hv, hc, ⟨fun a => hn.1 (hA _ hn.2 a), hn.2⟩, hx⟩

/-- A lexer as it is made. -/
def Lx.begin (l : List Int) (m : Bool) : Lx := { d := l, start := 0, pos := 0, kind := 0, bv := false, cl := false, tok := [], delim := 0, fst := false, sep := 0, multi := m, err := .nil, errs := [] }

theorem Env.grown {w w' : World} {ae : Sur} {ao : Addr} {r : Option Nat} (h : Env w ae ao) (hg : w.grownBy w' r) (h0 : r ≠ some 0) (h1 : r ≠ some 1) : Env w' ae ao :=
  ⟨hg.cell h.eof (Ne.symm h1), hg.cell h.other (Ne.symm h0), h.ne⟩

set_option maxHeartbeats 400000 in
theorem lexer_any {w : World} {A : Nat → Prop} {v : Value} {l : List Int} {ae : Sur} {ao : Addr} (h : BytesAt w A v l) (hl : l.length ≤ 140737488355328) (he : Env w ae ao) (hh : ∀ k, ae.held k → k < w.heap.size) (h2 : 1 < w.heap.size) (m : Bool) :
    Calls Tryz.prog 25 #[v, .bool m] w fun e w' => ∃ b vd, e = .returned (.pointer (some ⟨b, 0, none⟩)) ∧ w.heap.size ≤ b ∧ w.grownBy w' none ∧ LexAt w' b ae ao (Lx.begin l m) vd (.slice none 0 0) .nilIface (.slice none 0 0) := by
  go_enter Tryz.func25, Tryz.ntmps25
  go_wp2_with (go_at_call 36; refine (owned_any h hl).mono ?_; rintro e w1 ⟨v1, rfl, hgb⟩; obtain ⟨p1, c1, rfl⟩ := hgb.isSlice; obtain ⟨hg, hb⟩ := hgb)
  go_ret
  refine ⟨_, .slice p1 l.length c1, rfl, hg.size, ⟨hg.os, hg.tape, hg.output, Nat.le_trans hg.size (by simp), fun k hk hn => (heap_alloc_lt (Nat.lt_of_lt_of_le hk hg.size)).trans (hg.block k hk hn)⟩, ?_⟩
  have hga : w1.grownBy (w1.alloc (.cells (lxCells (.slice p1 l.length c1) (Lx.begin l m) (.slice none 0 0) .nilIface (.slice none 0 0)) 83)) none := World.grownBy_alloc w1 _ none
  have hs := hg.size
  refine ⟨heap_alloc_new w1 _, ?_, .inl ⟨rfl, rfl⟩, rfl, (he.grown hg (by simp) (by simp)).grown hga (by simp) (by simp), by omega, fun k hk => ?_⟩
  · refine BytesAt.grown (BytesAt.other (hb (fun k => ae.held k ∧ k < w.heap.size) fun k a => a.2) ?_) hga (by simp)
    rintro k hk (rfl | a)
    · omega
    · exact ⟨a, hh k a⟩
  · have := hh k hk; have := hga.size; exact Nat.lt_of_lt_of_le (by omega) this
end Go.Proofs.YtaecbclonmhbcaaGreatDoor
