/- laws.FnLexDelims: the walk of a row that is not empty. -/
import Derived.Test.YtaecbclonmhbcaaGreatDoorDelW
namespace Go.Proofs.YtaecbclonmhbcaaGreatDoor
open Go.RowKit

def DelRel (w : World) (row : List Bool) (vb vd i : Value) (wr : World) : Prop :=
  ∃ k : Nat, i = .int .i64 k ∧ k ≤ (rowB row).length ∧ wr.ownsRow w.heap.size 5 1 vb ((rowB row).take k).length (byteVs ((rowB row).take k)) ∧
    wr.ownsRow w.heap.size 27 3 vd (rowC ((rowB row).take k)).length (callVs (rowC ((rowB row).take k))) ∧ ApartV vb vd ∧ Below w.heap.size w wr ∧ w.heap.size ≤ wr.heap.size

theorem BytesAt.below {w w' : World} {A : Nat → Prop} {v : Value} {l : List Int} (h : BytesAt w A v l) (hb : Below w.heap.size w w') : BytesAt w' A v l :=
  h.grown (r := none) ⟨hb.os, hb.tape, hb.output, hb.size, fun k hk _ => hb.block k hk⟩ (by simp)

theorem Env.drew {w : World} {ae : Sur} {ao : Addr} (h : Env w ae ao) : Env w.drew ae ao := ⟨h.eof, h.other, h.ne⟩
/-- What the results of a row of brackets hold. -/
theorem del_gots {w1 : World} {B g cap : Nat} {row : List Bool} (h : w1.ownsRow B 30 4 (.slice (some ⟨g, 0, none⟩) (rowC (rowB row)).length cap) (rowC (rowB row)).length (gotCells (gots (rowC (rowB row)) (Lx.begin (rowB row) false))))
    (j : Nat) (hj : j < (rowC (rowB row)).length) (he : j % 2 = 0) :
    w1.cell? ⟨g, j * 4, none⟩ = some (.int .i64 1) ∧ w1.cell? ⟨g, (j + 1) * 4 + 2, none⟩ = some (.int .i64 0) ∧ w1.cell? ⟨g, (j + 1) * 4 + 3, none⟩ = some (.int .i64 ((j : Int) / 2 + 1)) := by
  rw [rowC_length] at hj
  obtain ⟨k, rfl⟩ : ∃ k, j = 2 * k := ⟨j / 2, by omega⟩
  obtain ⟨e1, e2, e3⟩ := delims_rows row k (by omega)
  have hl : (gots (rowC (rowB row)) (Lx.begin (rowB row) false)).length = 2 * (rowB row).length := by rw [gots_length, rowC_length]
  have g1 := gotCells_get _ (2 * k) (by rw [hl]; omega)
  have g2 := gotCells_get _ (2 * k + 1) (by rw [hl]; omega)
  have c1 := h.cellAt (2 * k * 4) (by rw [rowC_length]; omega)
  have c2 := h.cellAt ((2 * k + 1) * 4 + 2) (by rw [rowC_length]; omega)
  have c3 := h.cellAt ((2 * k + 1) * 4 + 3) (by rw [rowC_length]; omega)
  rw [g1.1, e1] at c1
  rw [g2.2.1, e2] at c2
  rw [g2.2.2, e3] at c3
  exact ⟨c1, c2, by rw [c3, show ((2 * k : Nat) : Int) / 2 + 1 = (k : Int) + 1 from by omega]⟩

set_option maxHeartbeats 8000000 in
set_option maxRecDepth 100000 in
theorem delims_row {w : World} {ae : Sur} {ao : Addr} (he : Env w ae ao) (h2 : 1 < w.heap.size) {rb ro cap : Nat} {row : List Bool} (hne : row ≠ []) (hl : row.length ≤ 200) (hb : rb < w.heap.size)
    (hx : ∀ i, i < row.length → w.cell? ⟨rb, ro + i, none⟩ = some (.bool (row.getD i false))) (c : Int) (hc0 : 0 ≤ c) (hc1 : c ≤ 255) :
    Calls Tryz.prog 4 #[.slice (some ⟨rb, ro, none⟩) row.length cap, .int .u8 c] w fun e w' => e = .returned (.bool true) ∧ Below w.heap.size w w' := by
  have HE := Lib.hid he
  have HX := Lib.hid hx
  have HL := Lib.hid (rowB_length row)
  have HP := Lib.hid (rowB_pos hne)
  obtain ⟨ch, hch⟩ : ∃ ch, ch = wrongC (bits .and .u8 c 3) := ⟨_, rfl⟩
  have hcb : 0 ≤ ch ∧ ch ≤ 255 := by rw [hch]; exact wrongC_byte _
  have hi : ∀ W : World, (Instr.index 9 (.string ⟨#[93, 123, 125, 91]⟩) (.int .u8 (bits .and .u8 c 3))).run Tryz.prog W = .ok (.int .u8 ch) W := fun W => by rw [hch]; exact wrong_index _ (and3 c hc0 hc1) W
  have hcb0 := hcb.1
  have hcb1 := hcb.2
  clear he hx hne hch hcb
  go_enter Tryz.func4, Tryz.ntmps4
  go_wp2
  go_loopw [5, 6, 7] (fun vb vd i wr => DelRel w row vb vd i wr) (fun _ _ i _ => row.length - (intOf i).toNat)
  case atStart => exact ⟨0, rfl, Nat.zero_le _, World.ownsRow_nil _ _ _ _, World.ownsRow_nil _ _ _ _, (fun j hj => by cases hj), Below.refl _ _, Nat.le_refl _⟩
  case round =>
    obtain ⟨k, rfl, hk, hob, hod, hap, hbel, hsz⟩ := hrel
    have HOB := Lib.hid hob
    have HOD := Lib.hid hod
    have HAP := Lib.hid hap
    have HBE := Lib.hid hbel
    have HSZ := Lib.hid hsz
    have HLT := Lib.hid (show ((rowB row).take k).length ≤ 200 by have := List.length_take_le k (rowB row); have := List.length_take_le' k (rowB row); have := HL.out; omega)
    clear hob hod hap hbel hsz
    by_cases hlt : k < (rowB row).length
    case pos =>
      have hkr : k < row.length := by have := HL.out; omega
      have qk := (HBE.out.cell (p := ⟨rb, ro + k, none⟩) hb).trans (HX.out k hkr)
      have HAT := Lib.hid (rowB_at row k hlt)
      have HBF := Lib.hid (rowB_before row)
      have HTK := Lib.hid (rowB_take_succ hlt)
      cases hrk : row.getD k false
      all_goals
        rw [hrk] at qk
        have hat := HAT.out
        rw [hrk] at hat
        simp only [Bool.false_eq_true, if_false, if_true] at hat
        have HT : RowKit.Hid _ := HTK.out
        rw [hat] at HT
        clear hat hrk HAT HTK
      case' false => obtain ⟨vb1, w1, vd1, w2, hr1, hr2, ho1, ho2, hap1, hbe1, hsz1⟩ := del_step HOB.out HOD.out HAP.out HBE.out HSZ.out 91 (by have := HLT.out; omega) (by rw [rowC_length]; have := HLT.out; omega)
      case' true => obtain ⟨vb1, w1, vd1, w2, hr1, hr2, ho1, ho2, hap1, hbe1, hsz1⟩ := del_step HOB.out HOD.out HAP.out HBE.out HSZ.out 123 (by have := HLT.out; omega) (by rw [rowC_length]; have := HLT.out; omega)
      all_goals
        have HR1 := Lib.hid hr1
        have HR2 := Lib.hid hr2
        have HO1 := Lib.hid ho1
        have HO2 := Lib.hid ho2
        have HA1 := Lib.hid hap1
        have HB1 := Lib.hid hbe1
        have HS1 := Lib.hid hsz1
        have HLT2 := Lib.hid hlt
        clear hr1 hr2 ho1 ho2 hap1 hbe1 hsz1 hlt hk
        cases k with
        | zero =>
          simp only [Nat.add_zero] at qk
          go_wp2_with (first
            | (at_builtin; refine Lib.wpList_append_run_sl _ rfl _ _ 22 rfl _ _ rfl rfl HR1.out ?_)
            | (at_builtin; refine Lib.wpList_append_run_sl _ rfl _ _ 28 rfl _ _ rfl rfl HR2.out ?_))
          go_roundw
          case rel => exact ⟨0 + 1, by go_num, HLT2.out, by rw [HT.out]; exact HO1.out, by rw [HT.out, rowC_snoc]; exact HO2.out, HA1.out, HB1.out, HS1.out⟩
          case measure => simp [intOf]; omega
        | succ j =>
          have qj := (HBE.out.cell (p := ⟨rb, ro + j, none⟩) hb).trans (HX.out j (by omega))
          rw [HBF.out j HLT2.out] at qj
          go_wp2_with (first
            | (at_builtin; refine Lib.wpList_append_run_sl _ rfl _ _ 22 rfl _ _ rfl rfl HR1.out ?_)
            | (at_builtin; refine Lib.wpList_append_run_sl _ rfl _ _ 28 rfl _ _ rfl rfl HR2.out ?_))
          go_roundw
          case rel => exact ⟨j + 1 + 1, by go_num, HLT2.out, by rw [HT.out]; exact HO1.out, by rw [HT.out, rowC_snoc]; exact HO2.out, HA1.out, HB1.out, HS1.out⟩
          case measure => simp [intOf]; omega
    case neg =>
      have HK := Lib.hid (show k = (rowB row).length by omega)
      have hT : (rowB row).take k = rowB row := by rw [HK.out]; exact List.take_length
      have hob := HOB.out
      have hod := HOD.out
      rw [hT] at hob hod
      obtain ⟨gb, cb, rfl⟩ : ∃ gb cb, u5 = .slice (some ⟨gb, 0, none⟩) (rowB row).length cb := by
        rcases hob.2 with ⟨-, h⟩ | ⟨g, cap, cur, h1, -⟩
        · have := HP.out; omega
        · exact ⟨g, cap, h1⟩
      obtain ⟨gd, cd, rfl⟩ : ∃ gd cd, u6 = .slice (some ⟨gd, 0, none⟩) (rowC (rowB row)).length cd := by
        rcases hod.2 with ⟨-, h⟩ | ⟨g, cap, cur, h1, -⟩
        · have := HP.out; rw [rowC_length] at h; omega
        · exact ⟨g, cap, h1⟩
      have hvB : BytesAt wr (fun _ => False) (.slice (some ⟨gb, 0, none⟩) (rowB row).length cb) (rowB row) := ownsRow_bytes hob (fun _ a => a.elim)
      have qb : wr.cell? ⟨gb, 0, none⟩ = some (.int .u8 ((rowB row).getD 0 0)) := by
        have := hob.cellAt 0 (by have := HP.out; omega)
        rw [this]
        simp [byteVs, List.getD, HP.out]
      have hln : (rowB row).length ≤ 200 := by have := HL.out; omega
      have hlm : (rowC (rowB row)).length ≤ 400 := by rw [rowC_length]; omega
      have HLX := Lib.hid (lex_any hvB (by omega) (rowB_bytes row) (HE.out.below HBE.out h2) (by have := HSZ.out; omega) (rowC (rowB row)) (rowC_ok row) (by omega) gd 0 cd (ownsRow_calls hod) (hod.lt gd rfl).2)
      have HVB := Lib.hid hvB
      have HQB := Lib.hid qb
      have HGB := Lib.hid (hob.lt gb rfl)
      have HD1 := Lib.hid (delims_one row HP.out ch)
      have hp0 : ((rowB row).length == 0) = false := beq_eq_false_iff_ne.2 (by have := HP.out; omega)
      have hp1 : (((rowB row).length : Int) == 0) = false := beq_eq_false_iff_ne.2 (by have := HP.out; omega)
      have hp2 : 0 < (rowB row).length := HP.out
      clear hT hob hod hvB qb hlt HOB HOD HAP
      rcases Nat.lt_or_ge k row.length with hkr | hkr
      case' inl =>
        obtain ⟨j, rfl⟩ : ∃ j, k = j + 1 := ⟨k - 1, by have := HK.out; have := HP.out; omega⟩
        have qk := (HBE.out.cell (p := ⟨rb, ro + (j + 1), none⟩) hb).trans (HX.out (j + 1) hkr)
        have qj := (HBE.out.cell (p := ⟨rb, ro + j, none⟩) hb).trans (HX.out j (by omega))
        rw [rowB_last row j HK.out hkr] at qj
        cases hrk : row.getD (j + 1) false
        all_goals
          rw [hrk] at qk
          clear hrk
      all_goals
        clear hk
        go_wp2_with (go_at_call 13; refine HLX.out.mono ?_; intro e w1 h0; obtain ⟨v1, he1, hown, hbel1⟩ := h0; subst he1; obtain ⟨g, cg, hv1⟩ : ∃ g cg, v1 = .slice (some ⟨g, 0, none⟩) (rowC (rowB row)).length cg := (by rcases hown.2 with ⟨-, h⟩ | ⟨g, cap, cur, h1, -⟩; have := HP.out; rw [rowC_length] at h; omega; exact ⟨g, cap, h1⟩); subst hv1; have HOW := Lib.hid hown; have HB1 := Lib.hid hbel1; clear hown hbel1)
        go_loop [10] (fun i => ∃ j2 : Nat, i = .int .i64 j2 ∧ j2 ≤ (rowC (rowB row)).length ∧ j2 % 2 = 0) (fun i => (rowC (rowB row)).length - (intOf i).toNat)
        case atStart => exact ⟨0, rfl, Nat.zero_le _, rfl⟩
        case round =>
          obtain ⟨j2, rfl, hj, hev⟩ := hrel
          by_cases hjl : j2 < (rowC (rowB row)).length
          case pos =>
            obtain ⟨a0, a2, a3⟩ := del_gots HOW.out j2 hjl hev
            have HEV := Lib.hid hev
            have hj1 : j2 + 1 < (rowC (rowB row)).length := by rw [rowC_length] at hjl ⊢; omega
            clear hev
            go_wp2
            go_round
            case rel => exact ⟨j2 + 2, by go_num, by omega, by have := HEV.out; omega⟩
            case measure => simp [intOf]; omega
          case neg =>
            have HJ := Lib.hid hj
            have HJN := Lib.hid hjl
            clear hev
            have hone := one_law (A := fun _ => False) (HVB.out.below HB1.out) (by omega) (rowB_bytes row) ((HE.out.below HBE.out h2).below HB1.out (by have := HSZ.out; omega)) (by have := HSZ.out; have := HB1.out.size; omega) 1 ch ⟨.inl rfl, hcb0, hcb1⟩
            rw [HD1.out] at hone
            have qb1 := (HB1.out.cell (p := ⟨gb, 0, none⟩) HGB.out.2).trans HQB.out
            obtain ⟨d0, hd0⟩ : ∃ d0, d0 = (rowB row).getD 0 0 := ⟨_, rfl⟩
            rw [← hd0] at hone qb1
            generalize callN (1, ch) (Lx.begin (rowB row) false) = N at hone
            generalize (((callX (1, ch) (Lx.begin (rowB row) false)).pos : Nat) : Int) = rr at hone
            clear hd0
            by_cases hd : d0 = ch
            all_goals
              simp only [hd, if_true, if_false] at hone
              have HONE := Lib.hid hone
              clear hone
            case' neg => have hne : (ch == d0) = false := beq_eq_false_iff_ne.2 (Ne.symm hd)
            case' pos => subst hd
            all_goals
              go_wp2_with (go_at_call 14; refine HONE.out.mono ?_; intro e w3 h0; obtain ⟨he1, hb3⟩ := h0; subst he1; unfold gotV; have qb3 := (hb3.cell (p := ⟨gb, 0, none⟩) (Nat.lt_of_lt_of_le HGB.out.2 HB1.out.size)).trans qb1; have hg3 : gb < w3.heap.size := World.block_lt_of_cell? w3 _ qb3; have hg4 : gb ≠ w3.heap.size := Nat.ne_of_lt hg3; have HB3 := Lib.hid hb3; clear hb3)
              refine wp_region_tail 15 (by kernel_rfl) (by kernel_rfl) ?_
              simp only [List.take_succ_cons, List.take_zero, List.drop_succ_cons, List.drop_zero]
              repeat still_step
              refine wpStill_nil ?_
              have hs0 := HSZ.out
              have hs1 := HB1.out.size
              have hs3 := HB3.out.size
              have HE3 := Lib.hid (((HE.out.below HBE.out h2).below HB1.out (by omega)).below HB3.out (by omega))
              go_wp2_with (go_at_call 12; refine (known_any (w := (w3.alloc _).drew) (ae := ae) (ao := ao) (HE3.out.grown (World.grownBy_alloc _ _ none) (by simp) (by simp)).drew (by show 1 < (w3.heap.push _).size; simp; omega)).mono ?_; intro e w5 h0; obtain ⟨he5, hb5⟩ := h0; subst he5; have HB5 := Lib.hid hb5; clear hb5)
              go_ret
              exact ⟨rfl, ((((HBE.out.trans (HB1.out.mono hs0)).trans (HB3.out.mono (Nat.le_trans hs0 hs1))).alloc (by omega) _).drew).trans (HB5.out.mono (by show w.heap.size ≤ (w3.heap.push _).size; simp; omega))⟩
end Go.Proofs.YtaecbclonmhbcaaGreatDoor
