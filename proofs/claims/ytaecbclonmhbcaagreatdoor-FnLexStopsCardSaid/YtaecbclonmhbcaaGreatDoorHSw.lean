/- The walk of FnLexStops. Printed by gen_sto.py. -/
import Derived.Test.YtaecbclonmhbcaaGreatDoorHSp
import Derived.Test.YtaecbclonmhbcaaGreatDoorHAw
set_option linter.unusedVariables false
set_option linter.unusedSimpArgs false
namespace Go.Proofs.YtaecbclonmhbcaaGreatDoor
open Go.RowKit

theorem gotCs_get : ∀ (l : List Gt) (k : Nat), k < l.length → (gotCs l)[k * 4]? = some (.int .i64 (l.getD k dG).1) ∧ (gotCs l)[k * 4 + 1]? = some (l.getD k dG).2.1 ∧ (gotCs l)[k * 4 + 2]? = some (.int .i64 (l.getD k dG).2.2.1)
  | [], k, h => absurd h (by simp)
  | c :: l, 0, _ => ⟨rfl, rfl, rfl⟩
  | c :: l, k + 1, h => by
    have ih := gotCs_get l k (by simpa using h)
    have e : gotCs (c :: l) = [.int .i64 c.1, c.2.1, .int .i64 c.2.2.1, .int .i64 c.2.2.2] ++ gotCs l := by simp [gotCs]
    rw [e]
    have e0 : (k + 1) * 4 = 4 + k * 4 := by omega
    refine ⟨?_, ?_, ?_⟩
    · rw [e0, List.getElem?_append_right (by simp)]; simpa using ih.1
    · rw [e0, show 4 + k * 4 + 1 = 4 + (k * 4 + 1) from by omega, List.getElem?_append_right (by simp)]; simpa using ih.2.1
    · rw [e0, show 4 + k * 4 + 2 = 4 + (k * 4 + 2) from by omega, List.getElem?_append_right (by simp)]; simpa using ih.2.2
theorem own_shape {w : World} {B e s n : Nat} {v : Value} {xs : List Value} (h : w.ownsRow B e s v n xs) : ∃ pd cap, v = .slice pd n cap ∧ (0 < n → ∃ g, pd = some ⟨g, 0, none⟩ ∧ g < w.heap.size ∧ v = .slice (some ⟨g, 0, none⟩) n cap) := by
  rcases h.2 with ⟨rfl, rfl⟩ | ⟨g, cap, cur, rfl, hg1, hg2, _⟩
  · exact ⟨none, 0, rfl, fun h => absurd h (Nat.lt_irrefl 0)⟩
  · exact ⟨_, cap, rfl, fun _ => ⟨g, rfl, lt_heap hg2, rfl⟩⟩
theorem arg_below {w w' : World} {v : Value} {l : List Int} (h : BytesArg w v l) (hb : Below w.heap.size w w') : BytesArg w' v l := by
  rcases h with h | h
  · exact .inl h
  · rcases h with h | ⟨b, o, cap, hv, hc, hn, hx⟩
    · exact .inr (.inl h)
    · exact .inr (.inr ⟨b, o, cap, hv, hc, ⟨hn.1, Nat.lt_of_lt_of_le hn.2 hb.size⟩, fun i hi => (hb.cell (p := ⟨b, o + i, none⟩) hn.2).trans (hx i hi)⟩)
theorem CallsArg.below {w w' : World} {pv : Option Addr} {cs : List Cl} (h : CallsArg w pv cs) (hb : Below w.heap.size w w') : CallsArg w' pv cs := fun h0 => by
  obtain ⟨cb, co, h1, h2, h3⟩ := h h0
  exact ⟨cb, co, h1, Nat.lt_of_lt_of_le h2 hb.size, h3.below hb h2⟩

/-- The calls that are let through. -/
structure DoRow (w wx : World) (v : Value) (ds : List Cl) : Prop where
  own : wx.ownsRow w.heap.size 27 3 v ds.length (clVs ds)
  sl : ClS ds
  ok : ∀ c ∈ ds, OkOp c.1
  below : Below w.heap.size w wx
theorem DoRow.step {w wr w' : World} {v v' : Value} {ds : List Cl} (h : DoRow w wr v ds) {a n : Int} {p : Option Addr} {sn sc : Nat} (ho : w'.ownsRow w.heap.size 27 3 v' (ds ++ [(a, n, Value.slice p sn sc)]).length (clVs (ds ++ [(a, n, Value.slice p sn sc)]))) (hg : wr.grownBy w' v.ownBlock) (hok : OkOp a) :
    DoRow w w' v' (ds ++ [(a, n, Value.slice p sn sc)]) := by
  refine ⟨ho, fun c hc => ?_, fun c hc => ?_, h.below.grown hg h.below.size (fun j e => (h.own.lt j e).1)⟩
  · rcases List.mem_append.1 hc with hc | hc
    · exact h.sl c hc
    · rw [List.mem_singleton.1 hc]; exact ⟨p, sn, sc, rfl⟩
  · rcases List.mem_append.1 hc with hc | hc
    · exact h.ok c hc
    · rw [List.mem_singleton.1 hc]; exact hok

/-- What impl.Lex tells of such a row. -/
def StopsPost (w : World) (m : Nat) (e : Ending) (w' : World) : Prop :=
  ∃ (pg : Option Addr) (cg : Nat) (gs : List Gt), e = .returned (.slice pg m cg) ∧ gs.length = m ∧ (0 < m → ∃ g, pg = some ⟨g, 0, none⟩ ∧ ∀ k, k < m → w'.cell? ⟨g, k * 4, none⟩ = some (.int .i64 (gs.getD k dG).1) ∧ w'.cell? ⟨g, k * 4 + 1, none⟩ = some (gs.getD k dG).2.1 ∧ w'.cell? ⟨g, k * 4 + 2, none⟩ = some (.int .i64 (gs.getD k dG).2.2.1)) ∧
    (∀ i, 0 < i → i < gs.length → (gs.getD (i - 1) dG).2.2.1 ≠ 0 → Shut (gs.getD (i - 1) dG).2.2.1 (gs.getD i dG)) ∧ Below w.heap.size w w'
theorem stops_lex {w wx : World} {ae ao : Addr} (he : Env w ⟨ae, fun _ => False⟩ ao) (h2 : 1 < w.heap.size) (hT : Tabs w) {ca cb : Array Value} {ta tb : TypeId} (ha : w.heap[ao.block]? = some (.cells ca ta (0, 0))) (hb : w.heap[ae.block]? = some (.cells cb tb (0, 0)))
    {v v5 : Value} {l : List Int} (hv : BytesArg w v l) (hby : Bytes l) (hl : l.length ≤ 8192) {ds : List Cl} (hd : DoRow w wx v5 ds) (hm : ds.length ≤ 512) :
    Calls Tryz.prog 13 #[v, .bool false, v5] wx (StopsPost w ds.length) := by
  have hs := hd.below.size
  have hT1 := hT.below hd.below
  have ha1 : wx.heap[ao.block]? = some (.cells ca ta (0, 0)) := by rw [hd.below.block _ (lt_heap ha)]; exact ha
  have hb1 : wx.heap[ae.block]? = some (.cells cb tb (0, 0)) := by rw [hd.below.block _ (lt_heap hb)]; exact hb
  obtain ⟨pd, cap, rfl, hsh⟩ := own_shape hd.own
  obtain ⟨g, hg1, hg2, hg3⟩ : ∃ g, (0 < ds.length → pd = some ⟨g, 0, none⟩) ∧ CallsIn wx g 0 ds ∧ g < wx.heap.size := by
    by_cases h0 : 0 < ds.length
    · obtain ⟨g, rfl, h4, _⟩ := hsh h0
      exact ⟨g, fun _ => rfl, ownsRow_cl hd.own hd.sl, h4⟩
    · exact ⟨0, fun h => absurd h h0, fun k hk => absurd hk (by omega), by omega⟩
  refine (lex_arg (arg_below hv hd.below) (by omega) hby (env_below he hd.below h2) (by omega) ds (fun c hc => call_ok hT1 ha1 hb1 (hd.ok c hc)) (by omega) g 0 cap pd hg1 hg2 hg3).mono ?_
  rintro e w' ⟨v', gs, X, rfl, hch, hown, hbw⟩
  have hlen : gs.length = ds.length := by rw [hch.length, List.length_map]
  obtain ⟨pg, cg, rfl, hsg⟩ := own_shape hown
  refine ⟨pg, cg, gs, rfl, hlen, fun h0 => ?_, hch.stops, hd.below.trans (hbw.mono hs)⟩
  obtain ⟨g', rfl, -, -⟩ := hsg h0
  refine ⟨g', rfl, fun k hk => ?_⟩
  have e := gotCs_get gs k (by omega)
  exact ⟨(hown.cellAt (k * 4) (by omega)).trans e.1, (hown.cellAt (k * 4 + 1) (by omega)).trans e.2.1, (hown.cellAt (k * 4 + 2) (by omega)).trans e.2.2⟩

set_option maxHeartbeats 16000000 in
set_option maxRecDepth 100000 in
theorem stops_walk {w : World} {ae ao : Addr} (he : Env w ⟨ae, fun _ => False⟩ ao) (h2 : 1 < w.heap.size) (hT : Tabs w) {ca cb : Array Value} {ta tb : TypeId} (ha : w.heap[ao.block]? = some (.cells ca ta (0, 0))) (hb : w.heap[ae.block]? = some (.cells cb tb (0, 0)))
    {vp : Option Addr} {vc : Nat} {l : List Int} (hv : BytesArg w (.slice vp l.length vc) l) (hby : Bytes l) (hl : l.length ≤ 8192) {pv : Option Addr} {cs : List Cl} (cc : Nat) (hc : CallsArg w pv cs) :
    Calls Tryz.prog 8 #[.slice vp l.length vc, .slice pv cs.length cc] w fun e w' => e = .returned (.bool true) ∧ Below w.heap.size w w' := by
  have HE := Lib.hid he
  have HT := Lib.hid hT
  have HV := Lib.hid hv
  have HC := Lib.hid hc
  have l1 : ¬ (2147483647 : Int) < l.length := by omega
  have l2 : ¬ (8192 : Int) < l.length := by omega
  have HA := Lib.hid ha
  have HB := Lib.hid hb
  clear he hT hv ha hb hc
  go_enter Tryz.func8, Tryz.ntmps8
  go_upto_if 16 with (go_at_call 15; refine (fits1_any cc HC.out).mono ?_; rintro e w1 ⟨r, rfl, hr, hb1⟩; have HR := Lib.hid hr; have HB1 := Lib.hid hb1; clear hr hb1)
  cases r
  · go_wp2_with fail
    exact bodyPost_ret (results_tmp rfl _ _ _) rfl ⟨rfl, HB1.out⟩
  have hlen := HR.out rfl
  clear HR
  go_upto_if 23 with (go_at_call 16; refine (heavy_any cc (HC.out.below HB1.out) hlen).mono ?_; rintro e w2 ⟨r, rfl, hr, rfl⟩; have HR := Lib.hid hr; clear hr)
  cases r
  case true =>
    go_wp2_with (go_at_call 12; refine (known_any (env_below HE.out HB1.out h2) (Nat.lt_of_lt_of_le h2 HB1.out.size)).mono ?_; rintro e w9 ⟨rfl, hb9⟩; have HB9 := Lib.hid hb9; clear hb9)
    exact bodyPost_ret (results_tmp rfl _ _ _) rfl ⟨rfl, HB1.out.trans (HB9.out.mono HB1.out.size)⟩
  case false =>
    have h512 := HR.out rfl
    clear HR hlen
    go_upto_block 0 with fail
    go_cut [5, 6] from 25 to 67 (fun a5 a6 wx => ∃ ds : List Cl, DoRow w wx a5 ds ∧ ds.length ≤ 512)
    case first =>
      go_wp2_with fail
      go_loopw [5, 6] (fun a5 a6 wr => ∃ (k : Nat) (ds : List Cl), a6 = .int .i64 k ∧ k ≤ cs.length ∧ ds.length ≤ k ∧ DoRow w wr a5 ds) (fun _ a6 _ => cs.length - (intOf a6).toNat)
      case atStart => exact ⟨0, [], rfl, Nat.zero_le _, Nat.le_refl _, ⟨World.ownsRow_nil _ _ _ _, fun c h => (by cases h), fun c h => (by cases h), HB1.out⟩⟩
      case round =>
        obtain ⟨k, ds, rfl, hk, hdk, hD⟩ := hrel
        have HD := Lib.hid hD
        clear hD
        by_cases hlt : k < cs.length
        case neg =>
          obtain rfl : k = cs.length := by omega
          go_wp2_with fail
          go_meet
          exact ⟨ds, HD.out, by omega⟩
        case pos =>
          obtain ⟨cb2, co, rfl, hcb, hci⟩ := HC.out (by omega)
          obtain ⟨p3, s3, c3, -, q0, q1, q2⟩ := (hci.below HD.out.below hcb) k hlt
          clear hci
          generalize (cs.getD k (0, 0, .nilIface)).1 = a at q0
          generalize (cs.getD k (0, 0, .nilIface)).2.1 = n at q1
          obtain ⟨v', w', hr, ho, hg, -⟩ := append_cl HD.out.own a n p3 s3 c3 (by omega) HD.out.below.size
          have HR := Lib.hid hr
          have HO := Lib.hid ho
          have HG := Lib.hid hg
          clear hr ho hg
          have hcase : a = 1 ∨ a = 3 ∨ (13 ≤ a ∧ a ≤ 27) ∨ (a ≠ 1 ∧ a ≠ 3 ∧ ¬ 13 ≤ a) ∨ (27 < a) := by omega
          rcases hcase with rfl | rfl | ⟨h13, h27⟩ | ⟨e1, e3, h13⟩ | h27
          · go_wp2_with (at_builtin; refine Lib.wpList_append_run_sl _ rfl _ _ 28 rfl _ _ rfl rfl HR.out ?_)
            go_roundw
            case rel => exact ⟨k + 1, _, by go_num, by omega, by simp; omega, HD.out.step HO.out HG.out (.inl rfl)⟩
            case measure => simp [intOf]; omega
          · go_wp2_with (at_builtin; refine Lib.wpList_append_run_sl _ rfl _ _ 28 rfl _ _ rfl rfl HR.out ?_)
            go_roundw
            case rel => exact ⟨k + 1, _, by go_num, by omega, by simp; omega, HD.out.step HO.out HG.out (.inr (.inl rfl))⟩
            case measure => simp [intOf]; omega
          · have n1 : (a == 1) = false := beq_eq_false_iff_ne.2 (by omega)
            have n3 : (a == 3) = false := beq_eq_false_iff_ne.2 (by omega)
            go_wp2_with (at_builtin; refine Lib.wpList_append_run_sl _ rfl _ _ 28 rfl _ _ rfl rfl HR.out ?_)
            go_roundw
            case rel => exact ⟨k + 1, _, by go_num, by omega, by simp; omega, HD.out.step HO.out HG.out (.inr (.inr (.inl ⟨h13, h27⟩)))⟩
            case measure => simp [intOf]; omega
          · have n1 : (a == 1) = false := beq_eq_false_iff_ne.2 (by omega)
            have n3 : (a == 3) = false := beq_eq_false_iff_ne.2 (by omega)
            clear HR HO HG
            go_wp2_with fail
            go_roundw
            case rel => exact ⟨k + 1, ds, by go_num, by omega, by omega, HD.out⟩
            case measure => simp [intOf]; omega
          · have n1 : (a == 1) = false := beq_eq_false_iff_ne.2 (by omega)
            have n3 : (a == 3) = false := beq_eq_false_iff_ne.2 (by omega)
            have h13 : (13 : Int) ≤ a := by omega
            have h27' : ¬ a ≤ 27 := by omega
            clear HR HO HG
            go_wp2_with fail
            go_roundw
            case rel => exact ⟨k + 1, ds, by go_num, by omega, by omega, HD.out⟩
            case measure => simp [intOf]; omega
    case rest =>
      obtain ⟨ds, hD, hds⟩ := hcut
      have HD := Lib.hid hD
      have HL := Lib.hid (stops_lex HE.out h2 HT.out HA.out HB.out HV.out hby hl hD hds)
      obtain ⟨pd, cap, rfl, -⟩ := own_shape hD.own
      clear hD
      go_upto_block 2 with (go_at_call 13; refine HL.out.mono ?_; rintro e w2 ⟨pg, cg, gs, rfl, hgl, hgc, hst, hbw⟩; have HGC := Lib.hid hgc; have HST := Lib.hid hst; have HBW := Lib.hid hbw; clear hgc hst hbw)
      go_cut [8] from 76 to 113 (fun a8 wx => w2 = wx)
      case first =>
        go_wp2_with fail
        go_loop [8] (fun a8 => ∃ j : Nat, a8 = .int .i64 ((j + 1 : Nat))) (fun a8 => ds.length - (intOf a8).toNat)
        case atStart => exact ⟨0, rfl⟩
        case round =>
          obtain ⟨j, rfl⟩ := hrel
          by_cases hlt : j + 1 < ds.length
          case neg =>
            have hlt' : ¬ ((j + 1 : Nat) : Int) < ds.length := by omega
            go_wp2_with fail
            go_meet
            rfl
          case pos =>
            have hlt' : ((j + 1 : Nat) : Int) < ds.length := by omega
            obtain ⟨g, rfl, hcell⟩ := HGC.out (by omega)
            obtain ⟨-, -, k0⟩ := hcell j (by omega)
            obtain ⟨k1, k2, k3⟩ := hcell (j + 1) hlt
            have hs := HST.out (j + 1) (by omega) (by omega)
            rw [Nat.add_sub_cancel] at hs
            by_cases hk : (gs.getD j dG).2.2.1 = 2
            · obtain ⟨e1, e2, p, c, e3⟩ := hs (by rw [hk]; decide)
              rw [hk] at k0 e1
              rw [e1] at k3
              rw [e2] at k1
              rw [e3] at k2
              clear hcell hs
              go_wp2_with fail
              exact ⟨⟨j + 1, by go_num⟩, by simp [intOf]; omega⟩
            · generalize (gs.getD j dG).2.2.1 = K at k0 hk
              have hk' : (K == 2) = false := beq_eq_false_iff_ne.2 hk
              clear hcell hs k1 k2 k3
              go_wp2_with fail
              go_round
              case rel => exact ⟨j + 1, by go_num⟩
              case measure => simp [intOf]; omega
      case rest =>
        obtain rfl := hcut
        go_wp2_with (go_at_call 12; refine (known_any (env_below HE.out HBW.out h2) (Nat.lt_of_lt_of_le h2 HBW.out.size)).mono ?_; rintro e w9 ⟨rfl, hb9⟩; have HB9 := Lib.hid hb9; clear hb9)
        exact bodyPost_ret (results_tmp rfl _ _ _) rfl ⟨rfl, HBW.out.trans (HB9.out.mono HBW.out.size)⟩
end Go.Proofs.YtaecbclonmhbcaaGreatDoor
