/- What every statement of the seat ends with: the listed errors, the arguments that stay, the reading behind the call. -/
import Derived.Test.YtaecbclonmhbcaaGreatDoorRows
import Derived.Test.YtaecbclonmhbcaaGreatDoorAt
import Derived.Test.YtaecbclonmhbcaaGreatDoorIdx
import Derived.Stop.LaidTwo
import Derived.ChangeStays
import Derived.ProofKit
import Derived.OpenShut
import Derived.ReadAgain
import Derived.MakeChecks
namespace Go.Proofs.YtaecbclonmhbcaaGreatDoor
open Go.RowKit Go.WideShapes Go.ChangeShapes

/-- A slice of bytes that came in: no bytes at whatever place, or bytes in memory. -/
def BytesArg (w : World) (v : Value) (l : List Int) : Prop := (l = [] ∧ ∃ a c, v = .slice (some a) 0 c) ∨ BytesAt w (fun _ => False) v l

theorem kids : Kids Tryz.prog (· < Tryz.prog.types.size) := kids_rows (by kernel_rfl) (by kernel_rfl)
theorem full : ∀ t e, t < Tryz.prog.types.size → Tryz.prog.underlying t = some (.slice e) → 0 < Tryz.prog.cellsOf e := slices_full_of Tryz.prog (by kernel_rfl)
theorem own : ownKnob Tryz.prog.godebug = none := by kernel_rfl

/-- The listed tables: one list for every row. -/
noncomputable def laidL : List (String × DataW Unit) := Rows.fnLexDelimsRow.laid

theorem star191 : "*" ++ "errors.errorString" = "*errors.errorString" := by decide
theorem row191 (u : TypeId) (h : Tryz.prog.typeName? 3 u = some "*errors.errorString") : u = 191 :=
  typeName_ptr_named (nm := "errors.errorString") (by rw [star191]; kernel_rfl) (by kernel_rfl) (by decide) u (by rw [star191]; exact h)
theorem gEOF : Tryz.prog.globalNamed "io.EOF" = some 1 := by kernel_rfl
theorem gOther : Tryz.prog.globalNamed "pub-duolect/impl.errOther" = some 0 := by kernel_rfl

/-- The two named errors in a world that holds the tables. -/
theorem env_of_laid {W : World} (h : laidMetH Tryz.prog laidL W) :
    ∃ (ae ao : Addr) (c0 c1 : Array Value) (t0 t1 : TypeId), Env W ⟨ae, fun _ => False⟩ ao ∧ 1 < W.heap.size ∧ W.heap[ae.block]? = some (.cells c0 t0 (0, 0)) ∧ W.heap[ao.block]? = some (.cells c1 t1 (0, 0)) := by
  rw [MakeChecks.laidMetH_plain _ _ _ (by kernel_rfl)] at h
  have h12 := h.tail.tail.tail.tail.tail.tail.tail.tail.tail.tail.tail.tail
  obtain ⟨a0, a1, s0, s1, c0, c1, t0, t1, hv0, hv1, -, -, -, -, -, -, hne, hb0, hb1⟩ := laid_sentinels2 h12 gEOF (by kernel_rfl) gOther (by kernel_rfl) Tryz.underlying63 row191 Tryz.underlying191 Tryz.underlying193 rfl rfl Tryz.underlying9 (by kernel_rfl) (by kernel_rfl)
  have e0 : W.cell? ⟨1, 0, none⟩ = some (.iface 191 (.pointer (some a0))) := by have := World.var?_cell gEOF hv0 0; simpa using this
  have e1 : W.cell? ⟨0, 0, none⟩ = some (.iface 191 (.pointer (some a1))) := by have := World.var?_cell gOther hv1 0; simpa using this
  exact ⟨a0, a1, c0, c1, t0, t1, ⟨e0, e1, hne⟩, World.block_lt_of_cell? W _ e0, hb0, hb1⟩

section
variable {H : Type} {enc : TypeId × Value → H}
theorem args_stay {W W' : World} (hb : Below W.heap.size W W') {sp' : Nat → Bool} : ∀ {ts : List TypeId} {vs : List Value} {ds : List (DataW H)} {ps : List MemPlace}, (∀ t ∈ ts, t < Tryz.prog.types.size) →
    DataW.TrodAll enc Tryz.prog W 0 (fun _ => true) true ts vs ds ps → (∀ p ∈ ps, p.block < W.heap.size) → (∀ p ∈ ps, sp' p.block = true) → DataW.TrodAll enc Tryz.prog W' 0 sp' true ts vs ds ps
  | [], [], [], _, _, h, _, _ => h
  | _ :: _, _ :: _, _ :: _, _, hT, ⟨p, q, h1, h2, e⟩, hl, hs => by
    subst e
    obtain ⟨n, hn⟩ := h1
    refine ⟨p, q, ⟨n, ?_⟩, args_stay hb (fun t ht => hT t (List.mem_cons_of_mem _ ht)) h2 (fun x hx => hl x (List.mem_append_right _ hx)) (fun x hx => hs x (List.mem_append_right _ hx)), rfl⟩
    exact DataW.trod_stays kids (fun {t e} => full t e) (fun h => by cases h) (hT _ (List.mem_cons_self ..)) hn (fun x hx => hb.same (hl x (List.mem_append_left _ hx))) (fun x hx => hs x (List.mem_append_left _ hx))

set_option maxRecDepth 100000 in
/-- Behind a call that told true and left all that was. -/
theorem law_post {f : Func} {s : ChangeSpec} {W W' : World} {args : Array Value} {ds gs : List (DataW H)} {before : List MemPlace}
    (hW : DataW.Whole enc Tryz.prog f.params.toList s.vars false W args.toList ds gs before) (hv : s.vars = []) (hr : f.resultTypes = #[4]) (hf : ∀ t ∈ f.params.toList, t < Tryz.prog.types.size)
    (hs : s.fn H (ds ++ gs) = { results := [.lit (.bool true)], args := ds }) (hb : Below W.heap.size W W') :
    s.post enc Tryz.prog f false true false false W args (.bool true) W' := by
  have hlt : ∀ p ∈ before, p.block < W.heap.size := fun p hp => hW.lt p hp
  have hold : ∀ p ∈ before, (fun b => decide (b < W.heap.size)) p.block = true := fun p hp => by simpa using hlt p hp
  have hW' := hW
  obtain ⟨pa, pv, hA, hV, hps, hz, hn⟩ := hW
  rw [hv] at hV
  obtain ⟨hg, hpv⟩ := trodVars_none hV
  subst hpv
  rw [List.append_nil] at hps
  subst hps
  have hres : ∀ (b : Nat) (sp : Nat → Bool) (hd : Bool), DataW.TrodAll enc Tryz.prog W' b sp hd f.resultTypes.toList ((Value.bool true).resultList f.resultTypes.size) (s.fn H (ds ++ gs)).results [] := fun b sp hd => by
    rw [hr, hs]; exact trodAll_mk1 (shut_bool Tryz.underlying4 _)
  have hargs : ∀ sp : Nat → Bool, (∀ p ∈ before, sp p.block = true) → DataW.TrodAll enc Tryz.prog W' 0 sp true f.params.toList args.toList (s.fn H (ds ++ gs)).args before := fun sp hsp => by
    rw [hs]; exact args_stay hb hf hA hlt hsp
  have hvars : ∀ sp : Nat → Bool, DataW.TrodVars enc Tryz.prog W' sp s.vars (s.fn H (ds ++ gs)).vars [] := fun sp => by
    rw [hs, hv]; rfl
  refine ⟨ds, gs, before, [], before, [], hW', hres _ _ _, hargs _ hold, hvars _, World.keptBut_mono (fun p hp => ⟨hp, ?_⟩) (hb.frame (· ∈ before)), fun _ => ?_⟩
  · exact Or.inr (by simpa using hp)
  · have hok : ∀ (j : Nat) (t : TypeId) (r : Value), f.resultTypes[j]? = some t → ((Value.bool true).resultList f.resultTypes.size)[j]? = some r → Value.okWide Tryz.prog W' .any 0 t r :=
      ok_one hr rfl (okWide_bool_mk Tryz.underlying4 _)
    refine ⟨hok, _, _, ([] ++ before) ++ [], ⟨[] ++ before, [], trodAll_append (hargs _ (fun _ _ => rfl)) (hres _ _ _), hvars _, rfl, ?_, ?_⟩, ?_⟩
    · intro b off hp
      have hin : MemPlace.cell b off ∈ before := by simpa using hp
      rw [hb.frozen (hlt _ hin)]
      exact hz b off hin
    · intro ha
      have := hn ha
      simpa using this
    · intro p hp _
      simpa using hp

theorem cells5 : Tryz.prog.cellsOf 5 = 1 := by kernel_rfl
set_option maxRecDepth 100000 in
/-- A slice of bytes that came in. -/
theorem bytes_arg {W : World} {base : Nat} {v : Value} {d : DataW H} {p : List MemPlace} (hval : Value.okWide Tryz.prog W .any base 22 v) (h : DataW.Trod enc Tryz.prog W 0 (fun _ => true) true 22 v d p) :
    ∃ (a : Option Addr) (n cap : Nat) (l : List Int), v = .slice a n cap ∧ BytesArg W (.slice a n cap) l ∧ Bytes l ∧ n = l.length := by
  obtain ⟨a0, len, cap, rfl⟩ := okWide_slice Tryz.underlying22 hval
  obtain ⟨fuel, hf⟩ := h
  rcases open_ints Tryz.underlying22 Tryz.underlying5 cells5 hf with ⟨hcs, -⟩ | ⟨a, len', cap', zs, hcs, -, hl, -, hz, -, hcell, hwz⟩
  · simp [Value.cells] at hcs
    obtain ⟨rfl, rfl, rfl⟩ := hcs
    exact ⟨none, 0, 0, [], rfl, .inr (.inl ⟨rfl, rfl⟩), fun i => by simp, rfl⟩
  · simp [Value.cells] at hcs
    obtain ⟨rfl, rfl, rfl⟩ := hcs
    simp only [if_true] at hz
    by_cases h0 : len = 0
    · subst h0
      exact ⟨some a, 0, cap, [], rfl, .inl ⟨rfl, _, _, rfl⟩, fun i => by simp, rfl⟩
    have hsp : a.spot = none := by simpa [Addr.add] using World.cell?_spot (hcell 0 (by omega))
    obtain ⟨b, o, sp⟩ := a
    simp only at hsp
    subst hsp
    have hlen : (zs.take len).length = len := by rw [List.length_take]; omega
    refine ⟨some ⟨b, o, none⟩, len, cap, zs.take len, rfl, .inr (.inr ⟨b, o, cap, by rw [hlen], by rw [hlen]; exact hl, ⟨id, World.block_lt_of_cell? W _ (hcell 0 (by omega))⟩, fun i hi => ?_⟩), fun i => ?_, hlen.symm⟩
    · rw [hlen] at hi
      have := hcell i (by omega)
      rw [show (⟨b, o, none⟩ : Addr).add i = ⟨b, o + i, none⟩ by unfold Addr.add; split <;> simp_all] at this
      rw [this]
      simp [List.getD, hi]
    · by_cases hi : i < (zs.take len).length
      · rw [List.getD, List.getElem?_eq_getElem hi]
        exact bounds_u8 (hwz _ (List.mem_of_mem_take (List.getElem_mem hi)))
      · simp [List.getD, List.getElem?_eq_none (Nat.le_of_not_lt hi)]
end
end Go.Proofs.YtaecbclonmhbcaaGreatDoor
