/- A slice of calls that came in. -/
import Derived.Test.YtaecbclonmhbcaaGreatDoorHSp
set_option linter.unusedVariables false
set_option linter.unusedSimpArgs false
namespace Go.Proofs.YtaecbclonmhbcaaGreatDoor
open Go.RowKit Go.WideShapes Go.ChangeShapes

theorem k2 : Tryz.prog.cellsOf 2 = 1 := by kernel_rfl
theorem k3 : Tryz.prog.cellsOf 3 = 1 := by kernel_rfl
theorem k22 : Tryz.prog.cellsOf 22 = 1 := by kernel_rfl
theorem k27 : Tryz.prog.cellsOf 27 = 3 := by kernel_rfl
theorem one_at {cs : List Value} {o : Nat} {v : Value} (h : (cs.drop o).take 1 = [v]) : cs[o]? = some v := by
  have := congrArg (·[0]?) h
  simpa [List.getElem?_take, List.getElem?_drop] using this

section
variable {H : Type} {enc : TypeId × Value → H}
theorem call_cells {W : World} {base : Nat} {sp : Nat → Bool} {held : Bool} {fuel : Nat} {ce : List Value} {y : DataW H × List MemPlace} (h : DataW.trod enc Tryz.prog W base sp held fuel 27 ce = some y) :
    ∃ (a n : Int) (p : Option Addr) (sn sc : Nat), ce[0]? = some (.int .i64 a) ∧ ce[1]? = some (.int .i64 n) ∧ ce[2]? = some (.slice p sn sc) := by
  obtain ⟨xs, m, _, hx, hl, hxl, hall⟩ := DataW.trod_struct Tryz.underlying27 h
  match xs, hxl with
  | [y0, y1, y2], _ =>
    have h0 : DataW.trod enc Tryz.prog W base sp held m 3 ((ce.drop 0).take (Tryz.prog.cellsOf 3)) = some y0 := hall 0 _ rfl
    have h1 : DataW.trod enc Tryz.prog W base sp held m 2 ((ce.drop 1).take (Tryz.prog.cellsOf 2)) = some y1 := hall 1 _ rfl
    have h2 : DataW.trod enc Tryz.prog W base sp held m 22 ((ce.drop 2).take (Tryz.prog.cellsOf 22)) = some y2 := hall 2 _ rfl
    rw [k3] at h0
    rw [k2] at h1
    rw [k22] at h2
    obtain ⟨a, e0, -⟩ := DataW.trod_int Tryz.underlying3 h0
    obtain ⟨n, e1, -⟩ := DataW.trod_int Tryz.underlying2 h1
    rcases DataW.trod_slice Tryz.underlying22 h2 with ⟨e2, _⟩ | ⟨a2, len, cap, _, _, _, _, e2, _⟩
    · exact ⟨a, n, none, 0, 0, one_at e0, one_at e1, one_at e2⟩
    · exact ⟨a, n, some a2, len, cap, one_at e0, one_at e1, one_at e2⟩

set_option maxRecDepth 100000 in
/-- A slice of calls that came in. -/
theorem calls_arg {W : World} {base : Nat} {v : Value} {d : DataW H} {p : List MemPlace} (hval : Value.okWide Tryz.prog W .any base 28 v) (h : DataW.Trod enc Tryz.prog W 0 (fun _ => true) true 28 v d p) :
    ∃ (a : Option Addr) (n cap : Nat) (cs : List Cl), v = .slice a n cap ∧ CallsArg W a cs ∧ n = cs.length := by
  obtain ⟨a0, len, cap, rfl⟩ := okWide_slice Tryz.underlying28 hval
  obtain ⟨fuel, hf⟩ := h
  rcases DataW.trod_slice Tryz.underlying28 hf with ⟨hcs, -⟩ | ⟨a, len', cap', elems, rest, m, -, hcs, -, -, hlc, -, hel, helem, -⟩
  · simp [Value.cells] at hcs
    obtain ⟨rfl, rfl, rfl⟩ := hcs
    exact ⟨none, 0, 0, [], rfl, fun h => absurd h (by decide), rfl⟩
  · simp [Value.cells] at hcs
    obtain ⟨rfl, rfl, rfl⟩ := hcs
    have hx : ∀ i : Nat, ∃ c : Cl, i < len → ∃ (p : Option Addr) (sn sc : Nat), c.2.2 = .slice p sn sc ∧ W.cell? ((a.add (i * 3)).add 0) = some (.int .i64 c.1) ∧ W.cell? ((a.add (i * 3)).add 1) = some (.int .i64 c.2.1) ∧ W.cell? ((a.add (i * 3)).add 2) = some (.slice p sn sc) := by
      intro i
      by_cases hi : i < len
      · have h1 := helem i hi
        obtain ⟨b, hb⟩ : ∃ b, elems[i]? = some b := ⟨elems[i]'(by omega), List.getElem?_eq_getElem (by omega)⟩
        rw [hb, k27] at h1
        obtain ⟨ce, hce, hte⟩ := Option.bind_eq_some_iff.1 h1
        obtain ⟨_, hcl, hcc⟩ := World.cells?_some hce
        obtain ⟨x, n, p, sn, sc, e0, e1, e2⟩ := call_cells hte
        exact ⟨(x, n, .slice p sn sc), fun _ => ⟨p, sn, sc, rfl, (hcc 0 (by decide)).trans e0, (hcc 1 (by decide)).trans e1, (hcc 2 (by decide)).trans e2⟩⟩
      · exact ⟨dC, fun h => absurd h hi⟩
    obtain ⟨f, hf'⟩ := Classical.skolem.1 hx
    refine ⟨some a, len, cap, (List.range len).map f, rfl, fun h0 => ?_, by simp⟩
    rw [List.length_map, List.length_range] at h0
    have hsp : a.spot = none := by
      obtain ⟨p, sn, sc, -, e0, -⟩ := hf' 0 h0
      have hx : (Addr.add (Addr.add a (0 * 3)) 0) = a := by simp [Addr.add]
      rw [hx] at e0
      exact World.cell?_spot e0
    obtain ⟨b, o, s⟩ := a
    simp only at hsp
    subst hsp
    have hadd : ∀ i j, (Addr.add (Addr.add ⟨b, o, none⟩ i) j) = ⟨b, o + i + j, none⟩ := fun i j => by rw [Addr.add_lit, Addr.add_lit]
    refine ⟨b, o, rfl, ?_, fun k hk => ?_⟩
    · obtain ⟨p, sn, sc, -, e0, -⟩ := hf' 0 h0
      exact World.block_lt_of_cell? W _ (by rw [hadd] at e0; exact e0)
    · have hk' : k < len := by simpa using hk
      obtain ⟨p, sn, sc, e, e0, e1, e2⟩ := hf' k hk'
      rw [hadd] at e0 e1 e2
      have hget : ((List.range len).map f).getD k (0, 0, .nilIface) = f k := by simp [List.getD, hk']
      rw [hget]
      exact ⟨p, sn, sc, e, e0, e1, e2⟩
end
end Go.Proofs.YtaecbclonmhbcaaGreatDoor
