/- impl.kind, impl.one, and the lexer's Error, GetPos. -/
import Derived.Test.YtaecbclonmhbcaaGreatDoorBad
import Derived.LaidEql
import Derived.Stop.Asserts
namespace Go.Proofs.YtaecbclonmhbcaaGreatDoor
open Go.RowKit

section
variable {w : World} {b : Nat} {ae : Sur} {ao : Addr} {x : Lx} {vd vt ve vm : Value}

set_option maxHeartbeats 400000 in
theorem error_any (h : LexAt w b ae ao x vd vt ve vm) :
    Calls Tryz.prog 28 #[.pointer (some ⟨b, 0, none⟩)] w fun e w' => e = .returned ve ∧ w = w' := by
  have c11 := h.c11
  clear h
  go_enter Tryz.func28, Tryz.ntmps28
  go_wp2
  go_ret
  exact ⟨rfl, rfl⟩

set_option maxHeartbeats 400000 in
theorem getPos_any (h : LexAt w b ae ao x vd vt ve vm) :
    Calls Tryz.prog 34 #[.pointer (some ⟨b, 0, none⟩)] w fun e w' => e = .returned (.int .i64 x.pos) ∧ w = w' := by
  have c2 := h.c2
  clear h
  go_enter Tryz.func34, Tryz.ntmps34
  go_wp2
  go_ret
  exact ⟨rfl, rfl⟩

def b01 (c : Bool) : Int := if c then 1 else 0
set_option maxHeartbeats 400000 in
theorem one_any (c : Bool) (w : World) :
    Calls Tryz.prog 62 #[.bool c] w fun e w' => e = .returned (.int .i64 (b01 c)) ∧ w = w' := by
  cases c <;>
  · go_enter Tryz.func62, Tryz.ntmps62
    go_wp2
    go_ret
    exact ⟨rfl, rfl⟩

set_option maxHeartbeats 400000 in
theorem kind_nil (w : World) :
    Calls Tryz.prog 35 #[.nilIface] w fun e w' => e = .returned (.int .i64 0) ∧ w = w' := by
  go_enter Tryz.func35, Tryz.ntmps35
  go_wp2
  go_ret
  exact ⟨rfl, rfl⟩

theorem und191 : ∃ i j, Tryz.prog.info? 191 = some i ∧ i.comparable = true ∧ Tryz.prog.info? 193 = some j ∧ j.size ≠ 0 := by
  have hc : (Tryz.prog.info? 191).map (·.comparable) = some true := by kernel_rfl
  have hs : (Tryz.prog.info? 193).map (fun j => decide (j.size ≠ 0)) = some true := by kernel_rfl
  obtain ⟨i, hi, hcmp⟩ := Option.map_eq_some_iff.1 hc
  obtain ⟨j, hj, hjs⟩ := Option.map_eq_some_iff.1 hs
  exact ⟨i, j, hi, hcmp, hj, of_decide_eq_true hjs⟩

set_option maxHeartbeats 400000 in
theorem kind_lex (w : World) (v : Value) (he : Env w ae ao) :
    Calls Tryz.prog 35 #[.iface 60 v] w fun e w' => e = .returned (.int .i64 2) ∧ w = w' := by
  have e1 := he.eof
  clear he
  have q1 := run_eql_iface_types (P := Tryz.prog) 60 191 v (.pointer (some ae.addr)) Tryz.underlying63 (by decide) w
  go_enter Tryz.func35, Tryz.ntmps35
  go_wp2
  go_ret
  exact ⟨rfl, rfl⟩

set_option maxHeartbeats 400000 in
theorem kind_eof (w : World) (he : Env w ae ao) :
    Calls Tryz.prog 35 #[.iface 191 (.pointer (some ae.addr))] w fun e w' => e = .returned (.int .i64 1) ∧ w = w' := by
  have e1 := he.eof
  clear he
  obtain ⟨i, j, hi, hcmp, hj, hz⟩ := und191
  have q1 := run_eql_iface_ptr_same (P := Tryz.prog) w ae.addr Tryz.underlying63 Tryz.underlying191 hi hcmp hj
  go_enter Tryz.func35, Tryz.ntmps35
  go_wp2
  go_ret
  exact ⟨rfl, rfl⟩

set_option maxHeartbeats 400000 in
theorem kind_other (w : World) (he : Env w ae ao) {ca cb : Array Value} {ta tb : TypeId} (ha : w.heap[ao.block]? = some (.cells ca ta (0, 0))) (hb : w.heap[ae.addr.block]? = some (.cells cb tb (0, 0))) :
    Calls Tryz.prog 35 #[.iface 191 (.pointer (some ao))] w fun e w' => e = .returned (.int .i64 2) ∧ w = w' := by
  have e1 := he.eof
  have hne := he.ne
  clear he
  obtain ⟨i, j, hi, hcmp, hj, hz⟩ := und191
  have q1 := run_eql_iface_ptr_other (P := Tryz.prog) w Tryz.underlying63 Tryz.underlying191 hi hcmp hj hz (Ne.symm hne) ha hb
  go_enter Tryz.func35, Tryz.ntmps35
  go_wp2
  go_ret
  exact ⟨rfl, rfl⟩
end
end Go.Proofs.YtaecbclonmhbcaaGreatDoor
