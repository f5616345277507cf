/- FetchToken at the text's end. -/
import Derived.Test.YtaecbclonmhbcaaGreatDoorFetP
import Derived.Test.YtaecbclonmhbcaaGreatDoorNum
namespace Go.Proofs.YtaecbclonmhbcaaGreatDoor
open Go.RowKit

section
variable {w : World} {b : Nat} {ae : Sur} {ao : Addr} {x : Lx} {vd vt ve vm : Value}

theorem fetch_end (h : x.pos = x.d.length) : x.fetch = { x with kind := 0, start := x.pos, err := .eof } := by
  unfold Lx.fetch
  rw [h, List.drop_length]
  rfl

set_option maxHeartbeats 4000000 in
set_option maxRecDepth 100000 in
theorem fetchToken_cap (bd o : Nat) (h : LexAt w b ae ao x (.slice (some ⟨bd, o, none⟩) x.d.length x.d.length) vt ve vm) (hw : x.Wf) (hp : x.pos = x.d.length) :
    Calls Tryz.prog 86 #[.pointer (some ⟨b, 0, none⟩)] w fun e w' => e = .returned (.tuple #[]) ∧ NumDone w b ae ao x.fetch (.slice (some ⟨bd, o, none⟩) x.d.length x.d.length) vm w' := by
  have HE := Lib.hid (fetch_end hp)
  have c0 := h.c0
  have c1 := h.c1
  have c2 := h.c2
  have c3 := h.c3
  have c11 := h.c11
  have f1 := h.free 1
  have f3 := h.free 3
  have f11 := h.free 11
  have eeof := h.env.eof
  have hb2 := h.b2
  have hb3 : ¬ b = 1 := by omega
  have hb4 : ¬ 1 = b := by omega
  have hl := hw.len
  rw [hp] at c2
  have HP := Lib.hid hp
  clear hp
  generalize hn : x.d.length = n at c0 c2 hl
  have HN := Lib.hid hn
  clear hn
  have H1 := Lib.hid h
  clear h
  go_enter Tryz.func86, Tryz.ntmps86
  go_wp2
  go_quiet (fail)
  go_wp2
  go_quiet (fail)
  go_wp2
  go_loop [37] (fun i => i = .int .i64 0) (fun _ => 0)
  case atStart => rfl
  case round =>
    subst hrel
    go_wp2
    (try simp only [Exit.inBlock, Exit.then])
    refine bodyPost_ret (results_none rfl _ _ _) rfl ?_
    have e : n = x.pos := (HP.out.trans HN.out).symm
    have g := H1.out
    rw [HN.out, e] at g
    rw [HE.out, e]
    exact ⟨rfl, _, _, (((g.setKind 0).setStart x.pos).drewN _).setErr (.iface 191 (.pointer (some ae.addr))) .eof rfl, ((((Kept.refl b w).setCell 3 _).setCell 1 _).drewN _).setCell 11 _⟩

set_option maxHeartbeats 4000000 in
set_option maxRecDepth 100000 in
theorem fetchToken_none (h : LexAt w b ae ao x (.slice none 0 0) vt ve vm) (hp : x.pos = 0) (hd : x.d.length = 0) :
    Calls Tryz.prog 86 #[.pointer (some ⟨b, 0, none⟩)] w fun e w' => e = .returned (.tuple #[]) ∧ NumDone w b ae ao x.fetch (.slice none 0 0) vm w' := by
  have HE : RowKit.Hid (x.fetch = { x with kind := 0, start := 0, err := .eof }) := by
    show _ = _
    rw [fetch_end (by omega)]; simp [hp]
  have c0 := h.c0
  have c1 := h.c1
  have c2 := h.c2
  have c3 := h.c3
  have c11 := h.c11
  have f1 := h.free 1
  have f3 := h.free 3
  have f11 := h.free 11
  have eeof := h.env.eof
  have hb2 := h.b2
  have hb3 : ¬ b = 1 := by omega
  have hb4 : ¬ 1 = b := by omega
  rw [hp] at c2
  have H1 := Lib.hid h
  clear hp h hd
  go_enter Tryz.func86, Tryz.ntmps86
  go_wp2
  go_quiet (fail)
  go_wp2
  go_quiet (fail)
  go_wp2
  go_loop [37] (fun i => i = .int .i64 0) (fun _ => 0)
  case atStart => rfl
  case round =>
    subst hrel
    go_wp2
    (try simp only [Exit.inBlock, Exit.then])
    refine bodyPost_ret (results_none rfl _ _ _) rfl ?_
    rw [HE.out]
    exact ⟨rfl, _, _, (((H1.out.setKind 0).setStart 0).drewN _).setErr (.iface 191 (.pointer (some ae.addr))) .eof rfl, ((((Kept.refl b w).setCell 3 _).setCell 1 _).drewN _).setCell 11 _⟩
end
end Go.Proofs.YtaecbclonmhbcaaGreatDoor
