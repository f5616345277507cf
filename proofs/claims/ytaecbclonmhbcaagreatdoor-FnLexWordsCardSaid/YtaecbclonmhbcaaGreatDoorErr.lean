/- The lexer's errors of its own: errParse, errSyntax. -/
import Derived.Test.YtaecbclonmhbcaaGreatDoorAt
namespace Go.Proofs.YtaecbclonmhbcaaGreatDoor
open Go.RowKit

/-- string(b) of a slice of bytes. -/
theorem run_bytes_str {w : World} {A : Nat → Prop} {v : Value} {xs : List Int} (h : BytesAt w A v xs) (m : Nat) :
    ∀ dst, Tryz.prog.underlying dst = some .string → (convert 22 dst v).run Tryz.prog (w.drewN m) = .ok (.string (strOfNums xs)) (w.drewN m) := by
  intro dst hd
  rcases h with ⟨rfl, rfl⟩ | ⟨b, o, cap, rfl, hc, hn, hx⟩
  · exact run_convert_bytes_nil _ 22 5 Tryz.underlying22 Tryz.underlying5 _ _ dst hd
  · exact run_convert_bytes_arg (w.drewN m) 22 5 Tryz.underlying22 Tryz.underlying5 b o _ _ xs rfl hx dst hd

section
variable {w : World} {b : Nat} {ae : Sur} {ao : Addr} {x : Lx} {vd vt ve vm : Value}

/-- The bytes of the text, where there is one. -/
theorem LexAt.bytes (h : LexAt w b ae ao x vd vt ve vm) (hp : 0 < x.d.length) :
    ∃ bd o cap, vd = .slice (some ⟨bd, o, none⟩) x.d.length cap ∧ x.d.length ≤ cap ∧ bd ≠ b ∧ ∀ i, i < x.d.length → w.cell? ⟨bd, o + i, none⟩ = some (.int .u8 (x.d.getD i 0)) := by
  rcases h.data with ⟨h0, -⟩ | ⟨bd, o, cap, rfl, hc, hne, hx⟩
  · rw [h0] at hp; simp at hp
  · exact ⟨bd, o, cap, rfl, hc, fun e => hne.1 (.inl e), hx⟩
theorem LexAt.shape (h : LexAt w b ae ao x vd vt ve vm) : ∃ p cap, vd = .slice p x.d.length cap := by
  rcases h.data with ⟨h0, rfl⟩ | ⟨bd, o, cap, rfl, -⟩
  · exact ⟨none, 0, by rw [h0]; rfl⟩
  · exact ⟨_, cap, rfl⟩

/-- A new error of the lexer's own at the place n. -/
theorem LexAt.newErr (h : LexAt w b ae ao x vd vt ve vm) (s t : ByteArray) (n : Nat) (m : Nat) :
    LexAt (((w.drewN m).alloc (.cells #[.string s, .int .i64 n, .string t] 66)).setCell ⟨b, 11, none⟩ (.iface 60 (.pointer (some ⟨w.heap.size, 0, none⟩)))) b ae ao { x with err := .lex n } vd vt (.iface 60 (.pointer (some ⟨w.heap.size, 0, none⟩))) vm := by
  have hb := h.lt
  refine ((h.drewN m).alloc _).setErr _ (.lex n) ⟨w.heap.size, s, t, rfl, h.fresh, ?_⟩
  rw [heap_setCell_other 11 _ (by omega)]
  exact heap_alloc_new (w.drewN m) _

set_option maxHeartbeats 400000 in
theorem errParse_held (h : LexAt w b ae ao x vd vt ve vm) (hx : x.ok = false) (s : ByteArray) :
    Calls Tryz.prog 117 #[.pointer (some ⟨b, 0, none⟩), .string s] w fun e w' => e = .returned (.tuple #[]) ∧ w = w' := by
  have c11 := h.c11
  have he := h.err
  have hx' : x.err.isNil = false := hx
  clear h hx
  cases hxe : x.err <;> rw [hxe] at he hx' <;> simp only [ErrAt, Er.isNil, Bool.true_eq_false] at he hx' <;> clear hxe
  case lex n => obtain ⟨k, s, t, rfl, -, -⟩ := he; go_enter Tryz.func117, Tryz.ntmps117; go_wp2; go_end0; exact ⟨rfl, rfl⟩
  all_goals (subst he; go_enter Tryz.func117, Tryz.ntmps117; go_wp2; go_end0; exact ⟨rfl, rfl⟩)

def Failed (w : World) (b : Nat) (ae : Sur) (ao : Addr) (x : Lx) (vd vt vm : Value) (w' : World) : Prop := ∃ ve', LexAt w' b ae ao x vd vt ve' vm ∧ Kept b w w'

set_option maxHeartbeats 400000 in
theorem errParse_short_at (p : Option Addr) (cap : Nat) (h : LexAt w b ae ao x (.slice p x.d.length cap) vt ve vm) (hx : x.ok = true) (s : ByteArray) (hn : x.d.length ≤ 1073741824) (hp : x.pos ≤ x.d.length) (hs : x.d.length - x.pos ≤ 13) :
    Calls Tryz.prog 117 #[.pointer (some ⟨b, 0, none⟩), .string s] w fun e w' => e = .returned (.tuple #[]) ∧ Failed w b ae ao { x with err := .lex x.pos } (.slice p x.d.length cap) vt vm w' := by
  have c11 := h.c11
  have c0 := h.c0
  have c2 := h.c2
  have f11 := h.free 11
  have hlt := h.lt
  have hve : ve = .nilIface := by
    have he := h.err
    have hx' : x.err.isNil = true := hx
    cases hxe : x.err <;> rw [hxe] at he hx' <;> simp only [ErrAt, Er.isNil, Bool.false_eq_true] at he hx'
    exact he
  rw [hve] at c11
  have hd : decide ((x.d.length : Int) - x.pos ≤ 13) = true := by simp; omega
  have hcv := run_bytes_str h.data
  have had : ∀ (n : Nat) (O : Obj), (w.drewN n).alloc O = (w.alloc O).drewN n := fun _ _ => rfl
  have H := Lib.hid h
  clear h hve hx
  go_enter Tryz.func117, Tryz.ntmps117
  go_wp2
  go_quiet (fail)
  go_wp2
  go_end0
  exact ⟨rfl, _, H.out.newErr s _ _ _, (((Kept.refl b w).drewN _).alloc _).setCell 11 _⟩

theorem errParse_short (h : LexAt w b ae ao x vd vt ve vm) (hx : x.ok = true) (s : ByteArray) (hn : x.d.length ≤ 1073741824) (hp : x.pos ≤ x.d.length) (hs : x.d.length - x.pos ≤ 13) :
    Calls Tryz.prog 117 #[.pointer (some ⟨b, 0, none⟩), .string s] w fun e w' => e = .returned (.tuple #[]) ∧ Failed w b ae ao { x with err := .lex x.pos } vd vt vm w' := by
  obtain ⟨p, cap, rfl⟩ := h.shape
  exact errParse_short_at p cap h hx s hn hp hs

set_option maxHeartbeats 400000 in
theorem errParse_long (h : LexAt w b ae ao x vd vt ve vm) (hx : x.ok = true) (s : ByteArray) (hn : x.d.length ≤ 1073741824) (hs : x.pos + 13 < x.d.length) :
    Calls Tryz.prog 117 #[.pointer (some ⟨b, 0, none⟩), .string s] w fun e w' => e = .returned (.tuple #[]) ∧ Failed w b ae ao { x with err := .lex x.pos } vd vt vm w' := by
  have c11 := h.c11
  have c0 := h.c0
  have c2 := h.c2
  have f11 := h.free 11
  have hlt := h.lt
  have hve : ve = .nilIface := by
    have he := h.err
    have hx' : x.err.isNil = true := hx
    cases hxe : x.err <;> rw [hxe] at he hx' <;> simp only [ErrAt, Er.isNil, Bool.false_eq_true] at he hx'
    exact he
  rw [hve] at c11
  obtain ⟨bd, o, cap, rfl, hc, hne, hcell⟩ := h.bytes (by omega)
  have hd : decide ((x.d.length : Int) - x.pos ≤ 13) = false := by simp; omega
  obtain ⟨sv, hcv, hsz⟩ : ∃ sv : ByteArray, (∀ (m cp : Nat) (dst : TypeId), Tryz.prog.underlying dst = some .string → (convert 22 dst (.slice (some ⟨bd, o + x.pos, none⟩) 10 cp)).run Tryz.prog (w.drewN m) = .ok (.string sv) (w.drewN m)) ∧ sv.size ≤ 10 :=
    ⟨strOfNums ((x.d.drop x.pos).take 10), fun m cp =>
    run_convert_bytes_arg (w.drewN m) 22 5 Tryz.underlying22 Tryz.underlying5 bd (o + x.pos) 10 cp ((x.d.drop x.pos).take 10) (by simp; omega) (fun i hi => by
      have := hcell (x.pos + i) (by omega)
      rw [← Nat.add_assoc] at this
      show w.cell? _ = _
      rw [this]
      simp [List.getD, hi]), by rw [strOfNums_size]; simp; omega⟩
  have had : ∀ (n : Nat) (O : Obj), (w.drewN n).alloc O = (w.alloc O).drewN n := fun _ _ => rfl
  have H := Lib.hid h
  clear h hve hx
  have s1 : IntKind.i64.wrap ((x.pos : Int) + 13) = (x.pos : Int) + 13 := IntWalk.i64_in _ (by omega)
  have s2 : IntKind.i64.wrap ((x.pos : Int) + 13 - 3) = (x.pos : Int) + 10 := by rw [IntWalk.i64_in _ (by omega)]; omega
  have s3 : ((x.pos : Int) + 10).toNat = x.pos + 10 := by omega
  have s4 : (0 : Int) ≤ (x.pos : Int) + 10 := by omega
  have s5 : (x.pos : Int) + 10 ≤ (cap : Int) := by omega
  have s6 : (x.pos : Int) ≤ (x.pos : Int) + 10 := by omega
  have s7 : x.pos + 10 - x.pos = 10 := by omega
  have s8 : ¬ cap = x.pos := by omega
  go_enter Tryz.func117, Tryz.ntmps117
  go_wp2
  go_quiet (fail)
  go_wp2
  go_quiet (fail)
  go_wp2
  go_end0
  exact ⟨rfl, _, H.out.newErr s _ _ _, (((Kept.refl b w).drewN _).alloc _).setCell 11 _⟩
end
end Go.Proofs.YtaecbclonmhbcaaGreatDoor
