/- Contract of unicode/utf8.EncodeRune: the library shelf laid at this program (written by the kit lay-plain tool). What an unescaped text is of: bytes, no more than there were. Plain. -/
import Derived.Shelf.Lays7
import Derived.Shelf.Spec.EncodeRune
import Derived.Test.YtaecbclonmhbcaaGreatDoorProg
import Derived.Test.YtaecbclonmhbcaaGreatDoorP27
import Derived.Test.YtaecbclonmhbcaaGreatDoorP01
set_option linter.unusedVariables false
set_option linter.unusedSimpArgs false
namespace Go.Proofs.YtaecbclonmhbcaaGreatDoor
open Go.Shelf
def sh_lays7n30_ren : Go.Shelf.Ren := ⟨fun | 30 => 134 | 47 => 159 | n => n, fun | 30 => 22 | 21 => 21 | 3 => 3 | 27 => 102 | 4 => 4 | 5 => 5 | 0 => 0 | 25 => 105 | n => n, fun | n => n⟩
theorem sh_lays7n30 : Go.Proofs.Lays7.n30 Tryz.prog sh_lays7n30_ren := {
  mixed := by kernel_rfl
  f30 := Tryz.func134.trans (congrArg some (by kernel_rfl))
  f47 := Tryz.func159.trans (congrArg some (by kernel_rfl))
  t0 := Tryz.underlying0
  a0 := Tryz.isAgg0
  z0 := Tryz.sizeOf0
  v0 := Tryz.zeroValue0
  i0 := by kernel_rfl
  t3 := Tryz.underlying3
  a3 := Tryz.isAgg3
  z3 := Tryz.sizeOf3
  v3 := Tryz.zeroValue3
  i3 := by kernel_rfl
  t4 := Tryz.underlying4
  a4 := Tryz.isAgg4
  z4 := Tryz.sizeOf4
  v4 := Tryz.zeroValue4
  i4 := by kernel_rfl
  t5 := Tryz.underlying5
  a5 := Tryz.isAgg5
  z5 := Tryz.sizeOf5
  v5 := Tryz.zeroValue5
  i5 := by kernel_rfl
  t21 := Tryz.underlying21
  a21 := Tryz.isAgg21
  z21 := Tryz.sizeOf21
  v21 := Tryz.zeroValue21
  i21 := by kernel_rfl
  t25 := Tryz.underlying105
  a25 := Tryz.isAgg105
  z25 := Tryz.sizeOf105
  v25 := Tryz.zeroValue105
  i25 := by kernel_rfl
  t27 := Tryz.underlying102
  a27 := Tryz.isAgg102
  z27 := Tryz.sizeOf102
  v27 := Tryz.zeroValue102
  i27 := by kernel_rfl
  t30 := Tryz.underlying22
  a30 := Tryz.isAgg22
  z30 := Tryz.sizeOf22
  v30 := Tryz.zeroValue22
  i30 := by kernel_rfl }
theorem sh_utf8_EncodeRune (b off len cap : Nat) (r : Int) (hlo : -2147483648 ≤ r) (hhi : r ≤ 2147483647) (w : World) (hl : (Lib.runeCells r).length ≤ len)
    (hc : ∀ j, j < (Lib.runeCells r).length → (w.cell? ⟨b, off + j, none⟩).isSome = true) (hf : ∀ j, j < (Lib.runeCells r).length → w.frozen? ⟨b, off + j, none⟩ = false) :
    Calls Tryz.prog 134 #[.slice (some ⟨b, off, none⟩) len cap, .int .i32 r] w fun e w' => e = .returned (.int .i64 (Lib.runeCells r).length) ∧ w' = w.setCells b off (Lib.runeCells r) :=
  Any7.utf8_EncodeRune sh_lays7n30 b off len cap r hlo hhi w hl hc hf
end Go.Proofs.YtaecbclonmhbcaaGreatDoor

namespace Go.Proofs.YtaecbclonmhbcaaGreatDoor
theorem escOf_enc {s : List Int} {r : Int} {n : Nat} (h : escOf s = some (r, n)) : (r ≤ 127 ∧ 2 ≤ n) ∨ 4 ≤ n := by
  unfold escOf at h
  simp only at h
  split at h
  · cases h
  rename_i hl
  split at h
  · cases h; rename_i hc; rcases hc with e | e | e <;> rw [e] <;> omega
  split at h
  · cases h; omega
  split at h
  · cases h; omega
  split at h
  · cases h; omega
  split at h
  · cases h; omega
  split at h
  · cases h; omega
  split at h
  · split at h
    · cases h
    split at h
    · split at h
      · cases h; omega
      · cases h; omega
    · cases h; omega
  · cases h
def LB (l : List Int) : Prop := ∀ c ∈ l, 0 ≤ c ∧ c ≤ 255
theorem LB.of_bytes {l : List Int} (h : Bytes l) : LB l := fun c hc => by
  obtain ⟨i, hi⟩ := List.mem_iff_getElem?.1 hc
  have := h i
  simpa [List.getD, hi] using this
theorem unesc_good : ∀ (f : Nat) (acc data l : List Int), unesc f acc data = some l → LB acc → LB data → LB l ∧ l.length ≤ acc.length + data.length
  | 0, _, _, _, h, _, _ => by simp [unesc] at h
  | f + 1, acc, data, l, h, ha, hd => by
    unfold unesc at h
    split at h
    · cases h
      refine ⟨fun c hc => ?_, by simp⟩
      rcases List.mem_append.1 hc with hc | hc
      · exact ha c hc
      · exact hd c hc
    · rename_i i hi
      split at h
      · cases h
      · rename_i r n he
        have hb := escOf_bounds he
        have hn := escOf_enc he
        have hl := Lib.encodeRuneZ_length r
        have hi' : i + n ≤ data.length := by
          have := hb.2.2.2
          rw [List.length_drop] at this
          have := hb.2.2.1
          omega
        have hlen : (Lib.encodeRuneZ r).length ≤ n := by
          rcases hn with ⟨h1, h2⟩ | h2
          · rw [Lib.encodeRuneZ_one hb.1 h1]; simp; omega
          · omega
        obtain ⟨k1, k2⟩ := unesc_good f _ _ l h (fun c hc => by
          rcases List.mem_append.1 hc with hc | hc
          · rcases List.mem_append.1 hc with hc | hc
            · exact ha c hc
            · exact hd c (List.mem_of_mem_take hc)
          · have := Lib.encodeRuneZ_byte r c hc; omega) (fun c hc => hd c (List.mem_of_mem_drop hc))
        refine ⟨k1, ?_⟩
        simp only [List.length_append, List.length_take, List.length_drop] at k2
        omega
end Go.Proofs.YtaecbclonmhbcaaGreatDoor
