/- impl.walk: what its arms stand on. -/
import Derived.Test.YtaecbclonmhbcaaGreatDoorR30
set_option linter.unusedVariables false
set_option linter.unusedSimpArgs false
namespace Go.Proofs.YtaecbclonmhbcaaGreatDoor
open Go.RowKit
section
variable {w W : World} {b k B : Nat} {ae : Sur} {ao : Addr} {o : Int} {x y : Lx} {vd vt ve : Value}
theorem Wk.newRes (h : Wk w b ae ao k o x vd vt ve) (z : Array Value) : Wk (w.alloc (.cells z 52)) b (ae.hold w.heap.size) ao k o x vd vt ve :=
  ⟨h.lx.hold _, h.inv, (heap_alloc_lt (lt_heap h.own)).trans h.own, .inl h.held, h.bk, h.bad⟩
theorem Wk.endRes (h : Wk w b (ae.hold B) ao k o x vd vt ve) (hk : ae.held k) (hkB : k < B) (hbB : b < B) (h1B : 1 < B) (hae : ∀ j, ae.held j → j < B) (hB : B < w.heap.size) (hsz : W.heap.size = w.heap.size) (hbl : ∀ j, j ≠ B → W.heap[j]? = w.heap[j]?) : Wk W b ae ao k o x vd vt ve := by
  refine h.moved (by omega) (fun j hj hc => hbl j (fun e => ?_)) rfl ?_ (fun j e => by have := hae j e; omega) hk
  · rcases hc with hc | hc | hc | hc
    · exact hc (.inr e)
    · omega
    · omega
    · omega
  · rintro j hj (e | e)
    · exact .inl e
    · exact .inr (.inl e)
theorem Lx.Inv.added (h : x.Inv) : x.added.Inv := by
  unfold Lx.added
  split
  · exact h.err rfl
  · exact h
theorem added_bad : x.added.ok = false := by
  unfold Lx.added
  split
  · rfl
  · rename_i h; exact Bool.eq_false_iff.2 h
theorem added_d : x.added.d = x.d := by unfold Lx.added; split <;> rfl
theorem Wk.spoil (h : Wk w b ae ao k o x vd vt ve) (c : Int) : LexAt (w.setCell ⟨k, 0, none⟩ (.int .i64 c)) b ae ao x vd vt ve (.slice none 0 0) ∧ (w.setCell ⟨k, 0, none⟩ (.int .i64 c)).heap[k]? = some (.cells #[.int .i64 c] 3 (0, 0)) :=
  ⟨h.lx.setHeld h.held h.bk 0 _, by rw [heap_setCell h.own 0 (.int .i64 c)]; rfl⟩
theorem Wk.spoilt (h : Wk w b ae ao k o x vd vt ve) {c : Int} {w2 : World} (hd : NumDone (w.setCell ⟨k, 0, none⟩ (.int .i64 c)) b ae ao x.added vd (.slice none 0 0) w2) :
    (∃ vt' ve', Wk w2 b ae ao k c x.added vd vt' ve') ∧ Kept2 b k w w2 := by
  obtain ⟨vt', ve', h1, h2⟩ := hd
  refine ⟨⟨vt', ve', h1, h.inv.added, h2.heap (h.spoil c).2 (Nat.ne_of_gt h.bk), h.held, h.bk, fun _ => added_bad⟩, ?_⟩
  exact (((Kept2.refl b k w).setK 0 (.int .i64 c))).trans (h2.two k)
theorem Ent.peek (h : Ent x) (hn : NoNum x.d) (hok : x.peek.ok = true) : TokAt x.d x.peek := by
  rcases h (peek_okx hok) with h1 | ⟨p, sp, hf⟩
  · rw [h1.peek]; exact h1
  · exact (hf.peek hn hok).1
theorem WPost.of_peek {x' : Lx} (h : WPost x.peek x') (ht : TokAt x.d x.peek) : WPost x x' := fun h2 => by
  obtain ⟨h3, -, h5, h6, h7⟩ := h h2
  rw [ht.peek, peek_same.d] at h5
  exact ⟨peek_okx h3, h3, h5, h6, h7⟩
theorem WPost.bad {x' : Lx} (h : x'.ok = false) : WPost x x' := fun h2 => by rw [h] at h2; cases h2
theorem WPost.word (hok : x.peek.ok = true) (ht : TokAt x.d x.peek) (hk : x.peek.kind = 4 ∨ x.peek.kind = 5) : WPost x x.peek.consume := fun _ => by
  rcases ht.tok with ⟨e, -⟩ | ⟨e, -⟩ | ⟨-, -, hw⟩
  · omega
  · omega
  · exact ⟨peek_okx hok, hok, .word ht.lt hw, rfl, rfl⟩
theorem WPost.str (hok : x.peek.ok = true) (ht : TokAt x.d x.peek) : WPost x x.peek.str := fun h2 => by
  obtain ⟨h3, h4, h5, h6, h7, h8⟩ := str_good ht h2
  exact ⟨peek_okx hok, hok, .str ht.lt h4 h5, h6, h7⟩
theorem null_taken (hok : y.ok = true) (hp : y.peek = y) (hk : y.kind = 5) : y.null = y.consume := by
  unfold Lx.null Lx.nullS
  rw [hp, if_neg (by simp [hok, hk])]
theorem bool_taken (hok : y.ok = true) (hp : y.peek = y) (hk : y.kind = 4) : y.bool = y.consume := by
  unfold Lx.bool Lx.boolS
  rw [hp, if_neg (by simp [hok, hk])]
end
end Go.Proofs.YtaecbclonmhbcaaGreatDoor
