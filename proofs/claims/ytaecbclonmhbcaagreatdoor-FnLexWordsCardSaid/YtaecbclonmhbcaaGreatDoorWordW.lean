/- laws.FnLexWords: the walk, a theorem a word. Printed by gen_words.py. -/
import Derived.Test.YtaecbclonmhbcaaGreatDoorPlainW
import Derived.Test.YtaecbclonmhbcaaGreatDoorDelM
import Derived.Test.YtaecbclonmhbcaaGreatDoorFin
import Derived.Lib.SmallJoins
namespace Go.Proofs.YtaecbclonmhbcaaGreatDoor
open Go.RowKit

/-- The blanks ahead, by their number. -/
def blankC (i : Nat) : Int := if i % 4 = 0 then 32 else if i % 4 = 1 then 9 else if i % 4 = 2 then 10 else 13
def blanksL (n : Nat) : List Int := (List.range n).map blankC
theorem blanksL_length (n : Nat) : (blanksL n).length = n := by simp [blanksL]
theorem blanksL_succ (n : Nat) : blanksL (n + 1) = blanksL n ++ [blankC n] := by simp [blanksL, List.range_succ]
theorem blanksL_mem {n : Nat} : ∀ c ∈ blanksL n, c = 32 ∨ c = 9 ∨ c = 13 ∨ c = 10 := by
  intro c hc
  obtain ⟨i, -, rfl⟩ := List.mem_map.1 hc
  unfold blankC
  repeat' split
  all_goals simp
theorem blank_index (i : Nat) (h : i < 8) (W : World) : (Instr.index 9 (.string ⟨#[32, 9, 10, 13]⟩) (.int .i64 (bits .and .i64 (i : Int) 3))).run Tryz.prog W = .ok (.int .u8 (blankC i)) W := by
  have h8 : i = 0 ∨ i = 1 ∨ i = 2 ∨ i = 3 ∨ i = 4 ∨ i = 5 ∨ i = 6 ∨ i = 7 := by omega
  rcases h8 with rfl | rfl | rfl | rfl | rfl | rfl | rfl | rfl <;> (show _ = _; kernel_rfl)
def BlRel (w : World) (B n : Nat) (vb i : Value) (wr : World) : Prop :=
  ∃ k : Nat, i = .int .i64 k ∧ k ≤ n ∧ wr.ownsRow B 5 1 vb (blanksL k).length (byteVs (blanksL k)) ∧ Below B w wr ∧ B ≤ wr.heap.size
theorem bytes_app {a b : List Int} (ha : Bytes a) (hb : Bytes b) : Bytes (a ++ b) := fun i => by
  by_cases h : i < a.length
  · have := ha i; rwa [show (a ++ b).getD i 0 = a.getD i 0 by simp [List.getD, List.getElem?_append_left h]]
  · have := hb (i - a.length); rwa [show (a ++ b).getD i 0 = b.getD (i - a.length) 0 by simp [List.getD, List.getElem?_append_right (Nat.le_of_not_lt h)]]
theorem bytes_mem {l : List Int} (h : ∀ c ∈ l, 0 ≤ c ∧ c ≤ 255) : Bytes l := fun i => by
  by_cases hi : i < l.length
  · rw [List.getD, List.getElem?_eq_getElem hi]; exact h _ (List.getElem_mem hi)
  · simp [List.getD, List.getElem?_eq_none (Nat.le_of_not_lt hi)]
theorem BytesAt.drewN {w : World} {A : Nat → Prop} {v : Value} {l : List Int} (h : BytesAt w A v l) (n : Nat) : BytesAt (w.drewN n) A v l := h
theorem Env.drewN {w : World} {ae : Sur} {ao : Addr} (h : Env w ae ao) (n : Nat) : Env (w.drewN n) ae ao := ⟨h.eof, h.other, h.ne⟩
theorem below_drewN {B : Nat} {a w : World} (h : Below B a w) (n : Nat) : Below B a (w.drewN n) := ⟨h.os, h.tape, h.output, h.size, h.block⟩
theorem BytesArg.below {w w' : World} {v : Value} {l : List Int} (h : BytesArg w v l) (hb : Below w.heap.size w w') : BytesArg w' v l := h.imp id fun h => h.below hb
/-- Bytes that came in, behind bytes. -/
theorem append_arg {w : World} {base : Nat} {v : Value} {xs ls : List Int} (hown : w.ownsRow base 5 1 v xs.length (byteVs xs)) {u : Value} (hu : BytesArg w u ls) (hn : xs.length + ls.length ≤ 1000000) (hbase : base ≤ w.heap.size) :
    ∃ v' w', (Builtin.append_ #[22, 22] 22 #[v, u]).run Tryz.prog w = .ok v' w' ∧ w'.ownsRow base 5 1 v' (xs ++ ls).length (byteVs (xs ++ ls)) ∧ w.grownBy w' v.ownBlock ∧
      (v'.ownBlock = v.ownBlock ∨ ∃ k, w.heap.size ≤ k ∧ v'.ownBlock = some k) := by
  rcases hu with ⟨rfl, a, c, rfl⟩ | h
  · obtain ⟨i, hi, hz, hz1, hz2⟩ := info_parts info5
    have := append_any (P := Tryz.prog) (t := 22) Tryz.underlying22 hi hz hz1 hz2 rfl (by decide) (by decide) hown a 0 c [] (by simp) (fun j x hj => by simp at hj) (fun x hx => by simp at hx) hn hbase
    simpa using this
  · exact append_bytes hown h hn hbase
/-- The words as they are made, and what else is left. -/
theorem words_made (w wa : World) (h : wa = (((w.alloc (.cells #[.int .u8 116, .int .u8 114, .int .u8 117, .int .u8 101] 5 (4, 5))).alloc (.cells #[.int .u8 102, .int .u8 97, .int .u8 108, .int .u8 115, .int .u8 101] 5 (5, 6))).alloc (.cells #[.int .u8 110, .int .u8 117, .int .u8 108, .int .u8 108] 5 (4, 5))).alloc (.cells #[.slice (some ⟨w.heap.size, 0, none⟩) 4 4, .slice (some ⟨w.heap.size + 1, 0, none⟩) 5 5, .slice (some ⟨w.heap.size + 1 + 1, 0, none⟩) 4 4] 22)) :
    Below w.heap.size w wa ∧ wa.heap.size = w.heap.size + 4 ∧
      (wa.cell? ⟨w.heap.size + 1 + 1 + 1, 0, none⟩ = some (.slice (some ⟨w.heap.size, 0, none⟩) 4 4) ∧ wa.cell? ⟨w.heap.size + 1 + 1 + 1, 1, none⟩ = some (.slice (some ⟨w.heap.size + 1, 0, none⟩) 5 5) ∧ wa.cell? ⟨w.heap.size + 1 + 1 + 1, 2, none⟩ = some (.slice (some ⟨w.heap.size + 1 + 1, 0, none⟩) 4 4)) ∧
      (BytesAt wa (fun _ => False) (.slice (some ⟨w.heap.size, 0, none⟩) 4 4) (wordOf 0) ∧ BytesAt wa (fun _ => False) (.slice (some ⟨w.heap.size + 1, 0, none⟩) 5 5) (wordOf 1) ∧ BytesAt wa (fun _ => False) (.slice (some ⟨w.heap.size + 1 + 1, 0, none⟩) 4 4) (wordOf 2)) := by
  subst h
  generalize hA : (Obj.cells #[.int .u8 116, .int .u8 114, .int .u8 117, .int .u8 101] 5 (4, 5)) = A
  generalize hB : (Obj.cells #[.int .u8 102, .int .u8 97, .int .u8 108, .int .u8 115, .int .u8 101] 5 (5, 6)) = B
  generalize hC : (Obj.cells #[.int .u8 110, .int .u8 117, .int .u8 108, .int .u8 108] 5 (4, 5)) = C
  generalize hD : (Obj.cells #[.slice (some ⟨w.heap.size, 0, none⟩) 4 4, .slice (some ⟨w.heap.size + 1, 0, none⟩) 5 5, .slice (some ⟨w.heap.size + 1 + 1, 0, none⟩) 4 4] 22) = D
  have s1 : (w.alloc A).heap.size = w.heap.size + 1 := by simp
  have s2 : ((w.alloc A).alloc B).heap.size = w.heap.size + 1 + 1 := by simp
  have s3 : (((w.alloc A).alloc B).alloc C).heap.size = w.heap.size + 1 + 1 + 1 := by simp
  have hhA : ((((w.alloc A).alloc B).alloc C).alloc D).heap[w.heap.size]? = some A :=
    (heap_alloc_lt (by omega)).trans ((heap_alloc_lt (by omega)).trans ((heap_alloc_lt (by omega)).trans (heap_alloc_new w A)))
  have hhB : ((((w.alloc A).alloc B).alloc C).alloc D).heap[w.heap.size + 1]? = some B := by
    have := heap_alloc_new (w.alloc A) B
    rw [s1] at this
    exact (heap_alloc_lt (by omega)).trans ((heap_alloc_lt (by omega)).trans this)
  have hhC : ((((w.alloc A).alloc B).alloc C).alloc D).heap[w.heap.size + 1 + 1]? = some C := by
    have := heap_alloc_new ((w.alloc A).alloc B) C
    rw [s2] at this
    exact (heap_alloc_lt (by omega)).trans this
  have hhD : ((((w.alloc A).alloc B).alloc C).alloc D).heap[w.heap.size + 1 + 1 + 1]? = some D := by
    have := heap_alloc_new (((w.alloc A).alloc B).alloc C) D
    rwa [s3] at this
  have s4 : ((((w.alloc A).alloc B).alloc C).alloc D).heap.size = w.heap.size + 4 := by simp
  have hbel : Below w.heap.size w ((((w.alloc A).alloc B).alloc C).alloc D) :=
    ((((Below.refl w.heap.size w).alloc (Nat.le_refl _) A).alloc (by omega) B).alloc (by omega) C).alloc (by omega) D
  generalize (((w.alloc A).alloc B).alloc C).alloc D = wa at *
  subst hA hB hC hD
  refine ⟨hbel, s4, ⟨cell_of_heap hhD 0 rfl, cell_of_heap hhD 1 rfl, cell_of_heap hhD 2 rfl⟩, ?_, ?_, ?_⟩
  · refine .inr ⟨w.heap.size, 0, 4, rfl, by decide, ⟨id, by omega⟩, fun i hi => ?_⟩
    match i, hi with
    | 0, _ => exact cell_of_heap hhA 0 rfl
    | 1, _ => exact cell_of_heap hhA 1 rfl
    | 2, _ => exact cell_of_heap hhA 2 rfl
    | 3, _ => exact cell_of_heap hhA 3 rfl
  · refine .inr ⟨w.heap.size + 1, 0, 5, rfl, by decide, ⟨id, by omega⟩, fun i hi => ?_⟩
    match i, hi with
    | 0, _ => exact cell_of_heap hhB 0 rfl
    | 1, _ => exact cell_of_heap hhB 1 rfl
    | 2, _ => exact cell_of_heap hhB 2 rfl
    | 3, _ => exact cell_of_heap hhB 3 rfl
    | 4, _ => exact cell_of_heap hhB 4 rfl
  · refine .inr ⟨w.heap.size + 1 + 1, 0, 4, rfl, by decide, ⟨id, by omega⟩, fun i hi => ?_⟩
    match i, hi with
    | 0, _ => exact cell_of_heap hhC 0 rfl
    | 1, _ => exact cell_of_heap hhC 1 rfl
    | 2, _ => exact cell_of_heap hhC 2 rfl
    | 3, _ => exact cell_of_heap hhC 3 rfl
theorem wordsD_bytes (n k : Nat) {tail : List Int} (h : Bytes tail) : Bytes (wordsD (blanksL n) k tail) := by
  refine bytes_app (bytes_mem fun c hc => ?_) (bytes_app (bytes_mem fun c hc => ?_) (show Bytes ([44] ++ tail) from bytes_app (bytes_mem fun c hc => ?_) h))
  · have := blanksL_mem c hc; omega
  · unfold wordOf at hc
    split at hc
    · simp at hc; omega
    · split at hc <;> simp at hc <;> omega
  · simp at hc; omega

set_option maxHeartbeats 8000000 in
set_option maxRecDepth 100000 in
theorem words_0 {w : World} {ae : Sur} {ao : Addr} (he : Env w ae ao) (h2 : 1 < w.heap.size) (word ahead : Int) (hw0 : 0 ≤ word) (hw1 : word ≤ 255) (hk : word % 3 = 0) (ha0 : 0 ≤ ahead) (ha1 : ahead ≤ 255)
    {p : Option Addr} {tc : Nat} {tail : List Int} (hv : BytesArg w (.slice p tail.length tc) tail) (hby : Bytes tail) (hl : tail.length ≤ 8192) :
    Calls Tryz.prog 9 #[.int .u8 word, .int .u8 ahead, .slice p tail.length tc] w fun e w' => e = .returned (.bool true) ∧ Below w.heap.size w w' := by
  obtain ⟨n, hn⟩ : ∃ n : Nat, ahead % 8 = n := ⟨(ahead % 8).toNat, by omega⟩
  have hn8 : n < 8 := by omega
  have HE := Lib.hid he
  have HV := Lib.hid hv
  have HBY := Lib.hid hby
  have kc := fun (W : World) (C : Array Value) (n c g : Nat) (hg : g = W.heap.size) => Go.Joins.run_convert_bytes_const_at (P := Tryz.prog) W 22 5 C n c g hg Tryz.underlying22 Tryz.underlying5
  clear he hv hby
  go_enter Tryz.func9, Tryz.ntmps9
  go_wp2
  rw [hk]
  obtain ⟨wa, hwa⟩ : ∃ wa : World, wa = (((w.alloc (.cells #[.int .u8 116, .int .u8 114, .int .u8 117, .int .u8 101] 5 (4, 5))).alloc (.cells #[.int .u8 102, .int .u8 97, .int .u8 108, .int .u8 115, .int .u8 101] 5 (5, 6))).alloc (.cells #[.int .u8 110, .int .u8 117, .int .u8 108, .int .u8 108] 5 (4, 5))).alloc (.cells #[.slice (some ⟨w.heap.size, 0, none⟩) 4 4, .slice (some ⟨w.heap.size + 1, 0, none⟩) 5 5, .slice (some ⟨w.heap.size + 1 + 1, 0, none⟩) 4 4] 22) := ⟨_, rfl⟩
  obtain ⟨hwb, hws, hwc, hwp⟩ := words_made w wa hwa
  rw [← hwa]
  clear hwa
  have HWB := Lib.hid hwb
  have HWS := Lib.hid hws
  have HWC := Lib.hid hwc
  have HWP := Lib.hid hwp
  clear hwb hws hwc hwp
  go_loopw [9, 10] (fun vb i wr => BlRel wa (w.heap.size + 4) n vb i wr) (fun _ i _ => n - (intOf i).toNat)
  case atStart => exact ⟨0, rfl, Nat.zero_le _, World.ownsRow_nil _ _ _ _, Below.refl _ _, by rw [HWS.out]; exact Nat.le_refl _⟩
  case round =>
    obtain ⟨k, rfl, hkn, hob, hbel, hsz⟩ := hrel
    have HOB := Lib.hid hob
    have HBE := Lib.hid hbel
    have HSZ := Lib.hid hsz
    clear hob hbel hsz
    by_cases hlt : k < n
    case pos =>
      have hbi := fun W => blank_index k (by omega) W
      obtain ⟨bc, hbc⟩ : ∃ bc, bc = blankC k := ⟨_, rfl⟩
      rw [← hbc] at hbi
      obtain ⟨v1, w1, hr1, ho1, hg1, hk1⟩ := append_byte HOB.out bc (by rw [blanksL_length]; omega) HSZ.out
      have HR1 := Lib.hid hr1
      have HO1 := Lib.hid ho1
      have HB1 := Lib.hid (HBE.out.grown hg1 HSZ.out (fun j e => (HOB.out.lt j e).1))
      have HS1 := Lib.hid (Nat.le_trans HSZ.out hg1.size)
      have HBC := Lib.hid hbc
      have HT := Lib.hid (blanksL_succ k)
      clear hr1 ho1 hg1 hk1 hbc
      go_wp2_with (at_builtin; refine Lib.wpList_append_run_sl _ rfl _ _ 22 rfl _ _ rfl rfl HR1.out ?_)
      go_roundw
      case rel => exact ⟨k + 1, by go_num, by omega, by rw [HT.out, ← HBC.out]; exact HO1.out, HB1.out, HS1.out⟩
      case measure => simp [intOf]; omega
    case neg =>
      obtain rfl : n = k := by omega
      have cw := (HBE.out.cell (p := ⟨w.heap.size + 1 + 1 + 1, 0, none⟩) (by show w.heap.size + 1 + 1 + 1 < w.heap.size + 4; omega)).trans HWC.out.1
      have hww : BytesAt wr (fun _ => False) (.slice (some ⟨w.heap.size, 0, none⟩) 4 4) (wordOf 0) := HWP.out.1.below ⟨HBE.out.os, HBE.out.tape, HBE.out.output, HBE.out.size, fun k hk => HBE.out.block k (by rw [HWS.out] at hk; exact hk)⟩
      obtain ⟨v1, w1, hr1, ho1, hg1, hk1⟩ := append_bytes HOB.out hww (by rw [blanksL_length]; show n + 4 ≤ _; omega) HSZ.out
      have hs1 : w.heap.size + 4 ≤ w1.heap.size := Nat.le_trans HSZ.out hg1.size
      have hb1 := HBE.out.grown hg1 HSZ.out (fun j e => (HOB.out.lt j e).1)
      have hl1 : (blanksL n ++ wordOf 0).length = n + 4 := by rw [List.length_append, blanksL_length]; rfl
      obtain ⟨g1, c1, rfl⟩ : ∃ g1 c1, v1 = .slice (some ⟨g1, 0, none⟩) (n + 4) c1 := by
        rcases ho1.2 with ⟨-, h⟩ | ⟨g, cap, cur, h1, -⟩
        · rw [hl1] at h; omega
        · exact ⟨g, cap, by rw [h1, hl1]⟩
      obtain ⟨v2, w2, hr2, ho2, hg2, hk2⟩ := append_byte ho1 44 (by rw [hl1]; omega) hs1
      have hs2 : w.heap.size + 4 ≤ w2.heap.size := Nat.le_trans hs1 hg2.size
      have hb2 := hb1.grown hg2 hs1 (fun j e => (ho1.lt j e).1)
      have hvt : BytesArg w2 (.slice p tail.length tc) tail := (HV.out.below HWB.out).below ⟨hb2.os, hb2.tape, hb2.output, hb2.size, fun k hk => hb2.block k (by rw [HWS.out] at hk; exact hk)⟩
      have hl2 : (blanksL n ++ wordOf 0 ++ [44]).length = n + 4 + 1 := by rw [List.length_append, hl1]; rfl
      obtain ⟨v3, w3, hr3, ho3, hg3, hk3⟩ := append_arg ho2 hvt (by rw [hl2]; omega) hs2
      have hs3 : w.heap.size + 4 ≤ w3.heap.size := Nat.le_trans hs2 hg3.size
      have hb3 := hb2.grown hg3 hs2 (fun j e => (ho2.lt j e).1)
      have hb0 : Below w.heap.size w w3 := HWB.out.trans (hb3.mono (by omega))
      have he3 : blanksL n ++ wordOf 0 ++ [44] ++ tail = wordsD (blanksL n) 0 tail := by unfold wordsD; simp [List.append_assoc]
      rw [he3] at ho3
      have hl3 : (wordsD (blanksL n) 0 tail).length = n + 4 + 1 + tail.length := by rw [← he3, List.length_append, hl2]
      obtain ⟨g3, c3, rfl⟩ : ∃ g3 c3, v3 = .slice (some ⟨g3, 0, none⟩) (wordsD (blanksL n) 0 tail).length c3 := by
        rcases ho3.2 with ⟨-, h⟩ | ⟨g, cap, cur, h1, -⟩
        · rw [hl3] at h; omega
        · exact ⟨g, cap, h1⟩
      have hv3 : BytesAt w3 (fun _ => False) (.slice (some ⟨g3, 0, none⟩) (wordsD (blanksL n) 0 tail).length c3) (wordsD (blanksL n) 0 tail) := ownsRow_bytes ho3 (fun _ a => a.elim)
      have hev : Env w3 ae ao := HE.out.below hb0 h2
      have hby := wordsD_bytes n 0 HBY.out
      have hgot := words_gots (bl := blanksL n) (tail := tail) (k := 0) blanksL_mem (by decide)
      have hone := words_one (bl := blanksL n) (tail := tail) (k := 0) blanksL_mem (by decide)
      have hlx := lex_any (w := w3.alloc (.cells #[.int .i64 42, .int .i64 0, .slice none 0 0, .int .i64 4, .int .i64 0, .slice none 0 0, .int .i64 4, .int .i64 0, .slice none 0 0] 27))
        (hv3.grown (World.grownBy_alloc _ _ none) (by simp)) (by omega) hby (hev.grown (World.grownBy_alloc _ _ none) (by simp) (by simp)) (by show 1 < (w3.heap.push _).size; simp; omega)
        [(42, 0), (4, 0), (4, 0)] (fun c hc => by simp only [List.mem_cons, List.not_mem_nil, or_false] at hc; rcases hc with rfl | rfl | rfl <;> exact ⟨by decide, by decide⟩) (by decide) w3.heap.size 0 3
        (fun k hk => by
          have hh := heap_alloc_new w3 (.cells #[.int .i64 42, .int .i64 0, .slice none 0 0, .int .i64 4, .int .i64 0, .slice none 0 0, .int .i64 4, .int .i64 0, .slice none 0 0] 27)
          match k, hk with
          | 0, _ => exact ⟨cell_of_heap hh 0 rfl, cell_of_heap hh 1 rfl, cell_of_heap hh 2 rfl⟩
          | 1, _ => exact ⟨cell_of_heap hh 3 rfl, cell_of_heap hh 4 rfl, cell_of_heap hh 5 rfl⟩
          | 2, _ => exact ⟨cell_of_heap hh 6 rfl, cell_of_heap hh 7 rfl, cell_of_heap hh 8 rfl⟩) (by show w3.heap.size < (w3.heap.push _).size; simp)
      obtain ⟨D, hD⟩ : ∃ D, D = wordsD (blanksL n) 0 tail := ⟨_, rfl⟩
      rw [← hD] at hv3 hby hgot hone hlx hl3
      rw [← hD] at hr3
      have HR1 := Lib.hid hr1
      have HR2 := Lib.hid hr2
      have HR3 := Lib.hid hr3
      have HLX := Lib.hid hlx
      have HG := Lib.hid hgot
      have HO := Lib.hid hone
      have HV3 := Lib.hid hv3
      have HBD := Lib.hid hby
      have HE3 := Lib.hid hev
      have HB0 := Lib.hid hb0
      have hlD : D.length ≤ 10000 := by omega
      have hwe : w.heap.size + 4 ≤ w3.heap.size := hs3
      clear hr1 hr2 hr3 hlx hgot hone hv3 hby hev hb0 hD hb1 hb2 hb3 ho1 ho2 ho3 hg1 hg2 hg3 hk1 hk2 hk3 hl1 hl2 he3 hvt hww hs1 hs2 hs3 hl3
      go_wp2_with (first
        | (at_builtin; refine Lib.wpList_append_run_sl _ rfl _ _ 22 rfl _ _ rfl rfl HR1.out ?_)
        | (at_builtin; refine Lib.wpList_append_run_sl _ rfl _ _ 22 rfl _ _ rfl rfl HR2.out ?_)
        | (at_builtin; refine Lib.wpList_append_run_sl _ rfl _ _ 22 rfl _ _ rfl rfl HR3.out ?_)
        | (go_at_call 13; refine HLX.out.mono ?_; intro e w4 h0; obtain ⟨v4, he4, hown, hbel4⟩ := h0; subst he4; obtain ⟨g4, c4, hv4⟩ : ∃ g4 c4, v4 = .slice (some ⟨g4, 0, none⟩) 3 c4 := (by rcases hown.2 with ⟨-, h⟩ | ⟨g, cap, cur, h1, -⟩; exact absurd h (by decide); exact ⟨g, cap, h1⟩); subst hv4; have y4 := (hown.cellAt 4 (by decide)).trans (gotCells_get _ 1 (by rw [gots_length]; decide)).1; have y8 := (hown.cellAt 8 (by decide)).trans (gotCells_get _ 2 (by rw [gots_length]; decide)).1; rw [HG.out.1] at y4; rw [HG.out.2] at y8; have HB4 := Lib.hid hbel4; clear hown hbel4))
      have y5 : w4.cell? ⟨g4, 4, none⟩ = some (.int .i64 0) := y4
      have y9 : w4.cell? ⟨g4, 8, none⟩ = some (.int .i64 0) := y8
      clear y4 y8
      have HS4 := Lib.hid HB4.out.size
      have HEN := Lib.hid ((HE3.out.grown (World.grownBy_alloc w3 (.cells #[.int .i64 42, .int .i64 0, .slice none 0 0, .int .i64 4, .int .i64 0, .slice none 0 0, .int .i64 4, .int .i64 0, .slice none 0 0] 27) none) (by simp) (by simp)).below HB4.out (by show 1 < (w3.heap.push _).size; simp; omega))
      have HVN := Lib.hid ((HV3.out.grown (World.grownBy_alloc w3 (.cells #[.int .i64 42, .int .i64 0, .slice none 0 0, .int .i64 4, .int .i64 0, .slice none 0 0, .int .i64 4, .int .i64 0, .slice none 0 0] 27) none) (by simp)).below HB4.out)
      have hs34 : w3.heap.size < w4.heap.size := by have := HS4.out; simp at this; omega
      go_quiet (fail)
      have hone := one_law (w := w4.drewN nq) (A := fun _ => False) (HVN.out.drewN nq) (by omega) HBD.out (HEN.out.drewN nq) (by show 1 < w4.heap.size; omega) 15 0 ⟨by decide, by decide⟩
      have ho1 : (callX (15, 0) (Lx.begin D false)).err.num = 0 := HO.out.1
      have ho2 : (((callX (15, 0) (Lx.begin D false)).pos : Nat) : Int) = (n : Int) + 4 := by
        have h : (callX (15, 0) (Lx.begin D false)).pos = (blanksL n).length + (wordOf 0).length := HO.out.2.1
        rw [h, blanksL_length]; rfl
      rw [ho1, ho2] at hone
      rw [show callN (15, 0) (Lx.begin D false) = 1 from HO.out.2.2 (by decide)] at hone
      clear ho1 ho2
      unfold gotV at hone
      have HONE := Lib.hid hone
      clear hone
      go_wp2_with (go_at_call 14; refine HONE.out.mono ?_; intro e w5 h0; obtain ⟨he5, hb5⟩ := h0; subst he5; have HB5 := Lib.hid hb5; have hs5 : w4.heap.size ≤ w5.heap.size := hb5.size; have HE5 := Lib.hid ((HEN.out.drewN nq).below hb5 (by show 1 < w4.heap.size; omega)); clear hb5)
      go_wp2_with (go_at_call 12; refine (known_any (w := w5.alloc _) (ae := ae) (ao := ao) (HE5.out.grown (World.grownBy_alloc _ _ none) (by simp) (by simp)) (by show 1 < (w5.heap.push _).size; simp; omega)).mono ?_; intro e w6 h0; obtain ⟨he6, hb6⟩ := h0; subst he6; have HB6 := Lib.hid hb6; clear hb6)
      go_ret
      refine ⟨rfl, ?_⟩
      have hq1 := HB4.out.mono (B' := w.heap.size) (by show w.heap.size ≤ (w3.heap.push _).size; simp; omega)
      have hq2 := HB5.out.mono (B' := w.heap.size) (by show w.heap.size ≤ w4.heap.size; omega)
      have hq3 := HB6.out.mono (B' := w.heap.size) (by show w.heap.size ≤ (w5.heap.push _).size; simp; omega)
      exact (((below_drewN ((HB0.out.alloc (by omega) _).trans hq1) nq).trans hq2).alloc (by omega) _).trans hq3

set_option maxHeartbeats 8000000 in
set_option maxRecDepth 100000 in
theorem words_1 {w : World} {ae : Sur} {ao : Addr} (he : Env w ae ao) (h2 : 1 < w.heap.size) (word ahead : Int) (hw0 : 0 ≤ word) (hw1 : word ≤ 255) (hk : word % 3 = 1) (ha0 : 0 ≤ ahead) (ha1 : ahead ≤ 255)
    {p : Option Addr} {tc : Nat} {tail : List Int} (hv : BytesArg w (.slice p tail.length tc) tail) (hby : Bytes tail) (hl : tail.length ≤ 8192) :
    Calls Tryz.prog 9 #[.int .u8 word, .int .u8 ahead, .slice p tail.length tc] w fun e w' => e = .returned (.bool true) ∧ Below w.heap.size w w' := by
  obtain ⟨n, hn⟩ : ∃ n : Nat, ahead % 8 = n := ⟨(ahead % 8).toNat, by omega⟩
  have hn8 : n < 8 := by omega
  have HE := Lib.hid he
  have HV := Lib.hid hv
  have HBY := Lib.hid hby
  have kc := fun (W : World) (C : Array Value) (n c g : Nat) (hg : g = W.heap.size) => Go.Joins.run_convert_bytes_const_at (P := Tryz.prog) W 22 5 C n c g hg Tryz.underlying22 Tryz.underlying5
  clear he hv hby
  go_enter Tryz.func9, Tryz.ntmps9
  go_wp2
  rw [hk]
  obtain ⟨wa, hwa⟩ : ∃ wa : World, wa = (((w.alloc (.cells #[.int .u8 116, .int .u8 114, .int .u8 117, .int .u8 101] 5 (4, 5))).alloc (.cells #[.int .u8 102, .int .u8 97, .int .u8 108, .int .u8 115, .int .u8 101] 5 (5, 6))).alloc (.cells #[.int .u8 110, .int .u8 117, .int .u8 108, .int .u8 108] 5 (4, 5))).alloc (.cells #[.slice (some ⟨w.heap.size, 0, none⟩) 4 4, .slice (some ⟨w.heap.size + 1, 0, none⟩) 5 5, .slice (some ⟨w.heap.size + 1 + 1, 0, none⟩) 4 4] 22) := ⟨_, rfl⟩
  obtain ⟨hwb, hws, hwc, hwp⟩ := words_made w wa hwa
  rw [← hwa]
  clear hwa
  have HWB := Lib.hid hwb
  have HWS := Lib.hid hws
  have HWC := Lib.hid hwc
  have HWP := Lib.hid hwp
  clear hwb hws hwc hwp
  go_loopw [9, 10] (fun vb i wr => BlRel wa (w.heap.size + 4) n vb i wr) (fun _ i _ => n - (intOf i).toNat)
  case atStart => exact ⟨0, rfl, Nat.zero_le _, World.ownsRow_nil _ _ _ _, Below.refl _ _, by rw [HWS.out]; exact Nat.le_refl _⟩
  case round =>
    obtain ⟨k, rfl, hkn, hob, hbel, hsz⟩ := hrel
    have HOB := Lib.hid hob
    have HBE := Lib.hid hbel
    have HSZ := Lib.hid hsz
    clear hob hbel hsz
    by_cases hlt : k < n
    case pos =>
      have hbi := fun W => blank_index k (by omega) W
      obtain ⟨bc, hbc⟩ : ∃ bc, bc = blankC k := ⟨_, rfl⟩
      rw [← hbc] at hbi
      obtain ⟨v1, w1, hr1, ho1, hg1, hk1⟩ := append_byte HOB.out bc (by rw [blanksL_length]; omega) HSZ.out
      have HR1 := Lib.hid hr1
      have HO1 := Lib.hid ho1
      have HB1 := Lib.hid (HBE.out.grown hg1 HSZ.out (fun j e => (HOB.out.lt j e).1))
      have HS1 := Lib.hid (Nat.le_trans HSZ.out hg1.size)
      have HBC := Lib.hid hbc
      have HT := Lib.hid (blanksL_succ k)
      clear hr1 ho1 hg1 hk1 hbc
      go_wp2_with (at_builtin; refine Lib.wpList_append_run_sl _ rfl _ _ 22 rfl _ _ rfl rfl HR1.out ?_)
      go_roundw
      case rel => exact ⟨k + 1, by go_num, by omega, by rw [HT.out, ← HBC.out]; exact HO1.out, HB1.out, HS1.out⟩
      case measure => simp [intOf]; omega
    case neg =>
      obtain rfl : n = k := by omega
      have cw := (HBE.out.cell (p := ⟨w.heap.size + 1 + 1 + 1, 1, none⟩) (by show w.heap.size + 1 + 1 + 1 < w.heap.size + 4; omega)).trans HWC.out.2.1
      have hww : BytesAt wr (fun _ => False) (.slice (some ⟨w.heap.size + 1, 0, none⟩) 5 5) (wordOf 1) := HWP.out.2.1.below ⟨HBE.out.os, HBE.out.tape, HBE.out.output, HBE.out.size, fun k hk => HBE.out.block k (by rw [HWS.out] at hk; exact hk)⟩
      obtain ⟨v1, w1, hr1, ho1, hg1, hk1⟩ := append_bytes HOB.out hww (by rw [blanksL_length]; show n + 5 ≤ _; omega) HSZ.out
      have hs1 : w.heap.size + 4 ≤ w1.heap.size := Nat.le_trans HSZ.out hg1.size
      have hb1 := HBE.out.grown hg1 HSZ.out (fun j e => (HOB.out.lt j e).1)
      have hl1 : (blanksL n ++ wordOf 1).length = n + 5 := by rw [List.length_append, blanksL_length]; rfl
      obtain ⟨g1, c1, rfl⟩ : ∃ g1 c1, v1 = .slice (some ⟨g1, 0, none⟩) (n + 5) c1 := by
        rcases ho1.2 with ⟨-, h⟩ | ⟨g, cap, cur, h1, -⟩
        · rw [hl1] at h; omega
        · exact ⟨g, cap, by rw [h1, hl1]⟩
      obtain ⟨v2, w2, hr2, ho2, hg2, hk2⟩ := append_byte ho1 44 (by rw [hl1]; omega) hs1
      have hs2 : w.heap.size + 4 ≤ w2.heap.size := Nat.le_trans hs1 hg2.size
      have hb2 := hb1.grown hg2 hs1 (fun j e => (ho1.lt j e).1)
      have hvt : BytesArg w2 (.slice p tail.length tc) tail := (HV.out.below HWB.out).below ⟨hb2.os, hb2.tape, hb2.output, hb2.size, fun k hk => hb2.block k (by rw [HWS.out] at hk; exact hk)⟩
      have hl2 : (blanksL n ++ wordOf 1 ++ [44]).length = n + 5 + 1 := by rw [List.length_append, hl1]; rfl
      obtain ⟨v3, w3, hr3, ho3, hg3, hk3⟩ := append_arg ho2 hvt (by rw [hl2]; omega) hs2
      have hs3 : w.heap.size + 4 ≤ w3.heap.size := Nat.le_trans hs2 hg3.size
      have hb3 := hb2.grown hg3 hs2 (fun j e => (ho2.lt j e).1)
      have hb0 : Below w.heap.size w w3 := HWB.out.trans (hb3.mono (by omega))
      have he3 : blanksL n ++ wordOf 1 ++ [44] ++ tail = wordsD (blanksL n) 1 tail := by unfold wordsD; simp [List.append_assoc]
      rw [he3] at ho3
      have hl3 : (wordsD (blanksL n) 1 tail).length = n + 5 + 1 + tail.length := by rw [← he3, List.length_append, hl2]
      obtain ⟨g3, c3, rfl⟩ : ∃ g3 c3, v3 = .slice (some ⟨g3, 0, none⟩) (wordsD (blanksL n) 1 tail).length c3 := by
        rcases ho3.2 with ⟨-, h⟩ | ⟨g, cap, cur, h1, -⟩
        · rw [hl3] at h; omega
        · exact ⟨g, cap, h1⟩
      have hv3 : BytesAt w3 (fun _ => False) (.slice (some ⟨g3, 0, none⟩) (wordsD (blanksL n) 1 tail).length c3) (wordsD (blanksL n) 1 tail) := ownsRow_bytes ho3 (fun _ a => a.elim)
      have hev : Env w3 ae ao := HE.out.below hb0 h2
      have hby := wordsD_bytes n 1 HBY.out
      have hgot := words_gots (bl := blanksL n) (tail := tail) (k := 1) blanksL_mem (by decide)
      have hone := words_one (bl := blanksL n) (tail := tail) (k := 1) blanksL_mem (by decide)
      have hlx := lex_any (w := w3.alloc (.cells #[.int .i64 42, .int .i64 0, .slice none 0 0, .int .i64 4, .int .i64 0, .slice none 0 0, .int .i64 4, .int .i64 0, .slice none 0 0] 27))
        (hv3.grown (World.grownBy_alloc _ _ none) (by simp)) (by omega) hby (hev.grown (World.grownBy_alloc _ _ none) (by simp) (by simp)) (by show 1 < (w3.heap.push _).size; simp; omega)
        [(42, 0), (4, 0), (4, 0)] (fun c hc => by simp only [List.mem_cons, List.not_mem_nil, or_false] at hc; rcases hc with rfl | rfl | rfl <;> exact ⟨by decide, by decide⟩) (by decide) w3.heap.size 0 3
        (fun k hk => by
          have hh := heap_alloc_new w3 (.cells #[.int .i64 42, .int .i64 0, .slice none 0 0, .int .i64 4, .int .i64 0, .slice none 0 0, .int .i64 4, .int .i64 0, .slice none 0 0] 27)
          match k, hk with
          | 0, _ => exact ⟨cell_of_heap hh 0 rfl, cell_of_heap hh 1 rfl, cell_of_heap hh 2 rfl⟩
          | 1, _ => exact ⟨cell_of_heap hh 3 rfl, cell_of_heap hh 4 rfl, cell_of_heap hh 5 rfl⟩
          | 2, _ => exact ⟨cell_of_heap hh 6 rfl, cell_of_heap hh 7 rfl, cell_of_heap hh 8 rfl⟩) (by show w3.heap.size < (w3.heap.push _).size; simp)
      obtain ⟨D, hD⟩ : ∃ D, D = wordsD (blanksL n) 1 tail := ⟨_, rfl⟩
      rw [← hD] at hv3 hby hgot hone hlx hl3
      rw [← hD] at hr3
      have HR1 := Lib.hid hr1
      have HR2 := Lib.hid hr2
      have HR3 := Lib.hid hr3
      have HLX := Lib.hid hlx
      have HG := Lib.hid hgot
      have HO := Lib.hid hone
      have HV3 := Lib.hid hv3
      have HBD := Lib.hid hby
      have HE3 := Lib.hid hev
      have HB0 := Lib.hid hb0
      have hlD : D.length ≤ 10000 := by omega
      have hwe : w.heap.size + 4 ≤ w3.heap.size := hs3
      clear hr1 hr2 hr3 hlx hgot hone hv3 hby hev hb0 hD hb1 hb2 hb3 ho1 ho2 ho3 hg1 hg2 hg3 hk1 hk2 hk3 hl1 hl2 he3 hvt hww hs1 hs2 hs3 hl3
      go_wp2_with (first
        | (at_builtin; refine Lib.wpList_append_run_sl _ rfl _ _ 22 rfl _ _ rfl rfl HR1.out ?_)
        | (at_builtin; refine Lib.wpList_append_run_sl _ rfl _ _ 22 rfl _ _ rfl rfl HR2.out ?_)
        | (at_builtin; refine Lib.wpList_append_run_sl _ rfl _ _ 22 rfl _ _ rfl rfl HR3.out ?_)
        | (go_at_call 13; refine HLX.out.mono ?_; intro e w4 h0; obtain ⟨v4, he4, hown, hbel4⟩ := h0; subst he4; obtain ⟨g4, c4, hv4⟩ : ∃ g4 c4, v4 = .slice (some ⟨g4, 0, none⟩) 3 c4 := (by rcases hown.2 with ⟨-, h⟩ | ⟨g, cap, cur, h1, -⟩; exact absurd h (by decide); exact ⟨g, cap, h1⟩); subst hv4; have y4 := (hown.cellAt 4 (by decide)).trans (gotCells_get _ 1 (by rw [gots_length]; decide)).1; have y8 := (hown.cellAt 8 (by decide)).trans (gotCells_get _ 2 (by rw [gots_length]; decide)).1; rw [HG.out.1] at y4; rw [HG.out.2] at y8; have HB4 := Lib.hid hbel4; clear hown hbel4))
      have y5 : w4.cell? ⟨g4, 4, none⟩ = some (.int .i64 0) := y4
      have y9 : w4.cell? ⟨g4, 8, none⟩ = some (.int .i64 0) := y8
      clear y4 y8
      have HS4 := Lib.hid HB4.out.size
      have HEN := Lib.hid ((HE3.out.grown (World.grownBy_alloc w3 (.cells #[.int .i64 42, .int .i64 0, .slice none 0 0, .int .i64 4, .int .i64 0, .slice none 0 0, .int .i64 4, .int .i64 0, .slice none 0 0] 27) none) (by simp) (by simp)).below HB4.out (by show 1 < (w3.heap.push _).size; simp; omega))
      have HVN := Lib.hid ((HV3.out.grown (World.grownBy_alloc w3 (.cells #[.int .i64 42, .int .i64 0, .slice none 0 0, .int .i64 4, .int .i64 0, .slice none 0 0, .int .i64 4, .int .i64 0, .slice none 0 0] 27) none) (by simp)).below HB4.out)
      have hs34 : w3.heap.size < w4.heap.size := by have := HS4.out; simp at this; omega
      go_quiet (fail)
      have hone := one_law (w := w4.drewN nq) (A := fun _ => False) (HVN.out.drewN nq) (by omega) HBD.out (HEN.out.drewN nq) (by show 1 < w4.heap.size; omega) 15 0 ⟨by decide, by decide⟩
      have ho1 : (callX (15, 0) (Lx.begin D false)).err.num = 0 := HO.out.1
      have ho2 : (((callX (15, 0) (Lx.begin D false)).pos : Nat) : Int) = (n : Int) + 5 := by
        have h : (callX (15, 0) (Lx.begin D false)).pos = (blanksL n).length + (wordOf 1).length := HO.out.2.1
        rw [h, blanksL_length]; rfl
      rw [ho1, ho2] at hone
      rw [show callN (15, 0) (Lx.begin D false) = 0 from HO.out.2.2 (by decide)] at hone
      clear ho1 ho2
      unfold gotV at hone
      have HONE := Lib.hid hone
      clear hone
      go_wp2_with (go_at_call 14; refine HONE.out.mono ?_; intro e w5 h0; obtain ⟨he5, hb5⟩ := h0; subst he5; have HB5 := Lib.hid hb5; have hs5 : w4.heap.size ≤ w5.heap.size := hb5.size; have HE5 := Lib.hid ((HEN.out.drewN nq).below hb5 (by show 1 < w4.heap.size; omega)); clear hb5)
      go_wp2_with (go_at_call 12; refine (known_any (w := w5.alloc _) (ae := ae) (ao := ao) (HE5.out.grown (World.grownBy_alloc _ _ none) (by simp) (by simp)) (by show 1 < (w5.heap.push _).size; simp; omega)).mono ?_; intro e w6 h0; obtain ⟨he6, hb6⟩ := h0; subst he6; have HB6 := Lib.hid hb6; clear hb6)
      go_ret
      refine ⟨rfl, ?_⟩
      have hq1 := HB4.out.mono (B' := w.heap.size) (by show w.heap.size ≤ (w3.heap.push _).size; simp; omega)
      have hq2 := HB5.out.mono (B' := w.heap.size) (by show w.heap.size ≤ w4.heap.size; omega)
      have hq3 := HB6.out.mono (B' := w.heap.size) (by show w.heap.size ≤ (w5.heap.push _).size; simp; omega)
      exact (((below_drewN ((HB0.out.alloc (by omega) _).trans hq1) nq).trans hq2).alloc (by omega) _).trans hq3

set_option maxHeartbeats 8000000 in
set_option maxRecDepth 100000 in
theorem words_2 {w : World} {ae : Sur} {ao : Addr} (he : Env w ae ao) (h2 : 1 < w.heap.size) (word ahead : Int) (hw0 : 0 ≤ word) (hw1 : word ≤ 255) (hk : word % 3 = 2) (ha0 : 0 ≤ ahead) (ha1 : ahead ≤ 255)
    {p : Option Addr} {tc : Nat} {tail : List Int} (hv : BytesArg w (.slice p tail.length tc) tail) (hby : Bytes tail) (hl : tail.length ≤ 8192) :
    Calls Tryz.prog 9 #[.int .u8 word, .int .u8 ahead, .slice p tail.length tc] w fun e w' => e = .returned (.bool true) ∧ Below w.heap.size w w' := by
  obtain ⟨n, hn⟩ : ∃ n : Nat, ahead % 8 = n := ⟨(ahead % 8).toNat, by omega⟩
  have hn8 : n < 8 := by omega
  have HE := Lib.hid he
  have HV := Lib.hid hv
  have HBY := Lib.hid hby
  have kc := fun (W : World) (C : Array Value) (n c g : Nat) (hg : g = W.heap.size) => Go.Joins.run_convert_bytes_const_at (P := Tryz.prog) W 22 5 C n c g hg Tryz.underlying22 Tryz.underlying5
  clear he hv hby
  go_enter Tryz.func9, Tryz.ntmps9
  go_wp2
  rw [hk]
  obtain ⟨wa, hwa⟩ : ∃ wa : World, wa = (((w.alloc (.cells #[.int .u8 116, .int .u8 114, .int .u8 117, .int .u8 101] 5 (4, 5))).alloc (.cells #[.int .u8 102, .int .u8 97, .int .u8 108, .int .u8 115, .int .u8 101] 5 (5, 6))).alloc (.cells #[.int .u8 110, .int .u8 117, .int .u8 108, .int .u8 108] 5 (4, 5))).alloc (.cells #[.slice (some ⟨w.heap.size, 0, none⟩) 4 4, .slice (some ⟨w.heap.size + 1, 0, none⟩) 5 5, .slice (some ⟨w.heap.size + 1 + 1, 0, none⟩) 4 4] 22) := ⟨_, rfl⟩
  obtain ⟨hwb, hws, hwc, hwp⟩ := words_made w wa hwa
  rw [← hwa]
  clear hwa
  have HWB := Lib.hid hwb
  have HWS := Lib.hid hws
  have HWC := Lib.hid hwc
  have HWP := Lib.hid hwp
  clear hwb hws hwc hwp
  go_loopw [9, 10] (fun vb i wr => BlRel wa (w.heap.size + 4) n vb i wr) (fun _ i _ => n - (intOf i).toNat)
  case atStart => exact ⟨0, rfl, Nat.zero_le _, World.ownsRow_nil _ _ _ _, Below.refl _ _, by rw [HWS.out]; exact Nat.le_refl _⟩
  case round =>
    obtain ⟨k, rfl, hkn, hob, hbel, hsz⟩ := hrel
    have HOB := Lib.hid hob
    have HBE := Lib.hid hbel
    have HSZ := Lib.hid hsz
    clear hob hbel hsz
    by_cases hlt : k < n
    case pos =>
      have hbi := fun W => blank_index k (by omega) W
      obtain ⟨bc, hbc⟩ : ∃ bc, bc = blankC k := ⟨_, rfl⟩
      rw [← hbc] at hbi
      obtain ⟨v1, w1, hr1, ho1, hg1, hk1⟩ := append_byte HOB.out bc (by rw [blanksL_length]; omega) HSZ.out
      have HR1 := Lib.hid hr1
      have HO1 := Lib.hid ho1
      have HB1 := Lib.hid (HBE.out.grown hg1 HSZ.out (fun j e => (HOB.out.lt j e).1))
      have HS1 := Lib.hid (Nat.le_trans HSZ.out hg1.size)
      have HBC := Lib.hid hbc
      have HT := Lib.hid (blanksL_succ k)
      clear hr1 ho1 hg1 hk1 hbc
      go_wp2_with (at_builtin; refine Lib.wpList_append_run_sl _ rfl _ _ 22 rfl _ _ rfl rfl HR1.out ?_)
      go_roundw
      case rel => exact ⟨k + 1, by go_num, by omega, by rw [HT.out, ← HBC.out]; exact HO1.out, HB1.out, HS1.out⟩
      case measure => simp [intOf]; omega
    case neg =>
      obtain rfl : n = k := by omega
      have cw := (HBE.out.cell (p := ⟨w.heap.size + 1 + 1 + 1, 2, none⟩) (by show w.heap.size + 1 + 1 + 1 < w.heap.size + 4; omega)).trans HWC.out.2.2
      have hww : BytesAt wr (fun _ => False) (.slice (some ⟨w.heap.size + 1 + 1, 0, none⟩) 4 4) (wordOf 2) := HWP.out.2.2.below ⟨HBE.out.os, HBE.out.tape, HBE.out.output, HBE.out.size, fun k hk => HBE.out.block k (by rw [HWS.out] at hk; exact hk)⟩
      obtain ⟨v1, w1, hr1, ho1, hg1, hk1⟩ := append_bytes HOB.out hww (by rw [blanksL_length]; show n + 4 ≤ _; omega) HSZ.out
      have hs1 : w.heap.size + 4 ≤ w1.heap.size := Nat.le_trans HSZ.out hg1.size
      have hb1 := HBE.out.grown hg1 HSZ.out (fun j e => (HOB.out.lt j e).1)
      have hl1 : (blanksL n ++ wordOf 2).length = n + 4 := by rw [List.length_append, blanksL_length]; rfl
      obtain ⟨g1, c1, rfl⟩ : ∃ g1 c1, v1 = .slice (some ⟨g1, 0, none⟩) (n + 4) c1 := by
        rcases ho1.2 with ⟨-, h⟩ | ⟨g, cap, cur, h1, -⟩
        · rw [hl1] at h; omega
        · exact ⟨g, cap, by rw [h1, hl1]⟩
      obtain ⟨v2, w2, hr2, ho2, hg2, hk2⟩ := append_byte ho1 44 (by rw [hl1]; omega) hs1
      have hs2 : w.heap.size + 4 ≤ w2.heap.size := Nat.le_trans hs1 hg2.size
      have hb2 := hb1.grown hg2 hs1 (fun j e => (ho1.lt j e).1)
      have hvt : BytesArg w2 (.slice p tail.length tc) tail := (HV.out.below HWB.out).below ⟨hb2.os, hb2.tape, hb2.output, hb2.size, fun k hk => hb2.block k (by rw [HWS.out] at hk; exact hk)⟩
      have hl2 : (blanksL n ++ wordOf 2 ++ [44]).length = n + 4 + 1 := by rw [List.length_append, hl1]; rfl
      obtain ⟨v3, w3, hr3, ho3, hg3, hk3⟩ := append_arg ho2 hvt (by rw [hl2]; omega) hs2
      have hs3 : w.heap.size + 4 ≤ w3.heap.size := Nat.le_trans hs2 hg3.size
      have hb3 := hb2.grown hg3 hs2 (fun j e => (ho2.lt j e).1)
      have hb0 : Below w.heap.size w w3 := HWB.out.trans (hb3.mono (by omega))
      have he3 : blanksL n ++ wordOf 2 ++ [44] ++ tail = wordsD (blanksL n) 2 tail := by unfold wordsD; simp [List.append_assoc]
      rw [he3] at ho3
      have hl3 : (wordsD (blanksL n) 2 tail).length = n + 4 + 1 + tail.length := by rw [← he3, List.length_append, hl2]
      obtain ⟨g3, c3, rfl⟩ : ∃ g3 c3, v3 = .slice (some ⟨g3, 0, none⟩) (wordsD (blanksL n) 2 tail).length c3 := by
        rcases ho3.2 with ⟨-, h⟩ | ⟨g, cap, cur, h1, -⟩
        · rw [hl3] at h; omega
        · exact ⟨g, cap, h1⟩
      have hv3 : BytesAt w3 (fun _ => False) (.slice (some ⟨g3, 0, none⟩) (wordsD (blanksL n) 2 tail).length c3) (wordsD (blanksL n) 2 tail) := ownsRow_bytes ho3 (fun _ a => a.elim)
      have hev : Env w3 ae ao := HE.out.below hb0 h2
      have hby := wordsD_bytes n 2 HBY.out
      have hgot := words_gots (bl := blanksL n) (tail := tail) (k := 2) blanksL_mem (by decide)
      have hone := words_one (bl := blanksL n) (tail := tail) (k := 2) blanksL_mem (by decide)
      have hlx := lex_any (w := w3.alloc (.cells #[.int .i64 42, .int .i64 0, .slice none 0 0, .int .i64 4, .int .i64 0, .slice none 0 0, .int .i64 4, .int .i64 0, .slice none 0 0] 27))
        (hv3.grown (World.grownBy_alloc _ _ none) (by simp)) (by omega) hby (hev.grown (World.grownBy_alloc _ _ none) (by simp) (by simp)) (by show 1 < (w3.heap.push _).size; simp; omega)
        [(42, 0), (4, 0), (4, 0)] (fun c hc => by simp only [List.mem_cons, List.not_mem_nil, or_false] at hc; rcases hc with rfl | rfl | rfl <;> exact ⟨by decide, by decide⟩) (by decide) w3.heap.size 0 3
        (fun k hk => by
          have hh := heap_alloc_new w3 (.cells #[.int .i64 42, .int .i64 0, .slice none 0 0, .int .i64 4, .int .i64 0, .slice none 0 0, .int .i64 4, .int .i64 0, .slice none 0 0] 27)
          match k, hk with
          | 0, _ => exact ⟨cell_of_heap hh 0 rfl, cell_of_heap hh 1 rfl, cell_of_heap hh 2 rfl⟩
          | 1, _ => exact ⟨cell_of_heap hh 3 rfl, cell_of_heap hh 4 rfl, cell_of_heap hh 5 rfl⟩
          | 2, _ => exact ⟨cell_of_heap hh 6 rfl, cell_of_heap hh 7 rfl, cell_of_heap hh 8 rfl⟩) (by show w3.heap.size < (w3.heap.push _).size; simp)
      obtain ⟨D, hD⟩ : ∃ D, D = wordsD (blanksL n) 2 tail := ⟨_, rfl⟩
      rw [← hD] at hv3 hby hgot hone hlx hl3
      rw [← hD] at hr3
      have HR1 := Lib.hid hr1
      have HR2 := Lib.hid hr2
      have HR3 := Lib.hid hr3
      have HLX := Lib.hid hlx
      have HG := Lib.hid hgot
      have HO := Lib.hid hone
      have HV3 := Lib.hid hv3
      have HBD := Lib.hid hby
      have HE3 := Lib.hid hev
      have HB0 := Lib.hid hb0
      have hlD : D.length ≤ 10000 := by omega
      have hwe : w.heap.size + 4 ≤ w3.heap.size := hs3
      clear hr1 hr2 hr3 hlx hgot hone hv3 hby hev hb0 hD hb1 hb2 hb3 ho1 ho2 ho3 hg1 hg2 hg3 hk1 hk2 hk3 hl1 hl2 he3 hvt hww hs1 hs2 hs3 hl3
      go_wp2_with (first
        | (at_builtin; refine Lib.wpList_append_run_sl _ rfl _ _ 22 rfl _ _ rfl rfl HR1.out ?_)
        | (at_builtin; refine Lib.wpList_append_run_sl _ rfl _ _ 22 rfl _ _ rfl rfl HR2.out ?_)
        | (at_builtin; refine Lib.wpList_append_run_sl _ rfl _ _ 22 rfl _ _ rfl rfl HR3.out ?_)
        | (go_at_call 13; refine HLX.out.mono ?_; intro e w4 h0; obtain ⟨v4, he4, hown, hbel4⟩ := h0; subst he4; obtain ⟨g4, c4, hv4⟩ : ∃ g4 c4, v4 = .slice (some ⟨g4, 0, none⟩) 3 c4 := (by rcases hown.2 with ⟨-, h⟩ | ⟨g, cap, cur, h1, -⟩; exact absurd h (by decide); exact ⟨g, cap, h1⟩); subst hv4; have y4 := (hown.cellAt 4 (by decide)).trans (gotCells_get _ 1 (by rw [gots_length]; decide)).1; have y8 := (hown.cellAt 8 (by decide)).trans (gotCells_get _ 2 (by rw [gots_length]; decide)).1; rw [HG.out.1] at y4; rw [HG.out.2] at y8; have HB4 := Lib.hid hbel4; clear hown hbel4))
      have y5 : w4.cell? ⟨g4, 4, none⟩ = some (.int .i64 1) := y4
      have y9 : w4.cell? ⟨g4, 8, none⟩ = some (.int .i64 1) := y8
      clear y4 y8
      have HS4 := Lib.hid HB4.out.size
      have HEN := Lib.hid ((HE3.out.grown (World.grownBy_alloc w3 (.cells #[.int .i64 42, .int .i64 0, .slice none 0 0, .int .i64 4, .int .i64 0, .slice none 0 0, .int .i64 4, .int .i64 0, .slice none 0 0] 27) none) (by simp) (by simp)).below HB4.out (by show 1 < (w3.heap.push _).size; simp; omega))
      have HVN := Lib.hid ((HV3.out.grown (World.grownBy_alloc w3 (.cells #[.int .i64 42, .int .i64 0, .slice none 0 0, .int .i64 4, .int .i64 0, .slice none 0 0, .int .i64 4, .int .i64 0, .slice none 0 0] 27) none) (by simp)).below HB4.out)
      have hs34 : w3.heap.size < w4.heap.size := by have := HS4.out; simp at this; omega
      go_quiet (fail)
      have hone := one_law (w := w4.drewN nq) (A := fun _ => False) (HVN.out.drewN nq) (by omega) HBD.out (HEN.out.drewN nq) (by show 1 < w4.heap.size; omega) 3 0 ⟨by decide, by decide⟩
      have ho1 : (callX (3, 0) (Lx.begin D false)).err.num = 0 := HO.out.1
      have ho2 : (((callX (3, 0) (Lx.begin D false)).pos : Nat) : Int) = (n : Int) + 4 := by
        have h : (callX (3, 0) (Lx.begin D false)).pos = (blanksL n).length + (wordOf 2).length := HO.out.2.1
        rw [h, blanksL_length]; rfl
      rw [ho1, ho2] at hone
      generalize callN (3, 0) (Lx.begin D false) = N at hone
      clear ho1 ho2
      unfold gotV at hone
      have HONE := Lib.hid hone
      clear hone
      go_wp2_with (go_at_call 14; refine HONE.out.mono ?_; intro e w5 h0; obtain ⟨he5, hb5⟩ := h0; subst he5; have HB5 := Lib.hid hb5; have hs5 : w4.heap.size ≤ w5.heap.size := hb5.size; have HE5 := Lib.hid ((HEN.out.drewN nq).below hb5 (by show 1 < w4.heap.size; omega)); clear hb5)
      go_wp2_with (go_at_call 12; refine (known_any (w := w5.alloc _) (ae := ae) (ao := ao) (HE5.out.grown (World.grownBy_alloc _ _ none) (by simp) (by simp)) (by show 1 < (w5.heap.push _).size; simp; omega)).mono ?_; intro e w6 h0; obtain ⟨he6, hb6⟩ := h0; subst he6; have HB6 := Lib.hid hb6; clear hb6)
      go_ret
      refine ⟨rfl, ?_⟩
      have hq1 := HB4.out.mono (B' := w.heap.size) (by show w.heap.size ≤ (w3.heap.push _).size; simp; omega)
      have hq2 := HB5.out.mono (B' := w.heap.size) (by show w.heap.size ≤ w4.heap.size; omega)
      have hq3 := HB6.out.mono (B' := w.heap.size) (by show w.heap.size ≤ (w5.heap.push _).size; simp; omega)
      exact (((below_drewN ((HB0.out.alloc (by omega) _).trans hq1) nq).trans hq2).alloc (by omega) _).trans hq3

end Go.Proofs.YtaecbclonmhbcaaGreatDoor
