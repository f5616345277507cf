/- Appending bytes to a slice of one's own. Decimal digits: their number, and the shift to the left (strconv's decimal) as plain functions. No program, no memory. internal/strconv.decimal: its cells; trim. internal/strconv.rightShift. internal/strconv.prefixIsLessThan. internal/strconv.leftShift. internal/strconv.decimal's Shift. internal/strconv's fast scaling: small functions. internal/strconv.atof64exact, atof32exact: they return. Printed by gen_fl4.py. -/
import Derived.Test.YtaecbclonmhbcaaGreatDoorProg
import Derived.Test.YtaecbclonmhbcaaGreatDoorR01
import Derived.Lib.SlFresh
import Derived.OwnWalk
import Derived.Deep.DeepCutAuto
import Derived.Deep.CutBlock
import Derived.Deep.LoopGhost
import Derived.WalkMore
import Derived.Laws.BitsLemmas
import Derived.Shelf.Small.Utf8
import Derived.Shelf.Strconv.Itoa0
import Derived.Shelf.Bits.Mul64
import Derived.Lib.EndianBits
set_option linter.unusedVariables false
set_option linter.unusedSimpArgs false
namespace Go.Proofs.YtaecbclonmhbcaaGreatDoor
open Go.RowKit
theorem info5 : (Tryz.prog.info? 5).map (fun i => (i.zero, i.size, i.bytes)) = some (some (Value.int IntKind.u8 0), 1, 1) := by kernel_rfl
theorem addr_add0 (g j : Nat) : (⟨g, 0, none⟩ : Addr).add j = ⟨g, j, none⟩ := by unfold Addr.add; split <;> simp_all
theorem addr_add (g o j : Nat) : (⟨g, o, none⟩ : Addr).add j = ⟨g, o + j, none⟩ := by unfold Addr.add; split <;> simp_all
theorem append_any {P : Program} {w : World} {base : Nat} {t e : TypeId} {i : TypeInfo} {z : Value} {size bytes : Nat} (ht : P.underlying t = some (.slice e)) (hi : P.info? e = some i) (hz : i.zero = some z)
    (hsize : i.size = size) (hby : i.bytes = bytes) (hzs : z.cells.size = size) (hsz : 0 < size) (hbl : bytes ≤ 1000)
    {v : Value} {n : Nat} {xs : List Value} (hown : w.ownsRow base e size v n xs) (ad : Addr) (m c : Nat) (news : List Value) (hl : news.length = m * size)
    (hnews : ∀ j u, news[j]? = some u → w.cell? (ad.add j) = some u) (h1 : ∀ u ∈ news, u.oneCell' = true) (hn : n + m ≤ 1000000) (hbase : base ≤ w.heap.size) :
    ∃ v' w', (Builtin.append_ #[t, t] t #[v, .slice (some ad) m c]).run P w = .ok v' w' ∧ w'.ownsRow base e size v' (n + m) (xs ++ news) ∧ w.grownBy w' v.ownBlock ∧
      (v'.ownBlock = v.ownBlock ∨ ∃ k, w.heap.size ≤ k ∧ v'.ownBlock = some k) := by
  have hbb : (n + m) * bytes ≤ 140737488355328 := Nat.le_trans (Nat.mul_le_mul hn hbl) (by decide)
  obtain ⟨v', w', hr, h2, h3, h4⟩ := run_append_own (P := P) w base t t e i z size bytes ht hi hz hsize hby hzs hsz v n xs hown ad m c news hl hnews h1 (by unfold maxLen; omega) hbb hbase
  refine ⟨v', w', hr, h2, h3, ?_⟩
  rcases hown.2 with ⟨rfl, rfl⟩ | ⟨g, cap, cur, rfl, hbg, hg, hnc, hcm, hcs, htake⟩
  · by_cases h0 : m = 0
    · rw [h4.2 ⟨rfl, h0⟩]; exact .inl rfl
    · have hr' := run_append_nil (P := P) w t t e i z ht hi hz ad m c news (by rw [hsize]; exact hl) hnews (by omega) (by omega) (by rw [hby]; exact Nat.le_trans (Nat.mul_le_mul_right _ (by omega)) (Nat.le_trans hbb (by decide)))
      rw [hr] at hr'
      simp only [Result.ok.injEq] at hr'
      rw [hr'.1]
      exact .inr ⟨_, Nat.le_refl _, rfl⟩
  · by_cases hroom : n + m ≤ cap
    · obtain ⟨w2, hr', -⟩ := run_append_fits (P := P) w base t t e i size ht hi hsize g n cap xs hown ad m c news hl hnews h1 hroom
      rw [hr] at hr'
      simp only [Result.ok.injEq] at hr'
      rw [hr'.1]
      exact .inl rfl
    · have hr' := run_append_grow (P := P) w t t e i z ht hi hz ⟨g, 0, none⟩ n cap xs (by rw [hown.1, hsize]) (hown.cells (g := g) rfl) ad m c news (by rw [hsize]; exact hl) hnews (by omega) (by omega) (growslice_fits (by omega) (by rw [hby]; exact hbb))
      rw [hr] at hr'
      simp only [Result.ok.injEq] at hr'
      rw [hr'.1]
      exact .inr ⟨_, Nat.le_refl _, rfl⟩
def byteVs (l : List Int) : List Value := l.map (Value.int .u8)
theorem byteVs_append (a b : List Int) : byteVs (a ++ b) = byteVs a ++ byteVs b := by simp [byteVs]
theorem byteVs_one (l : List Int) : ∀ u ∈ byteVs l, u.oneCell' = true := by
  intro u hu
  obtain ⟨x, -, rfl⟩ := List.mem_map.1 hu
  rfl
section
variable {w : World} {base : Nat} {v : Value}
theorem ownsRow_bytes {l : List Int} (h : w.ownsRow base 5 1 v l.length (byteVs l)) {A : Nat → Prop} (hA : ∀ k, A k → k < base) : BytesAt w A v l := by
  rcases h.2 with ⟨rfl, h0⟩ | ⟨g, cap, cur, rfl, hbg, hg, hnc, hcm, hcs, htake⟩
  · exact .inl ⟨List.eq_nil_of_length_eq_zero h0, rfl⟩
  · refine .inr ⟨g, 0, cap, rfl, hnc, ⟨fun a => by have := hA g a; omega, lt_heap hg⟩, fun i hi => ?_⟩
    have := h.cellAt i (by omega)
    rw [Nat.zero_add, this]
    simp [byteVs, List.getD, hi]
theorem ownsRow_slice {e : TypeId} {s n : Nat} {xs : List Value} (h : w.ownsRow base e s v n xs) : ∃ p c, v = .slice p n c := by
  rcases h.2 with ⟨rfl, h0⟩ | ⟨g, cap, cur, rfl, -⟩
  · exact ⟨none, 0, by rw [h0]⟩
  · exact ⟨_, cap, rfl⟩
theorem append_at {xs ls : List Int} (hown : w.ownsRow base 5 1 v xs.length (byteVs xs)) {b o c : Nat} (hx : ∀ i, i < ls.length → w.cell? ⟨b, o + i, none⟩ = some (.int .u8 (ls.getD i 0))) (hn : xs.length + ls.length ≤ 1000000) (hbase : base ≤ w.heap.size) :
    ∃ v' w', (Builtin.append_ #[22, 22] 22 #[v, .slice (some ⟨b, o, none⟩) ls.length c]).run Tryz.prog w = .ok v' w' ∧ w'.ownsRow base 5 1 v' (xs ++ ls).length (byteVs (xs ++ ls)) ∧ w.grownBy w' v.ownBlock ∧
      (v'.ownBlock = v.ownBlock ∨ ∃ k, w.heap.size ≤ k ∧ v'.ownBlock = some k) := by
  obtain ⟨i, hi, hz, hz1, hz2⟩ := info_parts info5
  obtain ⟨v', w', hr, ho, hg, hb⟩ := append_any (P := Tryz.prog) (t := 22) Tryz.underlying22 hi hz hz1 hz2 rfl (by decide) (by decide) hown ⟨b, o, none⟩ ls.length c (byteVs ls) (by simp [byteVs])
    (fun j x hj => by
      simp only [byteVs, List.getElem?_map] at hj
      obtain ⟨y, hy, rfl⟩ := Option.map_eq_some_iff.1 hj
      have hjl := (List.getElem?_eq_some_iff.1 hy).1
      have := hx j hjl
      rw [show ls.getD j 0 = y by simp [List.getD, hy]] at this
      rw [addr_add, this]) (byteVs_one ls) hn hbase
  exact ⟨v', w', hr, by rw [List.length_append, byteVs_append]; exact ho, hg, hb⟩
end
end Go.Proofs.YtaecbclonmhbcaaGreatDoor

namespace Go.Proofs.YtaecbclonmhbcaaGreatDoor
def numD : List Nat → Nat
  | [] => 0
  | d :: ds => d * 10 ^ ds.length + numD ds
def DigL (l : List Nat) : Prop := ∀ d ∈ l, d ≤ 9
theorem numD_append (a b : List Nat) : numD (a ++ b) = numD a * 10 ^ b.length + numD b := by
  induction a with
  | nil => simp [numD]
  | cons d a ih =>
    simp only [List.cons_append, numD, List.length_append, ih, Nat.pow_add]
    rw [Nat.add_mul, Nat.mul_assoc, Nat.add_assoc]
theorem numD_lt : ∀ {l : List Nat}, DigL l → numD l < 10 ^ l.length
  | [], _ => by simp [numD]
  | d :: ds, h => by
    have h0 := h d (by simp)
    have ih := numD_lt (l := ds) fun x hx => h x (by simp [hx])
    have hm : d * 10 ^ ds.length ≤ 9 * 10 ^ ds.length := Nat.mul_le_mul_right _ h0
    simp only [numD, List.length_cons, Nat.pow_succ]
    omega
theorem numD_ge {d : Nat} {ds : List Nat} (h : d ≠ 0) : 10 ^ ds.length ≤ numD (d :: ds) := by
  have hm : 1 * 10 ^ ds.length ≤ d * 10 ^ ds.length := Nat.mul_le_mul_right _ (by omega)
  simp only [numD]
  omega
def lshC (p : Nat) : List Nat → Nat × List Nat
  | [] => (0, [])
  | d :: ds => (((lshC p ds).1 + d * p) / 10, (((lshC p ds).1 + d * p) % 10) :: (lshC p ds).2)
theorem lshC_length (p : Nat) : ∀ ds, (lshC p ds).2.length = ds.length
  | [] => rfl
  | d :: ds => by simp [lshC, lshC_length p ds]
theorem lshC_dig (p : Nat) : ∀ ds, DigL (lshC p ds).2
  | [] => by intro d h; cases h
  | d :: ds => by
    intro x hx
    simp only [lshC, List.mem_cons] at hx
    rcases hx with rfl | hx
    · omega
    · exact lshC_dig p ds x hx
theorem lshC_num (p : Nat) : ∀ ds, (lshC p ds).1 * 10 ^ ds.length + numD (lshC p ds).2 = numD ds * p
  | [] => by simp [lshC, numD]
  | d :: ds => by
    have ih := lshC_num p ds
    simp only [lshC, numD, List.length_cons, lshC_length, Nat.pow_succ]
    generalize (lshC p ds).1 = c at *
    generalize numD (lshC p ds).2 = q at *
    have h1 : (c + d * p) / 10 * (10 ^ ds.length * 10) + ((c + d * p) % 10 * 10 ^ ds.length + q) = (10 * ((c + d * p) / 10) + (c + d * p) % 10) * 10 ^ ds.length + q := by
      rw [Nat.add_mul, Nat.mul_comm (10 ^ ds.length) 10, ← Nat.mul_assoc, Nat.mul_comm _ 10, Nat.add_assoc]
    rw [h1, Nat.div_add_mod, Nat.add_mul, Nat.add_mul]
    rw [show d * 10 ^ ds.length * p = d * p * 10 ^ ds.length by rw [Nat.mul_assoc, Nat.mul_comm (10 ^ ds.length), ← Nat.mul_assoc]]
    omega
theorem lshC_carry {p : Nat} (hp : 0 < p) : ∀ {ds : List Nat}, DigL ds → (lshC p ds).1 < p
  | [], _ => hp
  | d :: ds, h => by
    have ih := lshC_carry hp (ds := ds) fun x hx => h x (by simp [hx])
    have h0 := h d (by simp)
    have hm : d * p ≤ 9 * p := Nat.mul_le_mul_right _ h0
    simp only [lshC]
    omega
def extD : Nat → Nat → List Nat
  | 0, _ => []
  | f + 1, n => if n = 0 then [] else extD f (n / 10) ++ [n % 10]
theorem extD_dig : ∀ f n, DigL (extD f n)
  | 0, _ => by intro d h; cases h
  | f + 1, n => by
    intro x hx
    simp only [extD] at hx
    split at hx
    · cases hx
    · simp only [List.mem_append, List.mem_singleton] at hx
      rcases hx with hx | rfl
      · exact extD_dig f _ x hx
      · omega
theorem extD_num : ∀ f n, n < 10 ^ f → numD (extD f n) = n
  | 0, n, h => by simp at h; subst h; rfl
  | f + 1, n, h => by
    simp only [extD]
    split
    · rename_i h0; simp [numD, h0]
    · rw [numD_append, extD_num f (n / 10) (by rw [Nat.pow_succ] at h; omega)]
      simp only [numD, List.length_cons, List.length_nil]
      omega
theorem extD_head : ∀ f n, n < 10 ^ f → n ≠ 0 → ∃ d ds, extD f n = d :: ds ∧ d ≠ 0
  | 0, n, h, h0 => by simp at h; exact absurd h h0
  | f + 1, n, h, h0 => by
    simp only [extD, if_neg h0]
    by_cases h1 : n / 10 = 0
    · have : extD f (n / 10) = [] := by cases f <;> simp [extD, h1]
      rw [this]
      exact ⟨n % 10, [], rfl, by omega⟩
    · obtain ⟨d, ds, e, hd⟩ := extD_head f (n / 10) (by rw [Nat.pow_succ] at h; omega) h1
      exact ⟨d, ds ++ [n % 10], by rw [e]; rfl, hd⟩
theorem len_of_bounds {n a b : Nat} (h1 : 10 ^ a ≤ n) (h2 : n < 10 ^ b) : a < b := by
  apply Classical.byContradiction
  intro h
  have := Nat.pow_le_pow_right (n := 10) (by decide) (Nat.le_of_not_lt h)
  omega
def lshD (p : Nat) (ds : List Nat) : List Nat := extD 20 (lshC p ds).1 ++ (lshC p ds).2
theorem lshD_num {p : Nat} (hp : 0 < p) (hp2 : p < 10 ^ 20) {ds : List Nat} (h : DigL ds) : numD (lshD p ds) = numD ds * p := by
  have hc := lshC_carry hp h
  unfold lshD
  rw [numD_append, extD_num 20 _ (Nat.lt_trans hc hp2), lshC_length, lshC_num]
theorem lshD_dig (p : Nat) (ds : List Nat) : DigL (lshD p ds) := by
  intro x hx
  rcases List.mem_append.1 hx with hx | hx
  · exact extD_dig _ _ x hx
  · exact lshC_dig _ _ x hx
theorem lshD_length {p : Nat} (hp : 0 < p) (hp2 : p < 10 ^ 20) {ds : List Nat} (h : DigL ds) {m : Nat} (h1 : 10 ^ m ≤ numD ds * p) (h2 : numD ds * p < 10 ^ (m + 1)) (hm : ds.length ≤ m + 1) : (lshD p ds).length = m + 1 := by
  have hn := lshD_num hp hp2 h
  have hlt := numD_lt (lshD_dig p ds)
  rw [hn] at hlt
  have a := len_of_bounds h1 hlt
  have hc := lshC_carry hp h
  by_cases h0 : (lshC p ds).1 = 0
  · have he : lshD p ds = (lshC p ds).2 := by unfold lshD; rw [h0]; rfl
    rw [he, lshC_length] at a ⊢
    omega
  · obtain ⟨d, l, e, hd⟩ := extD_head 20 _ (Nat.lt_trans hc hp2) h0
    have he : lshD p ds = d :: (l ++ (lshC p ds).2) := by unfold lshD; rw [e]; rfl
    have hge := numD_ge (ds := l ++ (lshC p ds).2) hd
    rw [← he, hn] at hge
    have b := len_of_bounds hge h2
    rw [he, List.length_cons] at a ⊢
    omega
def lessP : List Nat → List Nat → Bool
  | _, [] => false
  | [], _ :: _ => true
  | b :: bs, s :: ss => if b = s then lessP bs ss else decide (b < s)
def endsD : List Nat → Bool
  | [] => true
  | [d] => d != 0
  | _ :: ds => endsD ds
theorem endsD_pos : ∀ {s : Nat} {ss : List Nat}, endsD (s :: ss) = true → 0 < numD (s :: ss)
  | s, [], h => by simp [endsD] at h; simp [numD]; omega
  | s, t :: ss, h => by
    have := endsD_pos (s := t) (ss := ss) h
    rw [numD]
    omega
theorem endsD_tail {s : Nat} {ss : List Nat} (h : endsD (s :: ss) = true) : endsD ss = true := by
  cases ss with
  | nil => rfl
  | cons t ss => exact h
theorem lessP_iff : ∀ {b s : List Nat}, DigL b → DigL s → endsD s = true → (lessP b s = true ↔ numD b * 10 ^ s.length < numD s * 10 ^ b.length)
  | b, [], _, _, _ => by cases b <;> simp [lessP, numD]
  | [], s :: ss, _, _, he => by
    have := endsD_pos he
    simp only [lessP, numD, List.length_nil, Nat.pow_zero, Nat.zero_mul, Nat.mul_one, true_iff]
    exact this
  | b :: bs, s :: ss, hb, hs, he => by
    have hb' : DigL bs := fun x hx => hb x (by simp [hx])
    have hs' : DigL ss := fun x hx => hs x (by simp [hx])
    have ih := lessP_iff hb' hs' (endsD_tail he)
    have lb := numD_lt hb'
    have ls := numD_lt hs'
    simp only [lessP, numD, List.length_cons, Nat.pow_succ]
    generalize hB : 10 ^ bs.length = B at *
    generalize hS : 10 ^ ss.length = S at *
    have hBp : 0 < B := by rw [← hB]; exact Nat.pow_pos (by decide)
    have hSp : 0 < S := by rw [← hS]; exact Nat.pow_pos (by decide)
    generalize numD bs = x at *
    generalize numD ss = y at *
    have e1 : (b * B + x) * (S * 10) = (b * (B * S) + x * S) * 10 := by rw [← Nat.mul_assoc, Nat.add_mul, Nat.mul_assoc]
    have e2 : (s * S + y) * (B * 10) = (s * (B * S) + y * B) * 10 := by rw [← Nat.mul_assoc, Nat.add_mul, Nat.mul_assoc, Nat.mul_comm S B]
    rw [e1, e2]
    have hx : x * S < B * S := Nat.mul_lt_mul_of_pos_right lb hSp
    have hy : y * B < B * S := by rw [Nat.mul_comm B S]; exact Nat.mul_lt_mul_of_pos_right ls hBp
    generalize x * S = X at *
    generalize y * B = Y at *
    generalize B * S = W at *
    split
    · rename_i heq
      subst heq
      rw [ih]
      omega
    · rename_i hne
      simp only [decide_eq_true_eq]
      rcases Nat.lt_or_gt_of_ne hne with h | h
      · have hm : (b + 1) * W ≤ s * W := Nat.mul_le_mul_right _ h
        rw [Nat.add_mul] at hm
        constructor
        · intro _; omega
        · intro _; exact h
      · have hm : (s + 1) * W ≤ b * W := Nat.mul_le_mul_right _ h
        rw [Nat.add_mul] at hm
        constructor
        · intro hh; omega
        · intro hh; omega
structure Cheat (k delta : Nat) (cut : List Nat) : Prop where
  dig : DigL cut
  ends : endsD cut = true
  num : numD cut * 2 ^ k = 10 ^ k
  len : cut.length + delta = k + 1
  lo : 10 ^ delta ≤ 10 * 2 ^ k
  hi : 2 ^ k < 10 ^ delta
  pos : 0 < delta
  top : k < 61
theorem Cheat.length {k delta : Nat} {cut ds : List Nat} {d : Nat} (h : Cheat k delta cut) (hd : DigL (d :: ds)) (h0 : d ≠ 0) :
    (lshD (2 ^ k) (d :: ds)).length = ds.length + 1 + delta - (if lessP (d :: ds) cut then 1 else 0) := by
  have hp : 0 < 2 ^ k := Nat.pow_pos (by decide)
  have hp2 : 2 ^ k < 10 ^ 20 := Nat.lt_of_le_of_lt (Nat.pow_le_pow_right (by decide) (Nat.le_of_lt_succ h.top)) (by decide)
  have lo := numD_ge (ds := ds) h0
  have hi := numD_lt hd
  rw [List.length_cons] at hi
  have hpos := h.pos
  have hl := h.len
  have hlo := h.lo
  have hhi := h.hi
  have hiff := lessP_iff hd h.dig h.ends
  rw [List.length_cons] at hiff
  have hnum := h.num
  have hc : 0 < 10 ^ cut.length := Nat.pow_pos (by decide)
  split
  · rename_i hlt
    have hc1 := hiff.1 hlt
    obtain ⟨e, rfl⟩ : ∃ e, delta = e + 1 := ⟨delta - 1, by omega⟩
    have goal1 : 10 ^ (ds.length + e) ≤ numD (d :: ds) * 2 ^ k := by
      rw [Nat.pow_add]
      refine Nat.mul_le_mul lo ?_
      rw [Nat.pow_succ] at hlo
      omega
    have goal2 : numD (d :: ds) * 2 ^ k < 10 ^ (ds.length + e + 1) := by
      apply Nat.lt_of_mul_lt_mul_right (a := 10 ^ cut.length)
      have s1 : numD (d :: ds) * 2 ^ k * 10 ^ cut.length = numD (d :: ds) * 10 ^ cut.length * 2 ^ k := by rw [Nat.mul_assoc, Nat.mul_comm (2 ^ k), ← Nat.mul_assoc]
      have s2 : numD cut * 10 ^ (ds.length + 1) * 2 ^ k = 10 ^ (ds.length + e + 1) * 10 ^ cut.length := by
        rw [Nat.mul_assoc, Nat.mul_comm (10 ^ (ds.length + 1)), ← Nat.mul_assoc, hnum, ← Nat.pow_add, ← Nat.pow_add]
        congr 1; omega
      rw [s1, ← s2]
      exact Nat.mul_lt_mul_of_pos_right hc1 hp
    rw [lshD_length hp hp2 hd goal1 goal2 (by rw [List.length_cons]; omega)]
    omega
  · rename_i hlt
    have hc1 : ¬ numD (d :: ds) * 10 ^ cut.length < numD cut * 10 ^ (ds.length + 1) := fun hh => hlt (hiff.2 hh)
    obtain ⟨e, rfl⟩ : ∃ e, delta = e + 1 := ⟨delta - 1, by omega⟩
    have goal1 : 10 ^ (ds.length + e + 1) ≤ numD (d :: ds) * 2 ^ k := by
      refine Nat.le_of_mul_le_mul_right (c := 10 ^ cut.length) ?_ hc
      have s1 : numD (d :: ds) * 2 ^ k * 10 ^ cut.length = numD (d :: ds) * 10 ^ cut.length * 2 ^ k := by rw [Nat.mul_assoc, Nat.mul_comm (2 ^ k), ← Nat.mul_assoc]
      have s2 : numD cut * 10 ^ (ds.length + 1) * 2 ^ k = 10 ^ (ds.length + e + 1) * 10 ^ cut.length := by
        rw [Nat.mul_assoc, Nat.mul_comm (10 ^ (ds.length + 1)), ← Nat.mul_assoc, hnum, ← Nat.pow_add, ← Nat.pow_add]
        congr 1; omega
      rw [s1, ← s2]
      exact Nat.mul_le_mul_right _ (Nat.le_of_not_lt hc1)
    have goal2 : numD (d :: ds) * 2 ^ k < 10 ^ (ds.length + e + 1 + 1) := by
      have : 10 ^ (ds.length + e + 1 + 1) = 10 ^ (ds.length + 1) * 10 ^ (e + 1) := by rw [← Nat.pow_add]; congr 1; omega
      rw [this]
      exact Nat.mul_lt_mul_of_lt_of_lt hi hhi
    rw [lshD_length hp hp2 hd goal1 goal2 (by rw [List.length_cons]; omega)]
    omega
end Go.Proofs.YtaecbclonmhbcaaGreatDoor

namespace Go.Proofs.YtaecbclonmhbcaaGreatDoor
open Go.RowKit
structure DecAt (w : World) (b : Nat) (f : Nat → Int) (nd : Nat) (dp : Int) : Prop where
  dig : ∀ i, i < 800 → w.cell? ⟨b, i, none⟩ = some (.int .u8 (f i))
  nd : w.cell? ⟨b, 800, none⟩ = some (.int .i64 nd)
  dp : w.cell? ⟨b, 801, none⟩ = some (.int .i64 dp)
  neg : ∃ x, w.cell? ⟨b, 802, none⟩ = some (.bool x)
  tr : ∃ x, w.cell? ⟨b, 803, none⟩ = some (.bool x)
  free : ∀ i, w.frozen? ⟨b, i, none⟩ = false
theorem cell_set_same {w : World} {a : Addr} {x v : Value} (h : w.cell? a = some x) : (w.setCell a v).cell? a = some v := by
  exact World.cell?_setCell_same _ _ _ h
theorem cell_set_other {w : World} {b i j : Nat} {x v : Value} (h : w.cell? ⟨b, i, none⟩ = some x) (hn : i ≠ j) : (w.setCell ⟨b, j, none⟩ v).cell? ⟨b, i, none⟩ = some x := by
  rw [← h]
  exact World.cell?_setCell_other _ _ _ _ (by intro e; injection e with _ e2; exact hn e2.symm)
theorem free_set {w : World} {b j : Nat} {v : Value} (h : ∀ i, w.frozen? ⟨b, i, none⟩ = false) (i : Nat) : (w.setCell ⟨b, j, none⟩ v).frozen? ⟨b, i, none⟩ = false := by
  rw [← h i]
  simp [go_sem]
theorem DecAt.drewN {w : World} {b : Nat} {f : Nat → Int} {nd : Nat} {dp : Int} (h : DecAt w b f nd dp) (n : Nat) : DecAt (w.drewN n) b f nd dp := ⟨h.dig, h.nd, h.dp, h.neg, h.tr, h.free⟩
end Go.Proofs.YtaecbclonmhbcaaGreatDoor

namespace Go.Proofs.YtaecbclonmhbcaaGreatDoor
open Go.RowKit
structure DGood (f : Nat → Int) (nd : Nat) : Prop where
  pos : 1 ≤ nd
  most : nd ≤ 800
  dig : ∀ i, i < nd → 48 ≤ f i ∧ f i ≤ 57
  head : 49 ≤ f 0
end Go.Proofs.YtaecbclonmhbcaaGreatDoor

namespace Go.Proofs.YtaecbclonmhbcaaGreatDoor
open Go.RowKit
def Spells (s : ByteArray) (cut : List Nat) : Prop := s.size = cut.length ∧ ∀ i (h : i < s.size), (s[i].toNat : Int) = (cut.getD i 0 : Nat) + 48
end Go.Proofs.YtaecbclonmhbcaaGreatDoor

namespace Go.Proofs.YtaecbclonmhbcaaGreatDoor
open Go.RowKit
structure CheatT (w : World) (b : Nat) : Prop where
  ne : 13 ≠ b
  at_ : ∃ g o cp, g ≠ b ∧ w.cell? ⟨13, 0, none⟩ = some (.slice (some ⟨g, o, none⟩) 61 cp) ∧ 61 ≤ cp ∧ ∀ k, 1 ≤ k → k ≤ 60 →
    ∃ (delta : Nat) (s : ByteArray) (cut : List Nat), w.cell? ⟨g, o + k * 2, none⟩ = some (.int .i64 delta) ∧ w.cell? ⟨g, o + k * 2 + 1, none⟩ = some (.string s) ∧ Spells s cut ∧ s.size ≤ 800 ∧ Cheat k delta cut
theorem DigL.drop {l : List Nat} (h : DigL l) (k : Nat) : DigL (l.drop k) := fun x hx => h x (List.mem_of_mem_drop hx)
theorem DigL.getD {l : List Nat} (h : DigL l) (k : Nat) : l.getD k 0 ≤ 9 := by
  by_cases hk : k < l.length
  · have : l.getD k 0 = l[k] := by simp [List.getD, hk]
    rw [this]; exact h _ (List.getElem_mem hk)
  · have : l.getD k 0 = 0 := by simp [List.getD, hk]
    omega
end Go.Proofs.YtaecbclonmhbcaaGreatDoor

namespace Go.Proofs.YtaecbclonmhbcaaGreatDoor
open Go.RowKit
theorem CheatT.kept {w w' : World} {b : Nat} (h : CheatT w b) (hK : Kept b w w') : CheatT w' b := by
  obtain ⟨h13, g, o, cp, hg, h1, h2, h3⟩ := h
  refine ⟨h13, g, o, cp, hg, hK.cell h1 h13, h2, fun k hk hk2 => ?_⟩
  obtain ⟨d, s, cut, a1, a2, a3⟩ := h3 k hk hk2
  exact ⟨d, s, cut, hK.cell a1 hg, hK.cell a2 hg, a3⟩
def DecSome (w : World) (b : Nat) : Prop := ∃ (g : Nat → Int) (nd : Nat) (dp : Int), DecAt w b g nd dp ∧ DGood g nd
end Go.Proofs.YtaecbclonmhbcaaGreatDoor

namespace Go.Proofs.YtaecbclonmhbcaaGreatDoor
open Go.RowKit
def b2 (b : Bool) : Int := if b then 1 else 0
end Go.Proofs.YtaecbclonmhbcaaGreatDoor

namespace Go.Proofs.YtaecbclonmhbcaaGreatDoor
open Go.RowKit
structure PowT (k : FloatKind) (v n : Nat) (w : World) (T : Nat → Nat) : Prop where
  at_ : ∃ g o cp, w.cell? ⟨v, 0, none⟩ = some (.slice (some ⟨g, o, none⟩) n cp) ∧ ∀ i, i < n → w.cell? ⟨g, o + i, none⟩ = some (.float k (T i))
end Go.Proofs.YtaecbclonmhbcaaGreatDoor
